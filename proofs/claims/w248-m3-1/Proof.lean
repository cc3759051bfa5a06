import JvmDerived
import JvmDerived.Pilot.@@N@@Statement
import JvmDerived.Pilot.@@N@@Code
set_option linter.unusedVariables false
set_option linter.unusedSimpArgs false

namespace Jvm.Pilot.@@N@@
open Jvm Jvm.ClassFile Sem Op Lib Jvm.Free Jvm.Stand Jvm.LawKit Jvm.RoadKit Bundle Jvm.Pilot.@@N@@.Jvm.D
section Own
variable {p : Program} {l : Launch} {e : Env} {R : Room} {s : State} {m : MethodId} {args : Array Value} {below : List Frame} {meth : Method} {c : Code} {T T' : State} {cells slots n0 kk nn : Nat} {Z : State} {a0 : Array Value} {h h' : Heap} {Q : Option Value → Heap → Prop} {FE : Outcome → State → List Loc → Prop} {g g' : JFrame} {y : MethodName} {bytes : ByteArray} {maxL : Nat} {ret : Option FieldType}
/-- where a walk stands: its fixed facts, and the library's Stand with its written places hidden (all of them new) -/
def OAt (n0 : Nat) (Z : State) (y : MethodName) (bytes : ByteArray) (maxL : Nat) (ret : Option FieldType) (p : Program) (l : Launch) (e : Env) (R : Room) (s : State) (m : MethodId) (args : Array Value) (below : List Frame) (meth : Method) (c : Code) (T : State) (h : Heap) (cells slots : Nat) : Prop :=
  (p.tables.exec = Jvm.exec ∧ Z.Warmed39 s.vm ∧ s.vm.findClass y.cls = some m.cls ∧ meth.name = y.name ∧ c.code = bytes ∧ c.maxLocals = maxL ∧ meth.sig.returnType = ret ∧ meth.locks = false) ∧
    ∃ locs, Stand p l e R s m args below meth c T locs cells slots ∧ Fr n0 locs ∧ T.heap = h
/-- the run from here ends, returns, Q holds of what it returns and of the heap, and E of the end -/
def OFin (n0 : Nat) (p : Program) (e : Env) (FE : Outcome → State → List Loc → Prop) (below : List Frame) (Q : Option Value → Heap → Prop) (T : State) (g : JFrame) : Prop :=
  ∃ s₂ o, Steps p.tables e below (T.setTop g) s₂ ∧ s₂.status = .running ∧ Ended s₂ below o ∧ ∃ v L, o = .returned v ∧ (Q v s₂.heap ∧ Fr n0 L) ∧ FE o s₂ L
abbrev OMeets (l : Launch) (Z : State) (y : MethodName) (ws : List Jvm.Cond) (bytes : ByteArray) (maxL : Nat) (ret : Option FieldType) (rm : Room) (as' : Array Value) (h0 : Heap) (n0 : Nat) (Q : Option Value → Heap → Prop) : Prop :=
  MetFree l y (head1 (Jvm.Cond.code y bytes maxL ret :: ws) rm) (fun a U => a = as' ∧ Z.Warmed39 U.vm ∧ U.heap = h0) (fun _ _ _ _ _ => True) (fun _ U o U' => ∃ v L, o = .returned v ∧ (Q v U'.heap ∧ Fr n0 L) ∧ FrameEnd U o U' L rm.cells rm.slots)
theorem o_enter {ws : List Jvm.Cond} {rm : Room} {as' : Array Value} {h0 : Heap} (pn : plainFor y = true)
    (body : ∀ (p : Program) (e : Env) (s : State) (m : MethodId) (below : List Frame) (meth : Method) (c : Code) (s₁ : State), OAt n0 Z y bytes maxL ret p l e rm s m as' below meth c s₁ h0 0 0 → OFin n0 p e (fun o t L => FrameEnd s o t L rm.cells rm.slots) below Q s₁ (entryFrame m as' maxL)) :
    OMeets l Z y ws bytes maxL ret rm as' h0 n0 Q := by
  refine MetFree.of_bodySF pn hisR ?_
  intro p e s m args below meth c s₁ Bd hml0 hP hK
  obtain ⟨rfl, hZ, hh⟩ := hP
  have e0 : s₁.heap = h0 := by rw [← hh, Bd.state]; rfl
  exact body p e s m below meth c s₁ ⟨⟨Bd.exec, hZ, findClass_of_methodNamed Bd.named, (name_of_methodNamed Bd.named Bd.method).1, Bd.bytes, hml0, Bd.returns, Bd.notSynchronized⟩, [], Stand.of_body Bd, Fr.nil n0, e0⟩
theorem OFin.cast (q : g = g') (k : OFin n0 p e FE below Q T g') : OFin n0 p e FE below Q T g := q ▸ k
theorem OFin.run (f : ∀ t, Steps p.tables e below (T'.setTop g') t → Steps p.tables e below (T.setTop g) t) (k : OFin n0 p e FE below Q T' g') : OFin n0 p e FE below Q T g := by
  obtain ⟨s₂, o, h1, h2⟩ := k; exact ⟨s₂, o, f _ h1, h2⟩
theorem OFin.imp {Q' : Option Value → Heap → Prop} (k : OFin n0 p e FE below Q' T g) (f : ∀ v h, Q' v h → Q v h) : OFin n0 p e FE below Q T g := by
  obtain ⟨s₂, o, h1, h2, h3, v, L, h4, h5, h6⟩ := k; exact ⟨s₂, o, h1, h2, h3, v, L, h4, ⟨f _ _ h5.1, h5.2⟩, h6⟩
/-- a step of the single-step laws -/
theorem OAt.step (X : OAt n0 Z y bytes maxL ret p l e R s m args below meth c T h cells slots) (f : At T m c below → p.tables.exec = Jvm.exec → c.code = bytes → ∀ t, Steps p.tables e below (T.setTop g') t → Steps p.tables e below (T.setTop g) t) (k : OFin n0 p e FE below Q T g') : OFin n0 p e FE below Q T g := by
  obtain ⟨⟨hx, -, -, -, hby, -⟩, locs, X, -⟩ := X
  exact OFin.run (f X.here hx hby) k
theorem OAt.retN (X : OAt n0 Z y bytes maxL (some t) p l e R s m args below meth c T h cells slots) (ht : t = .boolean ∨ t = .byte ∨ t = .char ∨ t = .short) {pc : Nat} {Ls : Array Slot} {z : Int32} {rest : List Value} (hd : decode bytes pc = .ok (.ireturn, 1)) (hE : ∀ (t : State) (v : Option Value) (L : List Loc), t.heap = h → t.vm = T.vm → FrameEnd s (.returned v) t L cells slots → FE (.returned v) t L) (hQ : Q (some (.int (nar t z))) h) : OFin n0 p e FE below Q T (mkF m pc Ls (.int z :: rest)) := by
  obtain ⟨⟨hx, -, -, -, hby, -, hret, hlk⟩, locs, X, N, eh⟩ := X
  obtain ⟨fs, hr, hrun, hended, hW, hsame⟩ := X.leave (v := some (.int (nar t z))) (fun h => by rw [hret] at h; cases h) hlk
  exact ⟨_, _, Jvm.RoadKit.retN X hx hret ht (hb hby hd) hr, hrun, hended, _, _, rfl, ⟨by show Q _ T.heap; rw [eh]; exact hQ, N⟩, hE _ _ _ eh rfl ⟨⟨_, rfl⟩, hW, hsame⟩⟩
theorem OAt.retI (X : OAt n0 Z y bytes maxL (some .int) p l e R s m args below meth c T h cells slots) {pc : Nat} {Ls : Array Slot} {z : Int32} {rest : List Value} (hd : decode bytes pc = .ok (.ireturn, 1)) (hE : ∀ (t : State) (v : Option Value) (L : List Loc), t.heap = h → t.vm = T.vm → FrameEnd s (.returned v) t L cells slots → FE (.returned v) t L) (hQ : Q (some (.int z)) h) : OFin n0 p e FE below Q T (mkF m pc Ls (.int z :: rest)) := by
  obtain ⟨⟨hx, -, -, -, hby, -, hret, hlk⟩, locs, X, N, eh⟩ := X
  obtain ⟨fs, hr, hrun, hended, hW, hsame⟩ := X.leave (v := some (.int z)) (fun h => by rw [hret] at h; cases h) hlk
  exact ⟨_, _, retOut X hx hret rfl (Or.inl ⟨rfl, Or.inl rfl, _, rfl⟩) (hb hby hd) hr, hrun, hended, _, _, rfl, ⟨by show Q _ T.heap; rw [eh]; exact hQ, N⟩, hE _ _ _ eh rfl ⟨⟨_, rfl⟩, hW, hsame⟩⟩
theorem OAt.retL (X : OAt n0 Z y bytes maxL (some .long) p l e R s m args below meth c T h cells slots) {pc : Nat} {Ls : Array Slot} {z : Int64} {rest : List Value} (hd : decode bytes pc = .ok (.lreturn, 1)) (hE : ∀ (t : State) (v : Option Value) (L : List Loc), t.heap = h → t.vm = T.vm → FrameEnd s (.returned v) t L cells slots → FE (.returned v) t L) (hQ : Q (some (.long z)) h) : OFin n0 p e FE below Q T (mkF m pc Ls (.long z :: rest)) := by
  obtain ⟨⟨hx, -, -, -, hby, -, hret, hlk⟩, locs, X, N, eh⟩ := X
  obtain ⟨fs, hr, hrun, hended, hW, hsame⟩ := X.leave (v := some (.long z)) (fun h => by rw [hret] at h; cases h) hlk
  exact ⟨_, _, retOut X hx hret rfl (Or.inr (Or.inl ⟨rfl, rfl, _, rfl⟩)) (hb hby hd) hr, hrun, hended, _, _, rfl, ⟨by show Q _ T.heap; rw [eh]; exact hQ, N⟩, hE _ _ _ eh rfl ⟨⟨_, rfl⟩, hW, hsame⟩⟩
theorem OAt.retR (X : OAt n0 Z y bytes maxL (some t) p l e R s m args below meth c T h cells slots) (ht : t.isReference = true) {pc : Nat} {Ls : Array Slot} {w : Value} {rest : List Value} (hw : w.isRef = true) (hd : decode bytes pc = .ok (.areturn, 1)) (hE : ∀ (t : State) (v : Option Value) (L : List Loc), t.heap = h → t.vm = T.vm → FrameEnd s (.returned v) t L cells slots → FE (.returned v) t L) (hQ : Q (some w) h) : OFin n0 p e FE below Q T (mkF m pc Ls (w :: rest)) := by
  obtain ⟨⟨hx, -, -, -, hby, -, hret, hlk⟩, locs, X, N, eh⟩ := X
  have hna : narrow t w = w := by rcases ref_cases hw with rfl | ⟨a, rfl⟩ <;> cases t <;> first | rfl | cases ht
  obtain ⟨fs, hr, hrun, hended, hW, hsame⟩ := X.leave (v := some w) (fun h => by rw [hret] at h; cases h) hlk
  exact ⟨_, _, retOut X hx hret hna (Or.inr (Or.inr (Or.inr (Or.inr ⟨rfl, ht, hw⟩)))) (hb hby hd) hr, hrun, hended, _, _, rfl, ⟨by show Q _ T.heap; rw [eh]; exact hQ, N⟩, hE _ _ _ eh rfl ⟨⟨_, rfl⟩, hW, hsame⟩⟩
theorem OAt.retV (X : OAt n0 Z y bytes maxL none p l e R s m args below meth c T h cells slots) {pc : Nat} {Ls : Array Slot} (hd : decode bytes pc = .ok (.return_, 1)) (hE : ∀ (t : State) (v : Option Value) (L : List Loc), t.heap = h → t.vm = T.vm → FrameEnd s (.returned v) t L cells slots → FE (.returned v) t L) (hQ : Q none h) : OFin n0 p e FE below Q T (mkF m pc Ls []) := by
  obtain ⟨⟨hx, -, -, -, hby, -, hret, hlk⟩, locs, X, N, eh⟩ := X
  obtain ⟨fs, hr, hrun, hended, hW, hsame⟩ := X.leave (v := none) (fun _ => rfl) hlk
  exact ⟨_, _, X.returnOut hx hret (hb hby hd) hr, hrun, hended, _, _, rfl, ⟨by show Q _ T.heap; rw [eh]; exact hQ, N⟩, hE _ _ _ eh rfl ⟨⟨_, rfl⟩, hW, hsame⟩⟩
theorem OAt.ldcI (X : OAt n0 Z y bytes maxL ret p l e R s m args below meth c T h cells slots) {index : Nat} {v : Int32} (w : (Jvm.Cond.constant y.cls index v).before a0 Z = true) (hg : g.method = m) (hd : decode bytes g.pc = .ok (.ldc index, 2))
    (k : OFin n0 p e FE below Q T { g with pc := g.pc + 2, stack := .int v :: g.stack }) : OFin n0 p e FE below Q T g := by
  obtain ⟨⟨hx, hZ, hown, -, hby, -⟩, locs, X, -⟩ := X
  exact OFin.run (X.ldcInt hx hown (mvT hZ w) hg (hb hby hd)) k
theorem OAt.ldcwI (X : OAt n0 Z y bytes maxL ret p l e R s m args below meth c T h cells slots) {index : Nat} {v : Int32} (w : (Jvm.Cond.constant y.cls index v).before a0 Z = true) (hg : g.method = m) (hd : decode bytes g.pc = .ok (.ldc_w index, 3))
    (k : OFin n0 p e FE below Q T { g with pc := g.pc + 3, stack := .int v :: g.stack }) : OFin n0 p e FE below Q T g := by
  obtain ⟨⟨hx, hZ, hown, -, hby, -⟩, locs, X, -⟩ := X
  exact OFin.run (X.ldcwInt hx hown (mvT hZ w) hg (hb hby hd)) k
theorem OAt.ldcL (X : OAt n0 Z y bytes maxL ret p l e R s m args below meth c T h cells slots) {index : Nat} {v : Int64} (w : (Jvm.Cond.constantLong y.cls index v).before a0 Z = true) (hg : g.method = m) (hd : decode bytes g.pc = .ok (.ldc2_w index, 3))
    (k : OFin n0 p e FE below Q T { g with pc := g.pc + 3, stack := .long v :: g.stack }) : OFin n0 p e FE below Q T g := by
  obtain ⟨⟨hx, hZ, hown, -, hby, -⟩, locs, X, -⟩ := X
  exact OFin.run (X.ldc2Long hx hown (mvT hZ w) hg (hb hby hd)) k
theorem OAt.getF (X : OAt n0 Z y bytes maxL ret p l e R s m args below meth c T h cells slots) {O n d : String} {index : Nat} (w : (Jvm.Cond.fieldLink y.cls index O n d).before a0 Z = true) {a : Addr} {v : Value} (F : Fld Z h a O n d v) (hg : g.method = m) {rest : List Value} (hs : g.stack = .ref a :: rest) (hd : decode bytes g.pc = .ok (.getfield index, 3))
    (k : ∀ T', OAt n0 Z y bytes maxL ret p l e R s m args below meth c T' h cells slots → OFin n0 p e FE below Q T' { g with pc := g.pc + 3, stack := v :: rest }) : OFin n0 p e FE below Q T g := by
  obtain ⟨C, locs, X, N, eh⟩ := X
  obtain ⟨hx, hZ, hown, -, hby, -⟩ := id C
  obtain ⟨T', X', e', st⟩ := Jvm.RoadKit.getF X hx hZ hown (host := "") (Or.inl w) Via.refl eh F hg hs (hb hby hd)
  exact OFin.run st (k T' ⟨C, locs, X', N, e'⟩)
theorem OAt.getS (X : OAt n0 Z y bytes maxL ret p l e R s m args below meth c T h cells slots) {O n d : String} {index : Nat} (w : (Jvm.Cond.fieldLink y.cls index O n d).before a0 Z = true) {v : Value} (F : Sta Z h O n d v) (hg : g.method = m) (hd : decode bytes g.pc = .ok (.getstatic index, 3))
    (k : ∀ T', OAt n0 Z y bytes maxL ret p l e R s m args below meth c T' h cells slots → OFin n0 p e FE below Q T' { g with pc := g.pc + 3, stack := v :: g.stack }) : OFin n0 p e FE below Q T g := by
  obtain ⟨C, locs, X, N, eh⟩ := X
  obtain ⟨hx, hZ, hown, -, hby, -⟩ := id C
  obtain ⟨T', X', e', st⟩ := Jvm.RoadKit.getS X hx hZ hown w Via.refl eh F hg (hb hby hd) (host := "")
  exact OFin.run st (k T' ⟨C, locs, X', N, e'⟩)
theorem OAt.putF (X : OAt n0 Z y bytes maxL ret p l e R s m args below meth c T h cells slots) {O n d C : String} {index ki : Nat} {ty : FieldType} (w : (Jvm.Cond.fieldLink y.cls index O n d).before a0 Z = true) {a : Addr} {v old : Value} (F : Fld Z h a O n d old) (E : Exa Z h a C) (L : (Jvm.Cond.lays C O n d).before a0 Z = true ∨ ((Jvm.Cond.laysFinal C O n d).before a0 Z = true ∧ y.cls = O ∧ y.name = "<init>"))
    (wi : (Jvm.Cond.instantiable C ki).before a0 Z = true) (hty : parseFieldDescriptor d = some ty) (hn : narrow ty v = v) (hf : fits ty v = true) (hnew : n0 ≤ a) (hg : g.method = m) {rest : List Value} (hs : g.stack = v :: .ref a :: rest) (hd : decode bytes g.pc = .ok (.putfield index, 3))
    (k : ∀ T' h', OAt n0 Z y bytes maxL ret p l e R s m args below meth c T' h' cells slots → Wr h h' a (Jvm.RoadKit.slotOf Z O n d) v → OFin n0 p e FE below Q T' { g with pc := g.pc + 3, stack := rest }) : OFin n0 p e FE below Q T g := by
  obtain ⟨C, locs, X, N, eh⟩ := X
  obtain ⟨hx, hZ, hown, hnm, hby, -⟩ := id C
  obtain ⟨T', h', X', e', W, st⟩ := Jvm.RoadKit.putF X hx hZ hown (host := "") (Or.inl w) Via.refl eh F E (L.imp id fun q => ⟨q.1, q.2.1, hnm.trans q.2.2⟩) wi hty hn hf hg hs (hb hby hd)
  exact OFin.run st (k T' h' ⟨C, _, X', Fr.snoc X' N hnew, e'⟩ W)
theorem OAt.initO (X : OAt n0 Z y bytes maxL ret p l e R s m args below meth c T h cells slots) {idx : Nat} (w1 : (Jvm.Cond.methodLink y.cls idx Lib.objectInit).before a0 Z = true) (w2 : (Jvm.Cond.instanceMethod Lib.objectInit).before a0 Z = true) (w3 : (Jvm.Cond.code Lib.objectInit ⟨#[0xb1]⟩ 1 none).before a0 Z = true) (hg : g.method = m) (hsize : g.locals.size = maxL) {a : Addr} {rest : List Value} (hs : g.stack = .ref a :: rest) (hd : decode bytes g.pc = .ok (.invokespecial idx, 3))
    (hf : 1 ≤ R.frames) {W : Nat} (hW : 2 * g.monitorRoom + (rest.map fun v => v.category).sum ≤ W) (hl : W + 12 ≤ R.locals)
    (k : ∀ T', OAt n0 Z y bytes maxL ret p l e R s m args below meth c T' h cells slots → OFin n0 p e FE below Q T' { g with pc := g.pc + 3, stack := rest }) : OFin n0 p e FE below Q T g := by
  obtain ⟨C, locs, X, N, eh⟩ := X
  obtain ⟨hx, hZ, hown, -, hby, hml, -⟩ := id C
  obtain ⟨T', X', e', st⟩ := Jvm.RoadKit.initO X hx hZ hown w1 w2 w3 eh hg (hsize.trans hml.symm) hs (hb hby hd) hf hW hl
  exact OFin.run st (k T' ⟨C, locs, X', N, e'⟩)
theorem OAt.newO (X : OAt n0 Z y bytes maxL ret p l e R s m args below meth c T h cells slots) {C : String} {index n : Nat} (w : (Jvm.Cond.classLink y.cls index C).before a0 Z = true) (wi : (Jvm.Cond.instantiable C n).before a0 Z = true) (wz : (Jvm.Cond.initialized C).before a0 Z = true) (hg : g.method = m) (hd : decode bytes g.pc = .ok (.new index, 3)) (hc : cells + 1 ≤ R.cells) (hl : slots + n ≤ R.slots)
    (k : ∀ T' h' a, a = h.size → OAt n0 Z y bytes maxL ret p l e R s m args below meth c T' h' (cells + 1) (slots + n) → Ext h h' → Exa Z h' a C → (∀ {O nm d : String} {ty : FieldType}, Laid Z a0 C O nm d → parseFieldDescriptor d = some ty → Fld Z h' a O nm d (defaultValue ty)) → OFin n0 p e FE below Q T' { g with pc := g.pc + 3, stack := .ref a :: g.stack }) : OFin n0 p e FE below Q T g := by
  obtain ⟨C', locs, X, N, eh⟩ := X
  obtain ⟨hx, hZ, hown, -, hby, -⟩ := id C'
  obtain ⟨T', h', X', e', E, A, D, -, st⟩ := Jvm.RoadKit.newO X hx hZ hown w wi wz eh hg (hb hby hd) hc hl
  exact OFin.run st (k T' h' _ rfl ⟨C', locs, X', N, e'⟩ E A D)
theorem OAt.newP (X : OAt n0 Z y bytes maxL ret p l e R s m args below meth c T h cells slots) {aty : ArrayType} (w : (Jvm.Cond.arrayClass (newarray.typeOf aty)).before a0 Z = true) (hg : g.method = m) (hd : decode bytes g.pc = .ok (.newarray aty, 2)) {n : Int32} {rest : List Value} (hs : g.stack = .int n :: rest) (hn : ¬ n < 0) {cap : Nat} (hcap : n.toNatClampNeg ≤ cap) (hb8 : cap * 8 ≤ 536870912) (hc : cells + 1 ≤ R.cells) (hl : slots + cap ≤ R.slots) {ad : String} (had : "[" ++ (newarray.typeOf aty).toString = ad)
    (k : ∀ T' h' cA a, a = h.size → OAt n0 Z y bytes maxL ret p l e R s m args below meth c T' h' (cells + 1) (slots + cap) → Ext h h' → Arr Z h' a (newA cA (newarray.typeOf aty) n) (newarray.typeOf aty) → Exa Z h' a ad → OFin n0 p e FE below Q T' { g with pc := g.pc + 2, stack := .ref a :: rest }) : OFin n0 p e FE below Q T g := by
  obtain ⟨C', locs, X, N, eh⟩ := X
  obtain ⟨hx, hZ, hown, -, hby, -⟩ := id C'
  obtain ⟨T', h', cA, X', e', E, A, A', st⟩ := newPE X hx hZ w eh hg (hb hby hd) hs hn hcap hb8 hc hl had
  exact OFin.run st (k T' h' cA _ rfl ⟨C', locs, X', N, e'⟩ E A A')
theorem OAt.newRA (X : OAt n0 Z y bytes maxL ret p l e R s m args below meth c T h cells slots) {C : String} {ty : FieldType} {index : Nat} (hC : (FieldType.array ty).toString = C) (w1 : (Jvm.Cond.classLink y.cls index C).before a0 Z = true) (w2 : (Jvm.Cond.arrayOver (.array ty)).before a0 Z = true) (hg : g.method = m) (hd : decode bytes g.pc = .ok (.anewarray index, 3)) {n : Int32} {rest : List Value} (hs : g.stack = .int n :: rest) (hn : ¬ n < 0) {cap : Nat} (hcap : n.toNatClampNeg ≤ cap) (hb8 : cap * 8 ≤ 536870912) (hc : cells + 1 ≤ R.cells) (hl : slots + cap ≤ R.slots) {ad : String} (had : "[" ++ C = ad)
    (k : ∀ T' h' cA a, a = h.size → OAt n0 Z y bytes maxL ret p l e R s m args below meth c T' h' (cells + 1) (slots + cap) → Ext h h' → Arr Z h' a (newA cA (.array ty) n) (.array ty) → Exa Z h' a ad → OvrA Z cA ty C → OFin n0 p e FE below Q T' { g with pc := g.pc + 3, stack := .ref a :: rest }) : OFin n0 p e FE below Q T g := by
  obtain ⟨C', locs, X, N, eh⟩ := X
  obtain ⟨hx, hZ, hown, -, hby, -⟩ := id C'
  obtain ⟨T', h', cA, X', e', E, A, A', O, st⟩ := Jvm.RoadKit.newRA X hx hZ hown hC w1 w2 eh hg (hb hby hd) hs hn hcap hb8 hc hl had
  exact OFin.run st (k T' h' cA _ rfl ⟨C', locs, X', N, e'⟩ E A A' O)
theorem OAt.clone (X : OAt n0 Z y bytes maxL ret p l e R s m args below meth c T h cells slots) {ad : String} {index : Nat} (w1 : (Jvm.Cond.methodLink y.cls index ⟨ad, "clone", "()Ljava/lang/Object;"⟩).before a0 Z = true) (w2 : (Jvm.Cond.sameMethod ad "java/lang/Object" "clone" "()Ljava/lang/Object;").before a0 Z = true) (w3 : (Jvm.Cond.native ⟨"java/lang/Object", "clone", "()Ljava/lang/Object;"⟩).before a0 Z = true)
    (w4 : (Jvm.Cond.instanceMethod ⟨"java/lang/Object", "clone", "()Ljava/lang/Object;"⟩).before a0 Z = true) (w5 : (Jvm.Cond.selects ad ⟨ad, "clone", "()Ljava/lang/Object;"⟩ ⟨"java/lang/Object", "clone", "()Ljava/lang/Object;"⟩).before a0 Z = true) (w6 : (Jvm.Cond.castable ad "java/lang/Cloneable").before a0 Z = true)
    {a : Addr} {cl : Cell} {ty : FieldType} (A : Arr Z h a cl ty) (E : Exa Z h a ad) (F : FitC Z cl) (hg : g.method = m) (hsize : g.locals.size = maxL) {rest : List Value} (hs : g.stack = .ref a :: rest) (hd : decode bytes g.pc = .ok (.invokevirtual index, 3))
    (hf : 1 ≤ R.frames) {W cap : Nat} (hW : 2 * g.monitorRoom + (rest.map fun v => v.category).sum ≤ W) (hl : W + 14 ≤ R.locals) (hcap : cl.slots.size ≤ cap) (hc : cells + 1 ≤ R.cells) (hsl : slots + cap ≤ R.slots)
    (k : ∀ T' h' b, b = h.size → OAt n0 Z y bytes maxL ret p l e R s m args below meth c T' h' (cells + 1) (slots + cap) → Ext h h' → Arr Z h' b (Jvm.RoadKit.cloneOf cl) ty → Exa Z h' b ad → OFin n0 p e FE below Q T' { g with pc := g.pc + 3, stack := .ref b :: rest }) : OFin n0 p e FE below Q T g := by
  obtain ⟨C', locs, X, N, eh⟩ := X
  obtain ⟨hx, hZ, hown, -, hby, hml, -⟩ := id C'
  obtain ⟨T', h', X', e', E', A', A'', st⟩ := Jvm.RoadKit.cloneA X hx hZ hown w1 w2 w3 w4 w5 w6 eh A E F hg (hsize.trans hml.symm) hs (hb hby hd) hf hW hl hcap hc hsl
  exact OFin.run st (k T' h' _ rfl ⟨C', locs, X', N, e'⟩ E' A' A'')
theorem OAt.stR (X : OAt n0 Z y bytes maxL ret p l e R s m args below meth c T h cells slots) {a : Addr} {cl : Cell} {ty : FieldType} (A : Arr Z h a cl ty) {j : Int32} {v : Value} (hin : ¬ (j < 0 ∨ cl.slots.size ≤ j.toNatClampNeg)) (hty : ty.isReference = true) (F : Sto Z h a v) (hnew : n0 ≤ a) (hg : g.method = m) {rest : List Value} (hs : g.stack = v :: .int j :: .ref a :: rest) (hd : decode bytes g.pc = .ok (.aastore, 1))
    (k : ∀ T' h', OAt n0 Z y bytes maxL ret p l e R s m args below meth c T' h' cells slots → Wr h h' a j.toNatClampNeg v → OFin n0 p e FE below Q T' { g with pc := g.pc + 1, stack := rest }) : OFin n0 p e FE below Q T g := by
  obtain ⟨C, locs, X, N, eh⟩ := X
  obtain ⟨hx, hZ, hown, -, hby, -⟩ := id C
  obtain ⟨T', h', X', e', W, st⟩ := Jvm.RoadKit.stR X hx hZ eh A hin hty F hg hs (hb hby hd)
  exact OFin.run st (k T' h' ⟨C, _, X', Fr.snoc X' N hnew, e'⟩ W)
theorem OAt.acmp (X : OAt n0 Z y bytes maxL ret p l e R s m args below meth c T h cells slots) (hg : g.method = m) {cd : ACond} {u v : Value} (h1 : u.isRef = true) (h2 : v.isRef = true) {rest : List Value} {o : Int} {pc0 pc' : Nat} {same : Bool} (hpc : g.pc = pc0) (hd : decode bytes g.pc = .ok (.if_acmp cd o, 3)) (hs : g.stack = v :: u :: rest) (hq : decide (u = v) = same) (ho : 0 ≤ (pc0 : Int) + o) (hp : pc' = if acV cd same = true then ((pc0 : Int) + o).toNat else pc0 + 3)
    (k : OFin n0 p e FE below Q T { g with pc := pc', stack := rest }) : OFin n0 p e FE below Q T g := by
  obtain ⟨⟨hx, hZ, hown, -, hby, -⟩, locs, X, -⟩ := X
  exact OFin.run (fun t kk => Jvm.RoadKit.acmp X hx hg h1 h2 hpc (hb hby hd) hs hq ho hp kk) k
theorem OAt.irem (X : OAt n0 Z y bytes maxL ret p l e R s m args below meth c T h cells slots) (hg : g.method = m) {u v : Int32} {rest : List Value} (hd : decode bytes g.pc = .ok (.irem, 1)) (hs : g.stack = .int v :: .int u :: rest) (hv : v ≠ 0)
    (k : OFin n0 p e FE below Q T { g with pc := g.pc + 1, stack := .int (u % v) :: rest }) : OFin n0 p e FE below Q T g := by
  obtain ⟨⟨hx, hZ, hown, -, hby, -⟩, locs, X, -⟩ := X
  exact OFin.run (fun t kk => iremM X hx hg (hb hby hd) hs hv kk) k
theorem OAt.callS (X : OAt n0 Z y bytes maxL ret p l e R s m args below meth c T h cells slots) {index : Nat} {y' : MethodName} {bytes' : ByteArray} {maxL' : Nat} {ret' : Option FieldType} (w1 : (Jvm.Cond.methodLink y.cls index y').before a0 Z = true) (w2 : (Jvm.Cond.static y').before a0 Z = true) (w3 : (Jvm.Cond.initialized y'.cls).before a0 Z = true) (w4 : (Jvm.Cond.code y' bytes' maxL' ret').before a0 Z = true)
    (hy : y'.cls ≠ "java/lang/invoke/MethodHandle" ∧ y'.cls ≠ "java/lang/invoke/VarHandle") {rm : Room} {Qc : Option Value → Heap → Prop} {argsL rest : List Value} (hM : OMeets l Z y' [] bytes' maxL' ret' rm argsL.toArray h n0 Qc)
    (hg : g.method = m) (hsize : g.locals.size = maxL) {ps : List FieldType} {r : Option FieldType} (hpd : parseMethodDescriptor y'.desc = some ⟨ps, r⟩) (hlen : argsL.length = ps.length) (hs : g.stack = argsL.reverse ++ rest) {W : Nat} (hW : 2 * g.monitorRoom + (rest.map fun v => v.category).sum ≤ W) (hd : decode bytes g.pc = .ok (.invokestatic index, 3))
    (hf : rm.frames + 1 ≤ R.frames) (hl : W + (maxL' + 11) + rm.locals ≤ R.locals) (hc : cells + rm.cells ≤ R.cells) (hn : slots + rm.slots ≤ R.slots)
    (k : ∀ v T' h', OAt n0 Z y bytes maxL ret p l e R s m args below meth c T' h' (cells + rm.cells) (slots + rm.slots) → Qc v h' → OFin n0 p e FE below Q T' { g with pc := g.pc + 3, stack := v.toList ++ rest }) : OFin n0 p e FE below Q T g := by
  obtain ⟨C, locs, X, N, eh⟩ := X
  obtain ⟨hx, hZ, hown, -, hby, hml, -⟩ := id C
  obtain ⟨v, _, ⟨T1, L1, k1, n1⟩, -, X1, ⟨Lc, hQ, l1, y1, z1⟩, st⟩ := Jvm.LawKit.callS X hx hown (mvT hZ w1) (mvT hZ w2) (mvT hZ w3) (mvT hZ w4) hy
    (backOf (W := W) (Q := fun v h L => Qc v h ∧ Fr n0 L) hM hZ w4 w3 hf hl) hg (hsize.trans hml.symm) (lenOf hpd hlen) hs hW (hb hby hd) (fun _ _ => ⟨rfl, eh, hc, hn⟩)
  dsimp only [Pt.U, Pt.locs, Pt.cells, Pt.slots] at X1 l1 y1 z1 st hQ
  subst l1 y1 z1
  exact OFin.run st (k v T1 _ ⟨C, _, X1, N.app hQ.2, rfl⟩ hQ.1)
theorem OAt.callI (X : OAt n0 Z y bytes maxL ret p l e R s m args below meth c T h cells slots) {index : Nat} {y' : MethodName} {bytes' : ByteArray} {maxL' : Nat} (hy1 : y'.name = "<init>") (w1 : (Jvm.Cond.methodLink y.cls index y').before a0 Z = true) (w2 : (Jvm.Cond.instanceMethod y').before a0 Z = true) (w3 : (Jvm.Cond.initialized y'.cls).before a0 Z = true) (w4 : (Jvm.Cond.code y' bytes' maxL' none).before a0 Z = true)
    (hy : y'.cls ≠ "java/lang/invoke/MethodHandle" ∧ y'.cls ≠ "java/lang/invoke/VarHandle") {rm : Room} {Qc : Option Value → Heap → Prop} {a : Addr} {argsL rest : List Value} (hM : OMeets l Z y' [] bytes' maxL' none rm (Value.ref a :: argsL).toArray h n0 Qc)
    (hg : g.method = m) (hsize : g.locals.size = maxL) {ps : List FieldType} {r : Option FieldType} (hpd : parseMethodDescriptor y'.desc = some ⟨ps, r⟩) (hlen : argsL.length = ps.length) (hs : g.stack = argsL.reverse ++ .ref a :: rest) {W : Nat} (hW : 2 * g.monitorRoom + (rest.map fun v => v.category).sum ≤ W) (hd : decode bytes g.pc = .ok (.invokespecial index, 3))
    (hf : rm.frames + 1 ≤ R.frames) (hl : W + (maxL' + 11) + rm.locals ≤ R.locals) (hc : cells + rm.cells ≤ R.cells) (hn : slots + rm.slots ≤ R.slots)
    (k : ∀ v T' h', OAt n0 Z y bytes maxL ret p l e R s m args below meth c T' h' (cells + rm.cells) (slots + rm.slots) → Qc v h' → OFin n0 p e FE below Q T' { g with pc := g.pc + 3, stack := v.toList ++ rest }) : OFin n0 p e FE below Q T g := by
  obtain ⟨C, locs, X, N, eh⟩ := X
  obtain ⟨hx, hZ, hown, -, hby, hml, -⟩ := id C
  obtain ⟨v, _, ⟨T1, L1, k1, n1⟩, -, X1, ⟨Lc, hQ, l1, y1, z1⟩, st⟩ := X.specialBack hx hy1 hown (mvT hZ w1) (mvT hZ w2) (mvT hZ w4) hy
    (backOf (W := W) (Q := fun v h L => Qc v h ∧ Fr n0 L) hM hZ w4 w3 hf hl) hg (hsize.trans hml.symm) (Steps.refl _) (lenOf hpd hlen) hs hW (hb hby hd) (fun _ _ => ⟨rfl, eh, hc, hn⟩)
  dsimp only [Pt.U, Pt.locs, Pt.cells, Pt.slots] at X1 l1 y1 z1 st hQ
  subst l1 y1 z1
  exact OFin.run (fun t k => st.trans k) (k v T1 _ ⟨C, _, X1, N.app hQ.2, rfl⟩ hQ.1)
theorem OAt.callV (X : OAt n0 Z y bytes maxL ret p l e R s m args below meth c T h cells slots) {index : Nat} {y' z' : MethodName} {C0 : String} {bytes' : ByteArray} {maxL' : Nat} {ret' : Option FieldType} (w1 : (Jvm.Cond.methodLink y.cls index y').before a0 Z = true) (w2 : (Jvm.Cond.declares y').before a0 Z = true) (nf : NotFace s y') (w5 : (Jvm.Cond.selects C0 y' z').before a0 Z = true) (w6 : (Jvm.Cond.instanceMethod z').before a0 Z = true) (w3 : (Jvm.Cond.initialized z'.cls).before a0 Z = true) (w4 : (Jvm.Cond.code z' bytes' maxL' ret').before a0 Z = true)
    (hy : y'.cls ≠ "java/lang/invoke/MethodHandle" ∧ y'.cls ≠ "java/lang/invoke/VarHandle") {rm : Room} {Qc : Option Value → Heap → Prop} {a : Addr} (E : Exa Z h a C0) {argsL rest : List Value} (hM : OMeets l Z z' [] bytes' maxL' ret' rm (Value.ref a :: argsL).toArray h n0 Qc)
    (hg : g.method = m) (hsize : g.locals.size = maxL) {ps : List FieldType} {r : Option FieldType} (hpd : parseMethodDescriptor y'.desc = some ⟨ps, r⟩) (hlen : argsL.length = ps.length) (hs : g.stack = argsL.reverse ++ .ref a :: rest) {W : Nat} (hW : 2 * g.monitorRoom + (rest.map fun v => v.category).sum ≤ W) (hd : decode bytes g.pc = .ok (.invokevirtual index, 3))
    (hf : rm.frames + 1 ≤ R.frames) (hl : W + (maxL' + 11) + rm.locals ≤ R.locals) (hc : cells + rm.cells ≤ R.cells) (hn : slots + rm.slots ≤ R.slots)
    (k : ∀ v T' h', OAt n0 Z y bytes maxL ret p l e R s m args below meth c T' h' (cells + rm.cells) (slots + rm.slots) → Qc v h' → OFin n0 p e FE below Q T' { g with pc := g.pc + 3, stack := v.toList ++ rest }) : OFin n0 p e FE below Q T g := by
  obtain ⟨C, locs, X, N, eh⟩ := X
  obtain ⟨hx, hZ, hown, -, hby, hml, -⟩ := id C
  obtain ⟨cq, kq, qa, qb, qc⟩ := isOf hZ eh E
  obtain ⟨v, _, ⟨T1, L1, k1, n1⟩, -, X1, ⟨Lc, hQ, l1, y1, z1⟩, st⟩ := X.virtualBack hx hown (mvT hZ w1) (mvT hZ w2) nf (mvT hZ w5) (mvT hZ w6) hy
    (backOf (W := W) (Q := fun v h L => Qc v h ∧ Fr n0 L) hM hZ w4 w3 hf hl) qa qc hg (hsize.trans hml.symm) (Steps.refl _) (lenOf hpd hlen) hs hW (hb hby hd) (fun _ _ => ⟨rfl, eh, hc, hn⟩)
  dsimp only [Pt.U, Pt.locs, Pt.cells, Pt.slots] at X1 l1 y1 z1 st hQ
  subst l1 y1 z1
  exact OFin.run (fun t k => st.trans k) (k v T1 _ ⟨C, _, X1, N.app hQ.2, rfl⟩ hQ.1)
theorem OAt.notFace (X : OAt n0 Z y bytes maxL ret p l e R s m args below meth c T h cells slots) {C0 : String} {y' z' : MethodName} (w : (Jvm.Cond.selects C0 y' z').before a0 Z = true) (hq : y' = z') : NotFace s y' := by
  obtain ⟨⟨hx, hZ, -⟩, -⟩ := X
  subst hq
  exact notFace_of_selects (args := #[]) (mvT hZ w)
theorem OAt.aload0 (X : OAt n0 Z y bytes maxL ret p l e R s m args below meth c T h cells slots) {a : Addr} {cl : Cell} {ty : FieldType} (A : Arr Z h a cl ty) {j : Int32} {v : Value} (hin : ¬ (j < 0 ∨ cl.slots.size ≤ j.toNatClampNeg)) (hv : cl.slots[j.toNatClampNeg]? = some v) (hg : g.method = m) {rest : List Value} (hs : g.stack = .int j :: .ref a :: rest)
    {i : Instr} (hi : (i = .iaload ∧ ty = .int) ∨ (i = .laload ∧ ty = .long) ∨ (i = .caload ∧ ty = .char) ∨ (i = .baload ∧ ty = .byte) ∨ (i = .aaload ∧ ty.isReference = true)) (hd : decode bytes g.pc = .ok (i, 1))
    (k : OFin n0 p e FE below Q T { g with pc := g.pc + 1, stack := v :: rest }) : OFin n0 p e FE below Q T g := by
  obtain ⟨⟨hx, hZ, hown, -, hby, -⟩, locs, X, N, eh⟩ := X
  have hA := State.isArrayOf_alike hZ.alike A.2.1
  have hc : T.heap[a]? = some cl := by rw [eh]; exact A.1
  rcases hi with ⟨rfl, rfl⟩ | ⟨rfl, rfl⟩ | ⟨rfl, rfl⟩ | ⟨rfl, rfl⟩ | ⟨rfl, ht⟩
  · exact OFin.run (X.iaload hx hc hA A.2.2 hin hv hg hs (hb hby hd)) k
  · exact OFin.run (X.laload hx hc hA A.2.2 hin hv hg hs (hb hby hd)) k
  · exact OFin.run (X.caload hx hc hA A.2.2 hin hv hg hs (hb hby hd)) k
  · exact OFin.run (X.baloadBytes hx hc hA A.2.2 hin hv hg hs (hb hby hd)) k
  · exact OFin.run (X.aaload hx hc hA ht A.2.2 hin hv hg hs (hb hby hd)) k
theorem OAt.alen (X : OAt n0 Z y bytes maxL ret p l e R s m args below meth c T h cells slots) {a : Addr} {cl : Cell} {ty : FieldType} (A : Arr Z h a cl ty) {n : Int32} (hn : cl.slots.size.toInt32 = n) (hg : g.method = m) {rest : List Value} (hs : g.stack = .ref a :: rest) (hd : decode bytes g.pc = .ok (.arraylength, 1))
    (k : OFin n0 p e FE below Q T { g with pc := g.pc + 1, stack := .int n :: rest }) : OFin n0 p e FE below Q T g := by
  obtain ⟨⟨hx, hZ, hown, -, hby, -⟩, locs, X, N, eh⟩ := X
  subst hn
  exact OFin.run (X.arraylength hx (by rw [eh]; exact A.1) (State.isArrayOf_alike hZ.alike A.2.1) hg hs (hb hby hd)) k
theorem OAt.stJ (X : OAt n0 Z y bytes maxL ret p l e R s m args below meth c T h cells slots) {a : Addr} {cl : Cell} (A : Arr Z h a cl .long) {j : Int32} {v : Int64} (hin : ¬ (j < 0 ∨ cl.slots.size ≤ j.toNatClampNeg)) (hnew : n0 ≤ a) (hg : g.method = m) {rest : List Value} (hs : g.stack = .long v :: .int j :: .ref a :: rest) (hd : decode bytes g.pc = .ok (.lastore, 1))
    (k : ∀ T' h', OAt n0 Z y bytes maxL ret p l e R s m args below meth c T' h' cells slots → Wr h h' a j.toNatClampNeg (.long v) → OFin n0 p e FE below Q T' { g with pc := g.pc + 1, stack := rest }) : OFin n0 p e FE below Q T g := by
  obtain ⟨C, locs, X, N, eh⟩ := X
  obtain ⟨hx, hZ, hown, -, hby, -⟩ := id C
  obtain ⟨T', h', X', e', W, st⟩ := Jvm.RoadKit.stJ X hx hZ eh A hin hg hs (hb hby hd)
  exact OFin.run st (k T' h' ⟨C, _, X', Fr.snoc X' N hnew, e'⟩ W)
theorem OAt.stB (X : OAt n0 Z y bytes maxL ret p l e R s m args below meth c T h cells slots) {a : Addr} {cl : Cell} (A : Arr Z h a cl .byte) {j v : Int32} (hin : ¬ (j < 0 ∨ cl.slots.size ≤ j.toNatClampNeg)) (hnew : n0 ≤ a) (hg : g.method = m) {rest : List Value} (hs : g.stack = .int v :: .int j :: .ref a :: rest) (hd : decode bytes g.pc = .ok (.bastore, 1))
    (k : ∀ T' h', OAt n0 Z y bytes maxL ret p l e R s m args below meth c T' h' cells slots → Wr h h' a j.toNatClampNeg (.int (nar .byte v)) → OFin n0 p e FE below Q T' { g with pc := g.pc + 1, stack := rest }) : OFin n0 p e FE below Q T g := by
  obtain ⟨C, locs, X, N, eh⟩ := X
  obtain ⟨hx, hZ, hown, -, hby, -⟩ := id C
  obtain ⟨T', h', X', e', W, st⟩ := Jvm.RoadKit.stB X hx hZ eh A hin hg hs (hb hby hd)
  exact OFin.run st (k T' h' ⟨C, _, X', Fr.snoc X' N hnew, e'⟩ W)
theorem OAt.stC (X : OAt n0 Z y bytes maxL ret p l e R s m args below meth c T h cells slots) {a : Addr} {cl : Cell} (A : Arr Z h a cl .char) {j v : Int32} (hin : ¬ (j < 0 ∨ cl.slots.size ≤ j.toNatClampNeg)) (hnew : n0 ≤ a) (hg : g.method = m) {rest : List Value} (hs : g.stack = .int v :: .int j :: .ref a :: rest) (hd : decode bytes g.pc = .ok (.castore, 1))
    (k : ∀ T' h', OAt n0 Z y bytes maxL ret p l e R s m args below meth c T' h' cells slots → Wr h h' a j.toNatClampNeg (.int (nar .char v)) → OFin n0 p e FE below Q T' { g with pc := g.pc + 1, stack := rest }) : OFin n0 p e FE below Q T g := by
  obtain ⟨C, locs, X, N, eh⟩ := X
  obtain ⟨hx, hZ, hown, -, hby, -⟩ := id C
  obtain ⟨T', h', X', e', W, st⟩ := Jvm.RoadKit.stC X hx hZ eh A hin hg hs (hb hby hd)
  exact OFin.run st (k T' h' ⟨C, _, X', Fr.snoc X' N hnew, e'⟩ W)
theorem OAt.instY (X : OAt n0 Z y bytes maxL ret p l e R s m args below meth c T h cells slots) {K : String} {index : Nat} (w : (Jvm.Cond.classLink y.cls index K).before a0 Z = true) {a : Addr} (F : Ins Z h a K true) (hg : g.method = m) {rest : List Value} (hs : g.stack = .ref a :: rest) (hd : decode bytes g.pc = .ok (.instanceof index, 3))
    (k : ∀ T', OAt n0 Z y bytes maxL ret p l e R s m args below meth c T' h cells slots → OFin n0 p e FE below Q T' { g with pc := g.pc + 3, stack := .int 1 :: rest }) : OFin n0 p e FE below Q T g := by
  obtain ⟨C, locs, X, N, eh⟩ := X
  obtain ⟨hx, hZ, hown, -, hby, -⟩ := id C
  obtain ⟨T', X', e', st⟩ := Jvm.RoadKit.instY X hx hZ hown w eh F hg hs (hb hby hd)
  exact OFin.run st (k T' ⟨C, locs, X', N, e'⟩)
theorem OAt.castY (X : OAt n0 Z y bytes maxL ret p l e R s m args below meth c T h cells slots) {K : String} {index : Nat} (w : (Jvm.Cond.classLink y.cls index K).before a0 Z = true) {a : Addr} (F : Ins Z h a K true) (hg : g.method = m) {rest : List Value} (hs : g.stack = .ref a :: rest) (hd : decode bytes g.pc = .ok (.checkcast index, 3))
    (k : ∀ T', OAt n0 Z y bytes maxL ret p l e R s m args below meth c T' h cells slots → OFin n0 p e FE below Q T' { g with pc := g.pc + 3 }) : OFin n0 p e FE below Q T g := by
  obtain ⟨C, locs, X, N, eh⟩ := X
  obtain ⟨hx, hZ, hown, -, hby, -⟩ := id C
  obtain ⟨T', X', e', st⟩ := Jvm.RoadKit.castY X hx hZ hown w eh F hg hs (hb hby hd)
  exact OFin.run st (k T' ⟨C, locs, X', N, e'⟩)
theorem OAt.instNo (X : OAt n0 Z y bytes maxL ret p l e R s m args below meth c T h cells slots) {K C : String} {index : Nat} (w : (Jvm.Cond.classLink y.cls index K).before a0 Z = true) {a : Addr} (E : Exa Z h a C) (F : ∃ c t, Z.vm.findClass C = some c ∧ Z.vm.findClass K = some t ∧ Z.vm.assignable c t = false) (hg : g.method = m) {rest : List Value} (hs : g.stack = .ref a :: rest) (hd : decode bytes g.pc = .ok (.instanceof index, 3))
    (k : ∀ T', OAt n0 Z y bytes maxL ret p l e R s m args below meth c T' h cells slots → OFin n0 p e FE below Q T' { g with pc := g.pc + 3, stack := .int 0 :: rest }) : OFin n0 p e FE below Q T g := by
  obtain ⟨C, locs, X, N, eh⟩ := X
  obtain ⟨hx, hZ, hown, -, hby, -⟩ := id C
  obtain ⟨T', X', e', st⟩ := Jvm.RoadKit.instNo X hx hZ hown w eh E F hg hs (hb hby hd)
  exact OFin.run st (k T' ⟨C, locs, X', N, e'⟩)
theorem OAt.instNull (X : OAt n0 Z y bytes maxL ret p l e R s m args below meth c T h cells slots) {index : Nat} (hg : g.method = m) {rest : List Value} (hs : g.stack = .null :: rest) (hd : decode bytes g.pc = .ok (.instanceof index, 3))
    (k : OFin n0 p e FE below Q T { g with pc := g.pc + 3, stack := .int 0 :: rest }) : OFin n0 p e FE below Q T g := by
  obtain ⟨⟨hx, hZ, hown, -, hby, -⟩, locs, X, N, eh⟩ := X
  exact OFin.run (X.instanceofNull hx hg hs (hb hby hd)) k
theorem o_nsRoot {O K : String} {n : Nat} (w : (Jvm.Cond.noSuperclass O).before a0 Z = true) (wk : (Jvm.Cond.instantiable K n).before a0 Z = true) (hn : O ≠ K) : NS Z O K := by
  obtain ⟨c, k, h1, h2, h3, -, -⟩ := Cond.noSuperclass_spec w
  obtain ⟨t, kt, g1, -⟩ := Cond.instantiable_spec wk
  have ne := ids_ne h1 g1 hn
  refine ⟨c, t, h1, g1, fun fuel => ?_⟩
  cases fuel with
  | zero => rfl
  | succ f => simp [Vm.isSubclassAux, ne, h2, h3]
theorem o_nsNo {C S K : String} {n : Nat} (w : (Jvm.Cond.superclass C S).before a0 Z = true) (wk : (Jvm.Cond.instantiable K n).before a0 Z = true) (q : NS Z C K) (hn : C ≠ K) : ∃ c t, Z.vm.findClass C = some c ∧ Z.vm.findClass K = some t ∧ Z.vm.assignable c t = false := by
  obtain ⟨c, t, h0, g0, n3⟩ := q
  obtain ⟨p, k, kp, h1, h2, h3, h4, h5, -, h7⟩ := Cond.superclass_spec h0 w
  obtain ⟨t2, k', g1, g2, g3, g4, -⟩ := Cond.instantiable_spec wk
  cases g0.symm.trans g1
  have ne := ids_ne h0 g0 hn
  have g5 : k'.isInterface = false := by simp only [Bool.or_eq_false_iff] at g4; exact g4.1
  refine ⟨c, t, h0, g0, ?_⟩
  show Z.vm.assignableAux (255 + 1) c t = false
  simp [Vm.assignableAux, ne, h2, g2, h5, g3, g5, Vm.isSubclass, n3]
/-- an array of N places; place j holds f j -/
def OArr (Z : State) (h : Heap) (a : Addr) (ty : FieldType) (N : Nat) (f : Nat → Value) : Prop := ∃ c : Cell, Arr Z h a c ty ∧ c.slots.size = N ∧ ∀ j, j < N → c.slots[j]? = some (f j)
theorem OArr.lt {a : Addr} {ty : FieldType} {N : Nat} {f : Nat → Value} (F : OArr Z h a ty N f) : a < h.size := by obtain ⟨c, A, -⟩ := F; exact A.lt
theorem OArr.ext {a : Addr} {ty : FieldType} {N : Nat} {f : Nat → Value} (F : OArr Z h a ty N f) (E : Ext h h') : OArr Z h' a ty N f := by obtain ⟨c, A, r⟩ := F; exact ⟨c, A.ext E, r⟩
theorem OArr.other {a b : Addr} {ty : FieldType} {N sl : Nat} {f : Nat → Value} {v : Value} (F : OArr Z h b ty N f) (W : Wr h h' a sl v) (q : b ≠ a) : OArr Z h' b ty N f := by obtain ⟨c, A, r⟩ := F; exact ⟨c, A.other W q, r⟩
theorem OArr.keep {a : Addr} {ws : List Addr} {ty : FieldType} {N : Nat} {f : Nat → Value} (F : OArr Z h a ty N f) (K : Keep h h' ws) (q : a ∉ ws) : OArr Z h' a ty N f := by obtain ⟨c, A, r⟩ := F; exact ⟨c, ⟨K.2.1 a c A.1 q, A.2⟩, r⟩
theorem OArr.new {a : Addr} {k : ClassId} {ty : FieldType} {z : Int32} (A : Arr Z h a (newA k ty z) ty) : OArr Z h a ty z.toNatClampNeg (fun _ => defaultValue ty) := ⟨_, A, sz_new _ _ _, fun j hj => by simp [newA, hj]⟩
theorem OArr.congr {a : Addr} {ty : FieldType} {N : Nat} {f f' : Nat → Value} (F : OArr Z h a ty N f) (q : ∀ j, j < N → f j = f' j) : OArr Z h a ty N f' := by obtain ⟨c, A, r1, r2⟩ := F; exact ⟨c, A, r1, fun j hj => by rw [r2 j hj, q j hj]⟩
theorem OArr.set {a : Addr} {ty : FieldType} {N i : Nat} {f : Nat → Value} {v : Value} (F : OArr Z h a ty N f) (W : Wr h h' a i v) : OArr Z h' a ty N (fun j => if j = i then v else f j) := by
  obtain ⟨c, A, r1, r2⟩ := F
  refine ⟨c.setSlot i v, A.same W, by rw [sz_set]; exact r1, fun j hj => ?_⟩
  by_cases q : j = i
  · subst q; simp [Cell.setSlot, r1, hj]
  · simp only [q, if_false]
    rw [← r2 j hj]
    exact Array.getElem?_setIfInBounds_ne (Ne.symm q)
theorem o_fitC {a : Addr} {cl : Cell} {ty : FieldType} (A : Arr Z h a cl ty) (q : ∀ (i : Nat) (v : Value), cl.slots[i]? = some v → fits ty v = true) : FitC Z cl := fun i v hv => by
  obtain ⟨hs, k, hk, comp, hkind⟩ := A.2.1
  simp [State.fitsSlot, State.slotType?, hk, hkind, q i v hv]
theorem o_in {N : Nat} {j : Int32} {cl : Cell} (S : cl.slots.size = N) (h0 : 0 ≤ j.toInt) (h1 : j.toInt < N) : ¬ (j < 0 ∨ cl.slots.size ≤ j.toNatClampNeg) := by
  have e : (0 : Int32).toInt = 0 := by decide
  have q : (j.toNatClampNeg : Int) = j.toInt := by show (j.toInt.toNat : Int) = _; omega
  rw [Int32.lt_iff_toInt_lt, S, e]; omega
theorem o_nat {j : Int32} (h0 : 0 ≤ j.toInt) : (j.toNatClampNeg : Int) = j.toInt := by show (j.toInt.toNat : Int) = _; omega
theorem oN {kk nn : Nat} (h1 : cells ≤ kk) (h2 : slots ≤ nn) : ∀ (t : State) (v : Option Value) (L : List Loc), t.heap = h → t.vm = T.vm → FrameEnd s (.returned v) t L cells slots → (fun o t L => FrameEnd s o t L kk nn) (.returned v) t L := fun t v L _ _ q => ⟨q.1, q.2.1, q.2.2.mono h1 h2⟩
/-! the wide contracts: a body that may intern the program's string constants -/
abbrev OMeetsW (l : Launch) (Z : State) (EL : List (String × Nat)) (y : MethodName) (ws : List Jvm.Cond) (bytes : ByteArray) (maxL : Nat) (ret : Option FieldType) (rm : Room) (as' : Array Value) (h0 : Heap) (n0 : Nat) (Q : Option Value → Heap → Prop) : Prop :=
  MetFree l y (head1 (Jvm.Cond.code y bytes maxL ret :: ws) rm) (fun a U => a = as' ∧ Z.Warmed39 U.vm ∧ U.heap = h0 ∧ CHv Z EL U.vm h0) (fun _ _ _ _ _ => True) (fun _ U o U' => ∃ v L, o = .returned v ∧ (Q v U'.heap ∧ Fr n0 L) ∧ CHr Z EL U.vm U.heap U'.vm U'.heap ∧ ReturnedEndW U o U' L rm.cells rm.slots)
/-- what a wide walk bears beside its Stand over the re-based start -/
def OB (Z : State) (a0 : Array Value) (EL : List (String × Nat)) (s : State) (h0 : Heap) (vm0 : Vm) (h : Heap) : Prop := s.heap = h0 ∧ EW Z a0 EL ∧ (∃ k0, s.Since vm0 k0 ∧ k0 ≤ h.size) ∧ CHr Z EL s.vm h0 vm0 h
theorem OB.ext {EL : List (String × Nat)} {vm0 : Vm} {h0 : Heap} (B : OB Z a0 EL s h0 vm0 h) (E : Ext h h') : OB Z a0 EL s h0 vm0 h' := by
  obtain ⟨b1, b2, ⟨k0, b3, b4⟩, b5⟩ := B
  exact ⟨b1, b2, ⟨k0, b3, Nat.le_trans b4 E.1⟩, b5.trans (CHr.ext E b5.1)⟩
theorem OB.keep {EL : List (String × Nat)} {vm0 : Vm} {h0 : Heap} {ws : List Addr} (B : OB Z a0 EL s h0 vm0 h) (K : Keep h h' ws) (S : ∀ x ∈ ws, Safe Z EL vm0 h x) : OB Z a0 EL s h0 vm0 h' := by
  obtain ⟨b1, b2, ⟨k0, b3, b4⟩, b5⟩ := B
  exact ⟨b1, b2, ⟨k0, b3, Nat.le_trans b4 K.1⟩, b5.trans (CHr.keep K S b5.1)⟩
theorem OB.wr {EL : List (String × Nat)} {vm0 : Vm} {h0 : Heap} {a : Addr} {sl : Nat} {v : Value} (B : OB Z a0 EL s h0 vm0 h) (W : Wr h h' a sl v) (S : Safe Z EL vm0 h a) : OB Z a0 EL s h0 vm0 h' := B.keep (Keep.of_wr W) (fun x hx => by cases List.mem_singleton.mp hx; exact S)
theorem OB.hv {EL : List (String × Nat)} {vm0 : Vm} {h0 : Heap} (B : OB Z a0 EL s h0 vm0 h) : CHv Z EL vm0 h := B.2.2.2.1
theorem OB.size {EL : List (String × Nat)} {vm0 : Vm} {h0 : Heap} (B : OB Z a0 EL s h0 vm0 h) : h0.size ≤ h.size := B.2.2.2.2.1
theorem safe_nil {vm0 : Vm} {x : Addr} : Safe Z [] vm0 h x := fun B => by obtain ⟨p, hp, -⟩ := B; cases hp
theorem o_enterW {EL : List (String × Nat)} {ws : List Jvm.Cond} {rm : Room} {as' : Array Value} {h0 : Heap} (hEL : EW Z a0 EL) (pn : plainFor y = true)
    (body : ∀ (p : Program) (e : Env) (s : State) (m : MethodId) (below : List Frame) (meth : Method) (c : Code) (s₁ : State), OAt n0 Z y bytes maxL ret p l e rm (s.setVm s.vm) m as' below meth c s₁ h0 0 0 → OB Z a0 EL s h0 s.vm h0 → OFin n0 p e (fun o t L => CHr Z EL s.vm s.heap t.vm t.heap ∧ ReturnedEndW s o t L rm.cells rm.slots) below Q s₁ (entryFrame m as' maxL)) :
    OMeetsW l Z EL y ws bytes maxL ret rm as' h0 n0 Q := by
  refine MetFree.of_bodySF pn hisR ?_
  intro p e s m args below meth c s₁ Bd hml0 hP hK
  obtain ⟨rfl, hZ, hh, hC⟩ := hP
  have e0 : s₁.heap = h0 := by rw [← hh, Bd.state]; rfl
  exact body p e s m below meth c s₁ ⟨⟨Bd.exec, hZ, findClass_of_methodNamed Bd.named, (name_of_methodNamed Bd.named Bd.method).1, Bd.bytes, hml0, Bd.returns, Bd.notSynchronized⟩, [], Stand.of_body Bd, Fr.nil n0, e0⟩ ⟨hh, hEL, ⟨0, (State.WarmedH.refl s).since 0, Nat.zero_le _⟩, CHr.refl hC⟩
theorem oW {EL : List (String × Nat)} {vm0 : Vm} {h0 : Heap} {kk nn : Nat} (X : OAt n0 Z y bytes maxL ret p l e R (s.setVm vm0) m args below meth c T h cells slots) (B : OB Z a0 EL s h0 vm0 h) (h1 : cells ≤ kk) (h2 : slots ≤ nn) :
    ∀ (t : State) (v : Option Value) (L : List Loc), t.heap = h → t.vm = T.vm → FrameEnd (s.setVm vm0) (.returned v) t L cells slots → (fun o t L => CHr Z EL s.vm s.heap t.vm t.heap ∧ ReturnedEndW s o t L kk nn) (.returned v) t L := by
  obtain ⟨⟨-, hZ, -⟩, locs, X, -⟩ := X
  obtain ⟨b1, b2, ⟨k0, b3, b4⟩, b5⟩ := B
  intro t v L e1 e2 q
  obtain ⟨q1, q2, q3⟩ := b3.ended q.2.1 (by rw [e1]; exact b4) q.2.2
  refine ⟨?_, q.1, q1, q2, q3.mono h1 h2⟩
  rw [e1, e2, b1]
  exact b5.trans (CHv.at X hZ b2 b5.1)
theorem OAt.ldcO {EL : List (String × Nat)} {vm0 : Vm} {h0 : Heap} (X : OAt n0 Z y bytes maxL ret p l e R (s.setVm vm0) m args below meth c T h cells slots) (B : OB Z a0 EL s h0 vm0 h) {index : Nat} {text : String} (w : (Jvm.Cond.stringLink y.cls index text).before a0 Z = true) (wS : ∀ a ∈ Bundle.stringAtoms, a.before a0 Z = true) (hg : g.method = m) (hd : decode bytes g.pc = .ok (.ldc index, 2)) {n : Nat} (hn : 4 * text.toList.length ≤ n) (hbig : n ≤ 536870912) (hc : cells + 2 ≤ R.cells) (hl : slots + (n + 4) ≤ R.slots)
    (k : ∀ a T' h' vm1, OAt n0 Z y bytes maxL ret p l e R (s.setVm vm1) m args below meth c T' h' (cells + 2) (slots + (n + 4)) → OB Z a0 EL s h0 vm1 h' → Ext h h' → (∀ x, x < h.size → Safe Z EL vm0 h x → Safe Z EL vm1 h' x) → OFin n0 p e FE below Q T' { g with pc := g.pc + 2, stack := .ref a :: g.stack }) : OFin n0 p e FE below Q T g := by
  obtain ⟨C, locs, X, N, eh⟩ := X
  obtain ⟨hx, hZ, hown, r⟩ := id C
  obtain ⟨b1, b2, ⟨k0, b3, b4⟩, b5⟩ := B
  obtain ⟨a, T', h', k1, X', e', E', hS', hk', hZ', hown', hC', hL', st⟩ := ldcOH X hx hZ hown w wS eh b3 b4 b2 b5.1 hg (hb r.2.1 hd) hn hbig hc hl
  exact OFin.run st (k a T' h' T'.vm ⟨⟨hx, hZ', hown', r⟩, locs, X', N, e'⟩ ⟨b1, b2, ⟨k1, hS', hk'⟩, b5.trans hC'⟩ E' (fun x q q' => hC'.safe q q'))
theorem OAt.ldcC {EL : List (String × Nat)} {vm0 : Vm} {h0 : Heap} (X : OAt n0 Z y bytes maxL ret p l e R (s.setVm vm0) m args below meth c T h cells slots) (B : OB Z a0 EL s h0 vm0 h) {index : Nat} {text : String} (w : (Jvm.Cond.stringLink y.cls index text).before a0 Z = true) (wS : ∀ a ∈ Bundle.stringAtoms, a.before a0 Z = true) (hmem : (y.cls, index) ∈ EL) {vs : List Value} {z : Int32} (ht : (∀ c ∈ text.toList, c.toNat < 256) ∧ text.toList.map (fun c => Value.int (Jvm.Lit.byteI c.toNat.toUInt16)) = vs) (hz : ¬ z < 0) (hzl : z.toNatClampNeg = vs.length)
    (hg : g.method = m) (hd : decode bytes g.pc = .ok (.ldc index, 2)) {n : Nat} (hn : 4 * text.toList.length ≤ n) (hbig : n ≤ 536870912) (hc : cells + 2 ≤ R.cells) (hl : slots + (n + 4) ≤ R.slots)
    (k : ∀ a b cA T' h' vm1, OAt n0 Z y bytes maxL ret p l e R (s.setVm vm1) m args below meth c T' h' (cells + 2) (slots + (n + 4)) → OB Z a0 EL s h0 vm1 h' → Ext h h' → (∀ x, x < h.size → Safe Z EL vm0 h x → Safe Z EL vm1 h' x) → Exa Z h' a "java/lang/String" → Fld Z h' a "java/lang/String" "coder" "B" (.int 0) → Fld Z h' a "java/lang/String" "value" "[B" (.ref b) → Arv Z h' b cA .byte z vs (.int 0) → (∀ x, Safe Z EL vm1 h' x → x ≠ a ∧ x ≠ b) → OFin n0 p e FE below Q T' { g with pc := g.pc + 2, stack := .ref a :: g.stack }) : OFin n0 p e FE below Q T g := by
  obtain ⟨C, locs, X, N, eh⟩ := X
  obtain ⟨hx, hZ, hown, r⟩ := id C
  obtain ⟨b1, b2, ⟨k0, b3, b4⟩, b5⟩ := B
  obtain ⟨a, T', h', k1, b, cA, X', e', E', hS', hk', hZ', hown', f1, f2, f3, f4, f5, f6, hC', hL', hN', st⟩ := ldcCH X hx hZ hown w wS eh b3 b4 b2 hmem b5.1 ht hz hzl hg (hb r.2.1 hd) hn hbig hc hl
  exact OFin.run st (k a b cA T' h' T'.vm ⟨⟨hx, hZ', hown', r⟩, locs, X', N, e'⟩ ⟨b1, b2, ⟨k1, hS', hk'⟩, b5.trans hC'⟩ E' (fun x q q' => hC'.safe q q') f1 f2 f3 f4 hN')
theorem OAt.callSW {EL : List (String × Nat)} {vm0 : Vm} {h0 : Heap} (X : OAt n0 Z y bytes maxL ret p l e R (s.setVm vm0) m args below meth c T h cells slots) (B : OB Z a0 EL s h0 vm0 h) {index : Nat} {y' : MethodName} {bytes' : ByteArray} {maxL' : Nat} {ret' : Option FieldType} (w1 : (Jvm.Cond.methodLink y.cls index y').before a0 Z = true) (w2 : (Jvm.Cond.static y').before a0 Z = true) (w3 : (Jvm.Cond.initialized y'.cls).before a0 Z = true) (w4 : (Jvm.Cond.code y' bytes' maxL' ret').before a0 Z = true)
    (hy : y'.cls ≠ "java/lang/invoke/MethodHandle" ∧ y'.cls ≠ "java/lang/invoke/VarHandle") {rm : Room} {Qc : Option Value → Heap → Prop} {argsL rest : List Value} (hM : OMeetsW l Z EL y' [] bytes' maxL' ret' rm argsL.toArray h n0 Qc)
    (hg : g.method = m) (hsize : g.locals.size = maxL) {ps : List FieldType} {r : Option FieldType} (hpd : parseMethodDescriptor y'.desc = some ⟨ps, r⟩) (hlen : argsL.length = ps.length) (hs : g.stack = argsL.reverse ++ rest) {W : Nat} (hW : 2 * g.monitorRoom + (rest.map fun v => v.category).sum ≤ W) (hd : decode bytes g.pc = .ok (.invokestatic index, 3))
    (hf : rm.frames + 1 ≤ R.frames) (hl : W + (maxL' + 11) + rm.locals ≤ R.locals) (hc : cells + rm.cells ≤ R.cells) (hn : slots + rm.slots ≤ R.slots)
    (k : ∀ v T' h' vm1, OAt n0 Z y bytes maxL ret p l e R (s.setVm vm1) m args below meth c T' h' (cells + rm.cells) (slots + rm.slots) → OB Z a0 EL s h0 vm1 h' → h.size ≤ h'.size → (∀ x, x < h.size → Safe Z EL vm0 h x → Safe Z EL vm1 h' x) → Qc v h' → OFin n0 p e FE below Q T' { g with pc := g.pc + 3, stack := v.toList ++ rest }) : OFin n0 p e FE below Q T g := by
  obtain ⟨C, locs, X, N, eh⟩ := X
  obtain ⟨hx, hZ, hown, hnm, hby, hml, r'⟩ := id C
  obtain ⟨b1, b2, ⟨k0, b3, b4⟩, b5⟩ := B
  obtain ⟨v, _, ⟨T1, L1, c1, n1⟩, -, X1, hS1, hg1, ⟨Lc, hQ, l1, y1, z1, hC⟩, st⟩ := callSS X hx hown (mvT hZ w1) (mvT hZ w2) (mvT hZ w3) (mvT hZ w4) hy
    (backOfSH (W := W) (Q := fun v h L => Qc v h ∧ Fr n0 L) hM hZ w4 w3 hf hl b2 b5.1) hg (hsize.trans hml.symm) (lenOf hpd hlen) hs hW (hb hby hd) (fun _ _ => ⟨rfl, eh, hc, hn⟩)
  dsimp only [Pt.U, Pt.locs, Pt.cells, Pt.slots] at X1 l1 y1 z1 st hQ hS1 hg1 hC
  subst l1 y1 z1
  rw [eh] at hg1
  have hS2 := b3.trans hS1 (Nat.le_trans b4 hg1)
  exact OFin.run (fun t k => st.trans k) (k v T1 _ T1.vm ⟨⟨hx, State.Warmed39.trans (t := s.setVm vm0) hZ hS1.1, (hS1.1.alike.findClass _ _).trans hown, hnm, hby, hml, r'⟩, _, X1, N.app hQ.2, rfl⟩ ⟨b1, b2, ⟨_, hS2, Nat.le_refl _⟩, b5.trans hC⟩ hg1 (fun x q q' => hC.safe q q') hQ.1)
theorem OAt.callIW {EL : List (String × Nat)} {vm0 : Vm} {h0 : Heap} (X : OAt n0 Z y bytes maxL ret p l e R (s.setVm vm0) m args below meth c T h cells slots) (B : OB Z a0 EL s h0 vm0 h) {index : Nat} {y' : MethodName} {bytes' : ByteArray} {maxL' : Nat} (hy1 : y'.name = "<init>") (w1 : (Jvm.Cond.methodLink y.cls index y').before a0 Z = true) (w2 : (Jvm.Cond.instanceMethod y').before a0 Z = true) (w3 : (Jvm.Cond.initialized y'.cls).before a0 Z = true) (w4 : (Jvm.Cond.code y' bytes' maxL' none).before a0 Z = true)
    (hy : y'.cls ≠ "java/lang/invoke/MethodHandle" ∧ y'.cls ≠ "java/lang/invoke/VarHandle") {rm : Room} {Qc : Option Value → Heap → Prop} {a : Addr} {argsL rest : List Value} (hM : OMeetsW l Z EL y' [] bytes' maxL' none rm (Value.ref a :: argsL).toArray h n0 Qc)
    (hg : g.method = m) (hsize : g.locals.size = maxL) {ps : List FieldType} {r : Option FieldType} (hpd : parseMethodDescriptor y'.desc = some ⟨ps, r⟩) (hlen : argsL.length = ps.length) (hs : g.stack = argsL.reverse ++ .ref a :: rest) {W : Nat} (hW : 2 * g.monitorRoom + (rest.map fun v => v.category).sum ≤ W) (hd : decode bytes g.pc = .ok (.invokespecial index, 3))
    (hf : rm.frames + 1 ≤ R.frames) (hl : W + (maxL' + 11) + rm.locals ≤ R.locals) (hc : cells + rm.cells ≤ R.cells) (hn : slots + rm.slots ≤ R.slots)
    (k : ∀ v T' h' vm1, OAt n0 Z y bytes maxL ret p l e R (s.setVm vm1) m args below meth c T' h' (cells + rm.cells) (slots + rm.slots) → OB Z a0 EL s h0 vm1 h' → h.size ≤ h'.size → (∀ x, x < h.size → Safe Z EL vm0 h x → Safe Z EL vm1 h' x) → Qc v h' → OFin n0 p e FE below Q T' { g with pc := g.pc + 3, stack := v.toList ++ rest }) : OFin n0 p e FE below Q T g := by
  obtain ⟨C, locs, X, N, eh⟩ := X
  obtain ⟨hx, hZ, hown, hnm, hby, hml, r'⟩ := id C
  obtain ⟨b1, b2, ⟨k0, b3, b4⟩, b5⟩ := B
  obtain ⟨v, _, ⟨T1, L1, c1, n1⟩, -, X1, hS1, hg1, ⟨Lc, hQ, l1, y1, z1, hC⟩, st⟩ := X.specialBackS hx hy1 hown (mvT hZ w1) (mvT hZ w2) (mvT hZ w4) hy
    (backOfSH (W := W) (Q := fun v h L => Qc v h ∧ Fr n0 L) hM hZ w4 w3 hf hl b2 b5.1) hg (hsize.trans hml.symm) (Steps.refl _) (lenOf hpd hlen) hs hW (hb hby hd) (fun _ _ => ⟨rfl, eh, hc, hn⟩)
  dsimp only [Pt.U, Pt.locs, Pt.cells, Pt.slots] at X1 l1 y1 z1 st hQ hS1 hg1 hC
  subst l1 y1 z1
  rw [eh] at hg1
  have hS2 := b3.trans hS1 (Nat.le_trans b4 hg1)
  exact OFin.run (fun t k => st.trans k) (k v T1 _ T1.vm ⟨⟨hx, State.Warmed39.trans (t := s.setVm vm0) hZ hS1.1, (hS1.1.alike.findClass _ _).trans hown, hnm, hby, hml, r'⟩, _, X1, N.app hQ.2, rfl⟩ ⟨b1, b2, ⟨_, hS2, Nat.le_refl _⟩, b5.trans hC⟩ hg1 (fun x q q' => hC.safe q q') hQ.1)
theorem OAt.callVW {EL : List (String × Nat)} {vm0 : Vm} {h0 : Heap} (X : OAt n0 Z y bytes maxL ret p l e R (s.setVm vm0) m args below meth c T h cells slots) (B : OB Z a0 EL s h0 vm0 h) {index : Nat} {y' z' : MethodName} {C0 : String} {bytes' : ByteArray} {maxL' : Nat} {ret' : Option FieldType} (w1 : (Jvm.Cond.methodLink y.cls index y').before a0 Z = true) (w2 : (Jvm.Cond.declares y').before a0 Z = true) (nf : NotFace (s.setVm vm0) y') (w5 : (Jvm.Cond.selects C0 y' z').before a0 Z = true) (w6 : (Jvm.Cond.instanceMethod z').before a0 Z = true) (w3 : (Jvm.Cond.initialized z'.cls).before a0 Z = true) (w4 : (Jvm.Cond.code z' bytes' maxL' ret').before a0 Z = true)
    (hy : y'.cls ≠ "java/lang/invoke/MethodHandle" ∧ y'.cls ≠ "java/lang/invoke/VarHandle") {rm : Room} {Qc : Option Value → Heap → Prop} {a : Addr} (E' : Exa Z h a C0) {argsL rest : List Value} (hM : OMeetsW l Z EL z' [] bytes' maxL' ret' rm (Value.ref a :: argsL).toArray h n0 Qc)
    (hg : g.method = m) (hsize : g.locals.size = maxL) {ps : List FieldType} {r : Option FieldType} (hpd : parseMethodDescriptor y'.desc = some ⟨ps, r⟩) (hlen : argsL.length = ps.length) (hs : g.stack = argsL.reverse ++ .ref a :: rest) {W : Nat} (hW : 2 * g.monitorRoom + (rest.map fun v => v.category).sum ≤ W) (hd : decode bytes g.pc = .ok (.invokevirtual index, 3))
    (hf : rm.frames + 1 ≤ R.frames) (hl : W + (maxL' + 11) + rm.locals ≤ R.locals) (hc : cells + rm.cells ≤ R.cells) (hn : slots + rm.slots ≤ R.slots)
    (k : ∀ v T' h' vm1, OAt n0 Z y bytes maxL ret p l e R (s.setVm vm1) m args below meth c T' h' (cells + rm.cells) (slots + rm.slots) → OB Z a0 EL s h0 vm1 h' → h.size ≤ h'.size → (∀ x, x < h.size → Safe Z EL vm0 h x → Safe Z EL vm1 h' x) → Qc v h' → OFin n0 p e FE below Q T' { g with pc := g.pc + 3, stack := v.toList ++ rest }) : OFin n0 p e FE below Q T g := by
  obtain ⟨C, locs, X, N, eh⟩ := X
  obtain ⟨hx, hZ, hown, hnm, hby, hml, r'⟩ := id C
  obtain ⟨b1, b2, ⟨k0, b3, b4⟩, b5⟩ := B
  obtain ⟨cq, kq, qa, qb, qc⟩ := isOf hZ eh E'
  obtain ⟨v, _, ⟨T1, L1, c1, n1⟩, -, X1, hS1, hg1, ⟨Lc, hQ, l1, y1, z1, hC⟩, st⟩ := X.virtualBackS hx hown (mvT hZ w1) (mvT hZ w2) nf (mvT hZ w5) (mvT hZ w6) hy
    (backOfSH (W := W) (Q := fun v h L => Qc v h ∧ Fr n0 L) hM hZ w4 w3 hf hl b2 b5.1) qa qc hg (hsize.trans hml.symm) (Steps.refl _) (lenOf hpd hlen) hs hW (hb hby hd) (fun _ _ => ⟨rfl, eh, hc, hn⟩)
  dsimp only [Pt.U, Pt.locs, Pt.cells, Pt.slots] at X1 l1 y1 z1 st hQ hS1 hg1 hC
  subst l1 y1 z1
  rw [eh] at hg1
  have hS2 := b3.trans hS1 (Nat.le_trans b4 hg1)
  exact OFin.run (fun t k => st.trans k) (k v T1 _ T1.vm ⟨⟨hx, State.Warmed39.trans (t := s.setVm vm0) hZ hS1.1, (hS1.1.alike.findClass _ _).trans hown, hnm, hby, hml, r'⟩, _, X1, N.app hQ.2, rfl⟩ ⟨b1, b2, ⟨_, hS2, Nat.le_refl _⟩, b5.trans hC⟩ hg1 (fun x q q' => hC.safe q q') hQ.1)
theorem OAt.more {k2 n2 : Nat} (X : OAt n0 Z y bytes maxL ret p l e R s m args below meth c T h cells slots) (h1 : cells ≤ k2) (h2 : slots ≤ n2) : OAt n0 Z y bytes maxL ret p l e R s m args below meth c T h k2 n2 := by
  obtain ⟨C, locs, X, r⟩ := X
  exact ⟨C, locs, X.more h1 h2, r⟩
theorem o_static {C n d K : String} (hx : (Jvm.Cond.exactly (.static C n d) K).value args Z none Z [] = some true) (wi : (Jvm.Cond.initialized C).before args Z = true) (wl : (Jvm.Cond.laysStatic C n d).before args Z = true) :
    ∃ a, (Term.static C n d).eval args Z none [] Z = some (.ref a) ∧ Exa Z Z.heap a K ∧ Sta Z Z.heap C n d (.ref a) := by
  obtain ⟨a, ev⟩ := exa_v hx
  exact ⟨a, ev, Exa.start ev hx, Sta.start ev (Or.inr ⟨wi, wl⟩)⟩
theorem o_fieldI {t : Term} {O f dd : String} {k : Int32} {a : Addr} (ev : t.eval args Z none [] Z = some (.ref a)) (hq : (Jvm.Cond.eq (.field t O f dd) (.int k)).value args Z none Z [] = some true) : Fld Z Z.heap a O f dd (.int k) := by
  refine Fld.start ?_
  rw [← fld_at (C := O) (n := f) (dd := dd) ev]
  obtain ⟨u, v, h1, h2, h3, h4⟩ := cmp_v (Or.inl hq)
  have h5 : v = .int k := (Option.some.inj h2).symm
  subst h5
  obtain ⟨z, rfl⟩ := h4
  have := gotT (Cond.eq_ints h1 h2) hq
  rw [h1, this]
end Own
def own_EL : List (String × Nat) := []
theorem own_wS {Z : State} {a0 : Array Value} (hw : ∀ d ∈ tables_1, d.before a0 Z = true) : ∀ a ∈ Bundle.stringAtoms, a.before a0 Z = true := fun a ha => hw a ((show ∀ a ∈ Bundle.stringAtoms, a ∈ tables_1 by decide +kernel) a ha)
theorem own_EW {Z : State} {a0 : Array Value} (hw : ∀ d ∈ tables_1, d.before a0 Z = true) : EW Z a0 own_EL := EW.nil
theorem own_i (k : Nat) (hk : k < 2 ^ 31) : (Int32.ofNat k).toInt = k := Int32.toInt_ofNat_of_lt (by omega)
theorem own_iN (k : Nat) (hk : k < 2 ^ 31) : (Int32.ofNat k).toNatClampNeg = k := by show (Int32.ofNat k).toInt.toNat = k; rw [own_i k hk]; rfl
theorem own_add32 (k t : Nat) (h : k + t < 2 ^ 31) : Int32.ofNat k + Int32.ofNat t = Int32.ofNat (k + t) := by
  apply Int32.toInt_inj.mp
  have h1 := c_iadd (Int32.ofNat k) (Int32.ofNat t)
  have r := rng32 (Int32.ofNat k + Int32.ofNat t)
  rw [own_i k (by omega), own_i t (by omega)] at h1
  rw [own_i _ h]
  omega
theorem own_lt32 (a b : Nat) (ha : a < 2 ^ 31) (hb : b < 2 ^ 31) : Int32.ofNat a < Int32.ofNat b ↔ a < b := by
  rw [Int32.lt_iff_toInt_lt, own_i a ha, own_i b hb]; omega
theorem own_eq32 (a b : Nat) (ha : a < 2 ^ 31) (hb : b < 2 ^ 31) : Int32.ofNat a = Int32.ofNat b ↔ a = b := by
  constructor
  · intro h; have := congrArg Int32.toInt h; rw [own_i a ha, own_i b hb] at this; omega
  · rintro rfl; rfl
theorem own_succ (i : Nat) (h : i + 1 < 2 ^ 31) : Int32.ofNat i + (1 : Int32) = Int32.ofNat (i + 1) := own_add32 i 1 h
theorem own_inN {N k : Nat} {cl : Cell} (S : cl.slots.size = N) (hk : k < N) (hN : N ≤ 8192) : ¬ (Int32.ofNat k < 0 ∨ cl.slots.size ≤ (Int32.ofNat k).toNatClampNeg) := o_in S (by rw [own_i k (by omega)]; omega) (by rw [own_i k (by omega)]; omega)
theorem own_bb (x : Int32) : nar .byte x.toInt8.toInt32 = x.toInt8.toInt32 := by
  show x.toInt8.toInt32.toInt8.toInt32 = x.toInt8.toInt32
  rw [Int8.toInt8_toInt32]
theorem own_cc (x : Int32) (h0 : 0 ≤ x.toInt) (h1 : x.toInt ≤ 65535) : x.toUInt32.toUInt16.toUInt32.toInt32 = x := by
  have q := c_i2c x
  apply Int32.toInt_inj.mp
  omega
theorem own_narC (x : Int32) (h0 : 0 ≤ x.toInt) (h1 : x.toInt ≤ 65535) : nar .char x = x := own_cc x h0 h1
theorem own_chr (x : Int32) (h0 : 0 ≤ x.toInt) (h1 : x.toInt ≤ 255) : nar .char ((x.toInt8.toInt32 &&& (255 : Int32)).toUInt32.toUInt16.toUInt32.toInt32) = x := by
  have e : x.toInt8.toInt32 &&& (255 : Int32) = x := by
    apply Int32.toInt_inj.mp
    rw [c_mask _ _ 8 (by decide) (by decide)]
    have q := (c_i2b x).1
    have : ((2 ^ 8 : Nat) : Int) = 256 := by decide
    omega
  rw [e, own_cc x h0 (by omega)]
  exact own_narC x h0 (by omega)
theorem own_sh0 (x : Int32) : x >>> ((0 : Int32) &&& 31) = x := by
  apply Int32.toInt_inj.mp
  rw [c_ishr x 0 0 (by decide)]
  simp
theorem own_sub0 (x : Int32) : (((x - x).toUInt32 >>> ((31 : Int32) &&& 31).toUInt32).toInt32).toInt8.toInt32 = 0 := by
  rw [Int32.sub_self]
  decide
theorem own_s6i {v0 v1 v2 v3 v4 v5 : Value} {s6 : Slot} {x : Int32} (h : One s6) : storeLocals #[.val v0, .val v1, .val v2, .val v3, .val v4, .val v5, s6] 6 (.int x) = some #[.val v0, .val v1, .val v2, .val v3, .val v4, .val v5, .val (.int x)] := by
  rcases h with rfl | ⟨w, rfl, hw⟩
  · rfl
  · cases w <;> first | rfl | (simp [Value.category] at hw)
theorem own_s2i {v0 v1 : Value} {s2 : Slot} {x : Int32} (h : One s2) : storeLocals #[.val v0, .val v1, s2] 2 (.int x) = some #[.val v0, .val v1, .val (.int x)] := by
  rcases h with rfl | ⟨w, rfl, hw⟩
  · rfl
  · cases w <;> first | rfl | (simp [Value.category] at hw)
/-- a String of N chars f 0, f 1, .., each at most 255 -/
def OStr (Z : State) (h : Heap) (a t : Addr) (N : Nat) (f : Nat → Int32) : Prop := Exa Z h a "java/lang/String" ∧ Fld Z h a "java/lang/String" "coder" "B" (.int 0) ∧ Fld Z h a "java/lang/String" "value" "[B" (.ref t) ∧ OArr Z h t .byte N (fun j => .int (f j).toInt8.toInt32)
theorem OStr.ext {Z : State} {h h' : Heap} {a t : Addr} {N : Nat} {f : Nat → Int32} (S : OStr Z h a t N f) (E : Ext h h') : OStr Z h' a t N f := ⟨S.1.ext E, S.2.1.ext E, S.2.2.1.ext E, S.2.2.2.ext E⟩
theorem OStr.keep {Z : State} {h h' : Heap} {a t : Addr} {N : Nat} {f : Nat → Int32} {ws : List Addr} (S : OStr Z h a t N f) (K : Keep h h' ws) (q1 : a ∉ ws) (q2 : t ∉ ws) : OStr Z h' a t N f := ⟨S.1.keep K, S.2.1.keep K q1, S.2.2.1.keep K q1, S.2.2.2.keep K q2⟩
theorem OStr.wr {Z : State} {h h' : Heap} {a t b : Addr} {N sl : Nat} {v : Value} {f : Nat → Int32} (S : OStr Z h a t N f) (W : Wr h h' b sl v) (q1 : a ≠ b) (q2 : t ≠ b) : OStr Z h' a t N f := ⟨S.1.wr W, S.2.1.other W (Or.inl q1), S.2.2.1.other W (Or.inl q1), S.2.2.2.other W q2⟩
theorem pn_java_lang_StringUTF16 : plainName "java/lang/StringUTF16" = true := by first | (simp [plainName, overriddenIn]; done) | decide +kernel
theorem d6_3 : decode jdk_52_method_21_code 3 = .ok (.iload 5, 2) := by decide +kernel
theorem d6_5 : decode jdk_52_method_21_code 5 = .ok (.iload 4, 2) := by decide +kernel
theorem d6_7 : decode jdk_52_method_21_code 7 = .ok (.if_icmp .ge 37, 3) := by decide +kernel
theorem d6_44 : decode jdk_52_method_21_code 44 = .ok (.iload 4, 2) := by decide +kernel
theorem d6_46 : decode jdk_52_method_21_code 46 = .ok (.ireturn, 1) := by decide +kernel
theorem d6_10 : decode jdk_52_method_21_code 10 = .ok (.aload_n 0, 1) := by decide +kernel
theorem d6_11 : decode jdk_52_method_21_code 11 = .ok (.iload_n 1, 1) := by decide +kernel
theorem d6_12 : decode jdk_52_method_21_code 12 = .ok (.caload, 1) := by decide +kernel
theorem d6_13 : decode jdk_52_method_21_code 13 = .ok (.istore 6, 2) := by decide +kernel
theorem d6_15 : decode jdk_52_method_21_code 15 = .ok (.iload 6, 2) := by decide +kernel
theorem d6_17 : decode jdk_52_method_21_code 17 = .ok (.sipush 255, 3) := by decide +kernel
theorem d6_20 : decode jdk_52_method_21_code 20 = .ok (.if_icmp .le 6, 3) := by decide +kernel
theorem d6_26 : decode jdk_52_method_21_code 26 = .ok (.aload_n 2, 1) := by decide +kernel
theorem d6_27 : decode jdk_52_method_21_code 27 = .ok (.iload_n 3, 1) := by decide +kernel
theorem d6_28 : decode jdk_52_method_21_code 28 = .ok (.iload 6, 2) := by decide +kernel
theorem d6_30 : decode jdk_52_method_21_code 30 = .ok (.i2b, 1) := by decide +kernel
theorem d6_31 : decode jdk_52_method_21_code 31 = .ok (.bastore, 1) := by decide +kernel
theorem d6_32 : decode jdk_52_method_21_code 32 = .ok (.iinc 1 1, 3) := by decide +kernel
theorem d6_35 : decode jdk_52_method_21_code 35 = .ok (.iinc 3 1, 3) := by decide +kernel
theorem d6_38 : decode jdk_52_method_21_code 38 = .ok (.iinc 5 1, 3) := by decide +kernel
theorem d6_41 : decode jdk_52_method_21_code 41 = .ok (.goto (-38), 3) := by decide +kernel
theorem d6_0 : decode jdk_52_method_21_code 0 = .ok (.iconst 0, 1) := by decide +kernel
theorem d6_1 : decode jdk_52_method_21_code 1 = .ok (.istore 5, 2) := by decide +kernel
set_option maxRecDepth 65536 in
set_option maxHeartbeats 40000000 in
theorem sm1 (l : Launch) (Z : State) (a0 : Array Value) (hw : ∀ d ∈ tables_1, d.before a0 Z = true) (ca ba : Addr) (N : Nat) (f : Nat → Int32) (h0 : Heap) (n0 : Nat) (FC : OArr Z h0 ca .char N (fun j => .int (f j))) (FB : OArr Z h0 ba .byte N (fun _ => .int 0)) (hN : N ≤ 4000) (hch : ∀ j, j < N → 0 ≤ (f j).toInt ∧ (f j).toInt ≤ 255) (hnew : n0 ≤ ba) (ne : ca ≠ ba) :
    OMeets l Z (⟨"java/lang/StringUTF16", "compress", "([CI[BII)I"⟩ : MethodName) [] jdk_52_method_21_code 7 (some .int) ({ frames := 0, cells := 0, slots := 0, locals := 0 } : Room) #[(.ref ca), (.int (0 : Int32)), (.ref ba), (.int (0 : Int32)), (.int (Int32.ofNat N))] h0 n0 (fun v h => v = some (.int (Int32.ofNat N)) ∧ Keep h0 h [ba] ∧ OArr Z h ba .byte N (fun j => .int (f j).toInt8.toInt32)) := by
  refine o_enter (Z := Z) (plainFor_of_name pn_java_lang_StringUTF16) ?_
  intro p e s m below meth c T0 X0
  refine OFin.cast (g' := (mkF m 0 #[.val (.ref ca), .val (.int (0 : Int32)), .val (.ref ba), .val (.int (0 : Int32)), .val (.int (Int32.ofNat N)), .unset, .unset] [])) (by first | (simp [entryFrame, mkF, argsToLocals, Value.category]; done) | rfl) ?_
  have loop : ∀ (k i : Nat) (T : State) (h : Heap) (s6 : Slot), i + k = N → One s6 → OAt n0 Z (⟨"java/lang/StringUTF16", "compress", "([CI[BII)I"⟩ : MethodName) jdk_52_method_21_code 7 (some .int) p l e ({ frames := 0, cells := 0, slots := 0, locals := 0 } : Room) s m #[(.ref ca), (.int (0 : Int32)), (.ref ba), (.int (0 : Int32)), (.int (Int32.ofNat N))] below meth c T h 0 0 → OArr Z h ca .char N (fun j => .int (f j)) → OArr Z h ba .byte N (fun j => if j < i then .int (f j).toInt8.toInt32 else .int 0) → Keep h0 h [ba] → OFin n0 p e (fun o t L => FrameEnd s o t L ({ frames := 0, cells := 0, slots := 0, locals := 0 } : Room).cells ({ frames := 0, cells := 0, slots := 0, locals := 0 } : Room).slots) below (fun v h => v = some (.int (Int32.ofNat N)) ∧ Keep h0 h [ba] ∧ OArr Z h ba .byte N (fun j => .int (f j).toInt8.toInt32)) T (mkF m 3 #[.val (.ref ca), .val (.int (Int32.ofNat i)), .val (.ref ba), .val (.int (Int32.ofNat i)), .val (.int (Int32.ofNat N)), .val (.int (Int32.ofNat i)), s6] []) := by
    intro k
    induction k with
    | zero =>
      intro i T h s6 hik h6 X FC FB K
      have hiN : i = N := by omega
      refine X.step (fun hA hx hq t_ k_ => XS.iload hA hx rfl (hb hq d6_3) rfl k_) ?_
      show OFin _ _ _ _ _ _ T (mkF m 5 #[.val (.ref ca), .val (.int (Int32.ofNat i)), .val (.ref ba), .val (.int (Int32.ofNat i)), .val (.int (Int32.ofNat N)), .val (.int (Int32.ofNat i)), s6] [(.int (Int32.ofNat i))])
      refine X.step (fun hA hx hq t_ k_ => XS.iload hA hx rfl (hb hq d6_5) rfl k_) ?_
      show OFin _ _ _ _ _ _ T (mkF m 7 #[.val (.ref ca), .val (.int (Int32.ofNat i)), .val (.ref ba), .val (.int (Int32.ofNat i)), .val (.int (Int32.ofNat N)), .val (.int (Int32.ofNat i)), s6] [(.int (Int32.ofNat N)), (.int (Int32.ofNat i))])
      refine X.step (fun hA hx hq t_ k_ => XS.icmpYes hA hx rfl (pc0 := 7) (pc' := 44) rfl (hb hq d6_7) rfl (flt (fun c => by rw [own_lt32 i N (by omega) (by omega)] at c; omega)).2.1 (by decide) (by decide) k_) ?_
      show OFin _ _ _ _ _ _ T (mkF m 44 #[.val (.ref ca), .val (.int (Int32.ofNat i)), .val (.ref ba), .val (.int (Int32.ofNat i)), .val (.int (Int32.ofNat N)), .val (.int (Int32.ofNat i)), s6] [])
      refine X.step (fun hA hx hq t_ k_ => XS.iload hA hx rfl (hb hq d6_44) rfl k_) ?_
      show OFin _ _ _ _ _ _ T (mkF m 46 #[.val (.ref ca), .val (.int (Int32.ofNat i)), .val (.ref ba), .val (.int (Int32.ofNat i)), .val (.int (Int32.ofNat N)), .val (.int (Int32.ofNat i)), s6] [(.int (Int32.ofNat N))])
      exact X.retI d6_46 (oN (by decide) (by decide)) (⟨rfl, K, FB.congr fun j hj => if_pos (by omega)⟩)
    | succ k ih =>
      intro i T h s6 hik h6 X FC FB K
      have hlt : i < N := by omega
      obtain ⟨cc, Ac, Sc, Hc⟩ := id FC
      obtain ⟨cb, Ab, Sb, Hb⟩ := id FB
      have hi := hch i hlt
      refine X.step (fun hA hx hq t_ k_ => XS.iload hA hx rfl (hb hq d6_3) rfl k_) ?_
      show OFin _ _ _ _ _ _ T (mkF m 5 #[.val (.ref ca), .val (.int (Int32.ofNat i)), .val (.ref ba), .val (.int (Int32.ofNat i)), .val (.int (Int32.ofNat N)), .val (.int (Int32.ofNat i)), s6] [(.int (Int32.ofNat i))])
      refine X.step (fun hA hx hq t_ k_ => XS.iload hA hx rfl (hb hq d6_5) rfl k_) ?_
      show OFin _ _ _ _ _ _ T (mkF m 7 #[.val (.ref ca), .val (.int (Int32.ofNat i)), .val (.ref ba), .val (.int (Int32.ofNat i)), .val (.int (Int32.ofNat N)), .val (.int (Int32.ofNat i)), s6] [(.int (Int32.ofNat N)), (.int (Int32.ofNat i))])
      refine X.step (fun hA hx hq t_ k_ => XS.icmpNo hA hx rfl (hb hq d6_7) rfl (tlt ((own_lt32 i N (by omega) (by omega)).mpr hlt)).2.1 k_) ?_
      show OFin _ _ _ _ _ _ T (mkF m 10 #[.val (.ref ca), .val (.int (Int32.ofNat i)), .val (.ref ba), .val (.int (Int32.ofNat i)), .val (.int (Int32.ofNat N)), .val (.int (Int32.ofNat i)), s6] [])
      refine X.step (fun hA hx hq t_ k_ => XS.aloadN hA hx rfl (hb hq d6_10) rfl rfl k_) ?_
      show OFin _ _ _ _ _ _ T (mkF m 11 #[.val (.ref ca), .val (.int (Int32.ofNat i)), .val (.ref ba), .val (.int (Int32.ofNat i)), .val (.int (Int32.ofNat N)), .val (.int (Int32.ofNat i)), s6] [(.ref ca)])
      refine X.step (fun hA hx hq t_ k_ => XS.iloadN hA hx rfl (hb hq d6_11) rfl k_) ?_
      show OFin _ _ _ _ _ _ T (mkF m 12 #[.val (.ref ca), .val (.int (Int32.ofNat i)), .val (.ref ba), .val (.int (Int32.ofNat i)), .val (.int (Int32.ofNat N)), .val (.int (Int32.ofNat i)), s6] [(.int (Int32.ofNat i)), (.ref ca)])
      refine X.aload0 Ac (v := (.int (f i))) (own_inN Sc hlt (by omega)) (by rw [own_iN i (by omega)]; exact Hc i hlt) (g := (mkF m 12 #[.val (.ref ca), .val (.int (Int32.ofNat i)), .val (.ref ba), .val (.int (Int32.ofNat i)), .val (.int (Int32.ofNat N)), .val (.int (Int32.ofNat i)), s6] [(.int (Int32.ofNat i)), (.ref ca)])) rfl rfl (Or.inr (Or.inr (Or.inl ⟨rfl, rfl⟩))) d6_12 ?_
      show OFin _ _ _ _ _ _ T (mkF m 13 #[.val (.ref ca), .val (.int (Int32.ofNat i)), .val (.ref ba), .val (.int (Int32.ofNat i)), .val (.int (Int32.ofNat N)), .val (.int (Int32.ofNat i)), s6] [(.int (f i))])
      refine X.step (fun hA hx hq t_ k_ => XS.istore hA hx rfl (hb hq d6_13) rfl (l' := #[.val (.ref ca), .val (.int (Int32.ofNat i)), .val (.ref ba), .val (.int (Int32.ofNat i)), .val (.int (Int32.ofNat N)), .val (.int (Int32.ofNat i)), .val (.int (f i))]) (own_s6i h6) k_) ?_
      show OFin _ _ _ _ _ _ T (mkF m 15 #[.val (.ref ca), .val (.int (Int32.ofNat i)), .val (.ref ba), .val (.int (Int32.ofNat i)), .val (.int (Int32.ofNat N)), .val (.int (Int32.ofNat i)), .val (.int (f i))] [])
      refine X.step (fun hA hx hq t_ k_ => XS.iload hA hx rfl (hb hq d6_15) rfl k_) ?_
      show OFin _ _ _ _ _ _ T (mkF m 17 #[.val (.ref ca), .val (.int (Int32.ofNat i)), .val (.ref ba), .val (.int (Int32.ofNat i)), .val (.int (Int32.ofNat N)), .val (.int (Int32.ofNat i)), .val (.int (f i))] [(.int (f i))])
      refine X.step (fun hA hx hq t_ k_ => XS.sipush hA hx rfl (hb hq d6_17) k_) ?_
      show OFin _ _ _ _ _ _ T (mkF m 20 #[.val (.ref ca), .val (.int (Int32.ofNat i)), .val (.ref ba), .val (.int (Int32.ofNat i)), .val (.int (Int32.ofNat N)), .val (.int (Int32.ofNat i)), .val (.int (f i))] [(.int (255 : Int32)), (.int (f i))])
      refine X.step (fun hA hx hq t_ k_ => XS.icmpYes hA hx rfl (pc0 := 20) (pc' := 26) rfl (hb hq d6_20) rfl (flt ((by rw [Int32.lt_iff_toInt_lt]; have : (255 : Int32).toInt = 255 := (by decide); omega))).2.2.2 (by decide) (by decide) k_) ?_
      show OFin _ _ _ _ _ _ T (mkF m 26 #[.val (.ref ca), .val (.int (Int32.ofNat i)), .val (.ref ba), .val (.int (Int32.ofNat i)), .val (.int (Int32.ofNat N)), .val (.int (Int32.ofNat i)), .val (.int (f i))] [])
      refine X.step (fun hA hx hq t_ k_ => XS.aloadN hA hx rfl (hb hq d6_26) rfl rfl k_) ?_
      show OFin _ _ _ _ _ _ T (mkF m 27 #[.val (.ref ca), .val (.int (Int32.ofNat i)), .val (.ref ba), .val (.int (Int32.ofNat i)), .val (.int (Int32.ofNat N)), .val (.int (Int32.ofNat i)), .val (.int (f i))] [(.ref ba)])
      refine X.step (fun hA hx hq t_ k_ => XS.iloadN hA hx rfl (hb hq d6_27) rfl k_) ?_
      show OFin _ _ _ _ _ _ T (mkF m 28 #[.val (.ref ca), .val (.int (Int32.ofNat i)), .val (.ref ba), .val (.int (Int32.ofNat i)), .val (.int (Int32.ofNat N)), .val (.int (Int32.ofNat i)), .val (.int (f i))] [(.int (Int32.ofNat i)), (.ref ba)])
      refine X.step (fun hA hx hq t_ k_ => XS.iload hA hx rfl (hb hq d6_28) rfl k_) ?_
      show OFin _ _ _ _ _ _ T (mkF m 30 #[.val (.ref ca), .val (.int (Int32.ofNat i)), .val (.ref ba), .val (.int (Int32.ofNat i)), .val (.int (Int32.ofNat N)), .val (.int (Int32.ofNat i)), .val (.int (f i))] [(.int (f i)), (.int (Int32.ofNat i)), (.ref ba)])
      refine X.step (fun hA hx hq t_ k_ => XS.i2b hA hx rfl (hb hq d6_30) rfl k_) ?_
      show OFin _ _ _ _ _ _ T (mkF m 31 #[.val (.ref ca), .val (.int (Int32.ofNat i)), .val (.ref ba), .val (.int (Int32.ofNat i)), .val (.int (Int32.ofNat N)), .val (.int (Int32.ofNat i)), .val (.int (f i))] [(.int ((f i).toInt8.toInt32)), (.int (Int32.ofNat i)), (.ref ba)])
      refine X.stB Ab (own_inN Sb hlt (by omega)) (hnew) (g := (mkF m 31 #[.val (.ref ca), .val (.int (Int32.ofNat i)), .val (.ref ba), .val (.int (Int32.ofNat i)), .val (.int (Int32.ofNat N)), .val (.int (Int32.ofNat i)), .val (.int (f i))] [(.int ((f i).toInt8.toInt32)), (.int (Int32.ofNat i)), (.ref ba)])) rfl rfl d6_31 ?_
      intro T1 h1 X1 W1
      show OFin _ _ _ _ _ _ T1 (mkF m 32 #[.val (.ref ca), .val (.int (Int32.ofNat i)), .val (.ref ba), .val (.int (Int32.ofNat i)), .val (.int (Int32.ofNat N)), .val (.int (Int32.ofNat i)), .val (.int (f i))] [])
      rw [own_iN i (by omega), own_bb] at W1
      refine X1.step (fun hA hx hq t_ k_ => XS.iinc hA hx rfl (hb hq d6_32) rfl (l' := #[.val (.ref ca), .val (.int ((Int32.ofNat i) + (1 : Int32))), .val (.ref ba), .val (.int (Int32.ofNat i)), .val (.int (Int32.ofNat N)), .val (.int (Int32.ofNat i)), .val (.int (f i))]) rfl k_) ?_
      show OFin _ _ _ _ _ _ T1 (mkF m 35 #[.val (.ref ca), .val (.int ((Int32.ofNat i) + (1 : Int32))), .val (.ref ba), .val (.int (Int32.ofNat i)), .val (.int (Int32.ofNat N)), .val (.int (Int32.ofNat i)), .val (.int (f i))] [])
      refine X1.step (fun hA hx hq t_ k_ => XS.iinc hA hx rfl (hb hq d6_35) rfl (l' := #[.val (.ref ca), .val (.int ((Int32.ofNat i) + (1 : Int32))), .val (.ref ba), .val (.int ((Int32.ofNat i) + (1 : Int32))), .val (.int (Int32.ofNat N)), .val (.int (Int32.ofNat i)), .val (.int (f i))]) rfl k_) ?_
      show OFin _ _ _ _ _ _ T1 (mkF m 38 #[.val (.ref ca), .val (.int ((Int32.ofNat i) + (1 : Int32))), .val (.ref ba), .val (.int ((Int32.ofNat i) + (1 : Int32))), .val (.int (Int32.ofNat N)), .val (.int (Int32.ofNat i)), .val (.int (f i))] [])
      refine X1.step (fun hA hx hq t_ k_ => XS.iinc hA hx rfl (hb hq d6_38) rfl (l' := #[.val (.ref ca), .val (.int ((Int32.ofNat i) + (1 : Int32))), .val (.ref ba), .val (.int ((Int32.ofNat i) + (1 : Int32))), .val (.int (Int32.ofNat N)), .val (.int ((Int32.ofNat i) + (1 : Int32))), .val (.int (f i))]) rfl k_) ?_
      show OFin _ _ _ _ _ _ T1 (mkF m 41 #[.val (.ref ca), .val (.int ((Int32.ofNat i) + (1 : Int32))), .val (.ref ba), .val (.int ((Int32.ofNat i) + (1 : Int32))), .val (.int (Int32.ofNat N)), .val (.int ((Int32.ofNat i) + (1 : Int32))), .val (.int (f i))] [])
      rw [own_succ i (by omega)]
      show OFin _ _ _ _ _ _ T1 (mkF m 41 #[.val (.ref ca), .val (.int (Int32.ofNat (i + 1))), .val (.ref ba), .val (.int (Int32.ofNat (i + 1))), .val (.int (Int32.ofNat N)), .val (.int (Int32.ofNat (i + 1))), .val (.int (f i))] [])
      refine X1.step (fun hA hx hq t_ k_ => XS.goto hA hx rfl (pc0 := 41) (pc' := 3) rfl (hb hq d6_41) (by decide) (by decide) k_) ?_
      show OFin _ _ _ _ _ _ T1 (mkF m 3 #[.val (.ref ca), .val (.int (Int32.ofNat (i + 1))), .val (.ref ba), .val (.int (Int32.ofNat (i + 1))), .val (.int (Int32.ofNat N)), .val (.int (Int32.ofNat (i + 1))), .val (.int (f i))] [])
      refine ih (i + 1) T1 h1 _ (by omega) (One.val rfl) X1 (FC.other W1 ne) ((FB.set W1).congr fun j hj => ?_) (K.wr W1 (Or.inl (List.mem_of_getElem? (i := 0) rfl)))
      by_cases c : j = i
      · have c2 : j < i + 1 := by omega
        simp only [c, if_true]
        rw [if_pos (by omega)]
      · by_cases d : j < i
        · have d2 : j < i + 1 := by omega
          simp only [c, d, d2, if_true, if_false]
        · have d2 : ¬ j < i + 1 := by omega
          simp only [c, d, d2, if_false]
  refine X0.step (fun hA hx hq t_ k_ => XS.iconst hA hx rfl (hb hq d6_0) k_) ?_
  show OFin _ _ _ _ _ _ T0 (mkF m 1 #[.val (.ref ca), .val (.int (0 : Int32)), .val (.ref ba), .val (.int (0 : Int32)), .val (.int (Int32.ofNat N)), .unset, .unset] [(.int (0 : Int32))])
  refine X0.step (fun hA hx hq t_ k_ => XS.istore hA hx rfl (hb hq d6_1) rfl (l' := #[.val (.ref ca), .val (.int (0 : Int32)), .val (.ref ba), .val (.int (0 : Int32)), .val (.int (Int32.ofNat N)), .val (.int (0 : Int32)), .unset]) rfl k_) ?_
  show OFin _ _ _ _ _ _ T0 (mkF m 3 #[.val (.ref ca), .val (.int (0 : Int32)), .val (.ref ba), .val (.int (0 : Int32)), .val (.int (Int32.ofNat N)), .val (.int (0 : Int32)), .unset] [])
  exact loop N 0 T0 h0 .unset (by omega) One.u X0 FC (FB.congr fun j hj => by simp) (Keep.refl _ _)
theorem d5_0 : decode jdk_52_method_16_code 0 = .ok (.iload_n 2, 1) := by decide +kernel
theorem d5_1 : decode jdk_52_method_16_code 1 = .ok (.newarray .byte, 2) := by decide +kernel
theorem d5_3 : decode jdk_52_method_16_code 3 = .ok (.astore_n 3, 1) := by decide +kernel
theorem d5_4 : decode jdk_52_method_16_code 4 = .ok (.aload_n 0, 1) := by decide +kernel
theorem d5_5 : decode jdk_52_method_16_code 5 = .ok (.iload_n 1, 1) := by decide +kernel
theorem d5_6 : decode jdk_52_method_16_code 6 = .ok (.aload_n 3, 1) := by decide +kernel
theorem d5_7 : decode jdk_52_method_16_code 7 = .ok (.iconst 0, 1) := by decide +kernel
theorem d5_8 : decode jdk_52_method_16_code 8 = .ok (.iload_n 2, 1) := by decide +kernel
theorem d5_9 : decode jdk_52_method_16_code 9 = .ok (.invokestatic 115, 3) := by decide +kernel
theorem pd_pA_CIA_BIIr_I : parseMethodDescriptor "([CI[BII)I" = some ⟨[(.array .char), .int, (.array .byte), .int, .int], some .int⟩ := by decide +kernel
theorem d5_12 : decode jdk_52_method_16_code 12 = .ok (.istore 4, 2) := by decide +kernel
theorem d5_14 : decode jdk_52_method_16_code 14 = .ok (.iload 4, 2) := by decide +kernel
theorem d5_16 : decode jdk_52_method_16_code 16 = .ok (.iload_n 2, 1) := by decide +kernel
theorem d5_17 : decode jdk_52_method_16_code 17 = .ok (.if_icmp .eq 40, 3) := by decide +kernel
theorem d5_57 : decode jdk_52_method_16_code 57 = .ok (.aload_n 3, 1) := by decide +kernel
theorem d5_58 : decode jdk_52_method_16_code 58 = .ok (.areturn, 1) := by decide +kernel
set_option maxRecDepth 65536 in
set_option maxHeartbeats 40000000 in
theorem sm2 (l : Launch) (Z : State) (a0 : Array Value) (hw : ∀ d ∈ tables_1, d.before a0 Z = true) (ca : Addr) (N : Nat) (f : Nat → Int32) (h0 : Heap) (n0 : Nat) (FC : OArr Z h0 ca .char N (fun j => .int (f j))) (hN : N ≤ 4) (hch : ∀ j, j < N → 0 ≤ (f j).toInt ∧ (f j).toInt ≤ 255) (Z0 : n0 ≤ h0.size) :
    OMeets l Z (⟨"java/lang/StringUTF16", "compress", "([CII)[B"⟩ : MethodName) [] jdk_52_method_16_code 6 (some (.array .byte)) ({ frames := 1, cells := 1, slots := 4, locals := 18 } : Room) #[(.ref ca), (.int (0 : Int32)), (.int (Int32.ofNat N))] h0 n0 (fun v h => ∃ t, v = some (.ref t) ∧ Keep h0 h [] ∧ OArr Z h t .byte N (fun j => .int (f j).toInt8.toInt32) ∧ h0.size ≤ t) := by
  refine o_enter (Z := Z) (plainFor_of_name pn_java_lang_StringUTF16) ?_
  intro p e s m below meth c T0 X0
  refine OFin.cast (g' := (mkF m 0 #[.val (.ref ca), .val (.int (0 : Int32)), .val (.int (Int32.ofNat N)), .unset, .unset, .unset] [])) (by first | (simp [entryFrame, mkF, argsToLocals, Value.category]; done) | rfl) ?_
  refine X0.step (fun hA hx hq t_ k_ => XS.iloadN hA hx rfl (hb hq d5_0) rfl k_) ?_
  show OFin _ _ _ _ _ _ T0 (mkF m 1 #[.val (.ref ca), .val (.int (0 : Int32)), .val (.int (Int32.ofNat N)), .unset, .unset, .unset] [(.int (Int32.ofNat N))])
  refine X0.newP (hw _ (List.mem_of_getElem? (i := 24) rfl)) (g := (mkF m 1 #[.val (.ref ca), .val (.int (0 : Int32)), .val (.int (Int32.ofNat N)), .unset, .unset, .unset] [(.int (Int32.ofNat N))])) rfl d5_1 rfl (by rw [Int32.lt_iff_toInt_lt, own_i N (by omega)]; have : (0 : Int32).toInt = 0 := (by decide); omega) (cap := 4) (by rw [own_iN N (by omega)]; exact hN) (by decide) (by decide) (by decide) (ad := "[B") (by first | rfl | decide) ?_
  intro T1 h1 k1 b1 gb1 X1 E1 A1 G1
  show OFin _ _ _ _ _ _ T1 (mkF m 3 #[.val (.ref ca), .val (.int (0 : Int32)), .val (.int (Int32.ofNat N)), .unset, .unset, .unset] [(.ref b1)])
  refine X1.step (fun hA hx hq t_ k_ => XS.astoreN hA hx rfl (hb hq d5_3) rfl rfl (l' := #[.val (.ref ca), .val (.int (0 : Int32)), .val (.int (Int32.ofNat N)), .val (.ref b1), .unset, .unset]) rfl k_) ?_
  show OFin _ _ _ _ _ _ T1 (mkF m 4 #[.val (.ref ca), .val (.int (0 : Int32)), .val (.int (Int32.ofNat N)), .val (.ref b1), .unset, .unset] [])
  refine X1.step (fun hA hx hq t_ k_ => XS.aloadN hA hx rfl (hb hq d5_4) rfl rfl k_) ?_
  show OFin _ _ _ _ _ _ T1 (mkF m 5 #[.val (.ref ca), .val (.int (0 : Int32)), .val (.int (Int32.ofNat N)), .val (.ref b1), .unset, .unset] [(.ref ca)])
  refine X1.step (fun hA hx hq t_ k_ => XS.iloadN hA hx rfl (hb hq d5_5) rfl k_) ?_
  show OFin _ _ _ _ _ _ T1 (mkF m 6 #[.val (.ref ca), .val (.int (0 : Int32)), .val (.int (Int32.ofNat N)), .val (.ref b1), .unset, .unset] [(.int (0 : Int32)), (.ref ca)])
  refine X1.step (fun hA hx hq t_ k_ => XS.aloadN hA hx rfl (hb hq d5_6) rfl rfl k_) ?_
  show OFin _ _ _ _ _ _ T1 (mkF m 7 #[.val (.ref ca), .val (.int (0 : Int32)), .val (.int (Int32.ofNat N)), .val (.ref b1), .unset, .unset] [(.ref b1), (.int (0 : Int32)), (.ref ca)])
  refine X1.step (fun hA hx hq t_ k_ => XS.iconst hA hx rfl (hb hq d5_7) k_) ?_
  show OFin _ _ _ _ _ _ T1 (mkF m 8 #[.val (.ref ca), .val (.int (0 : Int32)), .val (.int (Int32.ofNat N)), .val (.ref b1), .unset, .unset] [(.int (0 : Int32)), (.ref b1), (.int (0 : Int32)), (.ref ca)])
  refine X1.step (fun hA hx hq t_ k_ => XS.iloadN hA hx rfl (hb hq d5_8) rfl k_) ?_
  show OFin _ _ _ _ _ _ T1 (mkF m 9 #[.val (.ref ca), .val (.int (0 : Int32)), .val (.int (Int32.ofNat N)), .val (.ref b1), .unset, .unset] [(.int (Int32.ofNat N)), (.int (0 : Int32)), (.ref b1), (.int (0 : Int32)), (.ref ca)])
  have FB : OArr Z h1 b1 .byte N (fun _ => .int 0) := by
    have q := OArr.new A1
    rw [own_iN N (by omega)] at q
    exact q
  refine X1.callS (y' := (⟨"java/lang/StringUTF16", "compress", "([CI[BII)I"⟩ : MethodName)) (hw _ (List.mem_of_getElem? (i := 25) rfl)) (hw _ (List.mem_of_getElem? (i := 26) rfl)) (hw _ (List.mem_of_getElem? (i := 22) rfl)) (hw _ (List.mem_of_getElem? (i := 27) rfl)) (by decide) (argsL := [(.ref ca), (.int (0 : Int32)), (.ref b1), (.int (0 : Int32)), (.int (Int32.ofNat N))]) (rest := []) (sm1 l Z a0 hw ca b1 N f h1 n0 (FC.ext E1) FB (by omega) hch (by rw [gb1]; exact Z0) (by rw [gb1]; exact Nat.ne_of_lt FC.lt)) (g := (mkF m 9 #[.val (.ref ca), .val (.int (0 : Int32)), .val (.int (Int32.ofNat N)), .val (.ref b1), .unset, .unset] [(.int (Int32.ofNat N)), (.int (0 : Int32)), (.ref b1), (.int (0 : Int32)), (.ref ca)])) rfl rfl pd_pA_CIA_BIIr_I rfl rfl (W := 0) (by show 2 * 0 + _ ≤ _; exact Nat.le_of_eq rfl) d5_9 (by decide) (by decide) (by decide) (by decide) ?_
  intro v2 T2 h2 X2 q2
  obtain ⟨rfl, K2, F2⟩ := q2
  show OFin _ _ _ _ _ _ T2 (mkF m 12 #[.val (.ref ca), .val (.int (0 : Int32)), .val (.int (Int32.ofNat N)), .val (.ref b1), .unset, .unset] [(.int (Int32.ofNat N))])
  refine X2.step (fun hA hx hq t_ k_ => XS.istore hA hx rfl (hb hq d5_12) rfl (l' := #[.val (.ref ca), .val (.int (0 : Int32)), .val (.int (Int32.ofNat N)), .val (.ref b1), .val (.int (Int32.ofNat N)), .unset]) rfl k_) ?_
  show OFin _ _ _ _ _ _ T2 (mkF m 14 #[.val (.ref ca), .val (.int (0 : Int32)), .val (.int (Int32.ofNat N)), .val (.ref b1), .val (.int (Int32.ofNat N)), .unset] [])
  refine X2.step (fun hA hx hq t_ k_ => XS.iload hA hx rfl (hb hq d5_14) rfl k_) ?_
  show OFin _ _ _ _ _ _ T2 (mkF m 16 #[.val (.ref ca), .val (.int (0 : Int32)), .val (.int (Int32.ofNat N)), .val (.ref b1), .val (.int (Int32.ofNat N)), .unset] [(.int (Int32.ofNat N))])
  refine X2.step (fun hA hx hq t_ k_ => XS.iloadN hA hx rfl (hb hq d5_16) rfl k_) ?_
  show OFin _ _ _ _ _ _ T2 (mkF m 17 #[.val (.ref ca), .val (.int (0 : Int32)), .val (.int (Int32.ofNat N)), .val (.ref b1), .val (.int (Int32.ofNat N)), .unset] [(.int (Int32.ofNat N)), (.int (Int32.ofNat N))])
  refine X2.step (fun hA hx hq t_ k_ => XS.icmpYes hA hx rfl (pc0 := 17) (pc' := 57) rfl (hb hq d5_17) rfl (teq ((rfl : (Int32.ofNat N) = (Int32.ofNat N)))).1 (by decide) (by decide) k_) ?_
  show OFin _ _ _ _ _ _ T2 (mkF m 57 #[.val (.ref ca), .val (.int (0 : Int32)), .val (.int (Int32.ofNat N)), .val (.ref b1), .val (.int (Int32.ofNat N)), .unset] [])
  refine X2.step (fun hA hx hq t_ k_ => XS.aloadN hA hx rfl (hb hq d5_57) rfl rfl k_) ?_
  show OFin _ _ _ _ _ _ T2 (mkF m 58 #[.val (.ref ca), .val (.int (0 : Int32)), .val (.int (Int32.ofNat N)), .val (.ref b1), .val (.int (Int32.ofNat N)), .unset] [(.ref b1)])
  exact X2.retR rfl rfl d5_58 (oN (by decide) (by decide)) (⟨b1, rfl, ((Keep.refl h0 []).ext E1).trans K2 (allS (Or.inr (Nat.le_of_eq gb1.symm)) all0), F2, Nat.le_of_eq gb1.symm⟩)
theorem d7_0 : decode jdk_52_method_15_code 0 = .ok (.iload_n 1, 1) := by decide +kernel
theorem d7_1 : decode jdk_52_method_15_code 1 = .ok (.aload_n 0, 1) := by decide +kernel
theorem d7_2 : decode jdk_52_method_15_code 2 = .ok (.arraylength, 1) := by decide +kernel
theorem d7_3 : decode jdk_52_method_15_code 3 = .ok (.isub, 1) := by decide +kernel
theorem d7_4 : decode jdk_52_method_15_code 4 = .ok (.bipush 31, 2) := by decide +kernel
theorem d7_6 : decode jdk_52_method_15_code 6 = .ok (.iushr, 1) := by decide +kernel
theorem d7_7 : decode jdk_52_method_15_code 7 = .ok (.i2b, 1) := by decide +kernel
theorem d7_8 : decode jdk_52_method_15_code 8 = .ok (.ireturn, 1) := by decide +kernel
set_option maxRecDepth 65536 in
set_option maxHeartbeats 40000000 in
theorem sm3 (l : Launch) (Z : State) (a0 : Array Value) (hw : ∀ d ∈ tables_1, d.before a0 Z = true) (t : Addr) (N : Nat) (g_ : Nat → Value) (h0 : Heap) (n0 : Nat) (F : OArr Z h0 t .byte N g_) :
    OMeets l Z (⟨"java/lang/StringUTF16", "coderFromArrayLen", "([BI)B"⟩ : MethodName) [] jdk_52_method_15_code 2 (some .byte) ({ frames := 0, cells := 0, slots := 0, locals := 0 } : Room) #[(.ref t), (.int (Int32.ofNat N))] h0 n0 (fun v h => v = some (.int 0) ∧ h0 = h) := by
  refine o_enter (Z := Z) (plainFor_of_name pn_java_lang_StringUTF16) ?_
  intro p e s m below meth c T0 X0
  refine OFin.cast (g' := (mkF m 0 #[.val (.ref t), .val (.int (Int32.ofNat N))] [])) (by first | (simp [entryFrame, mkF, argsToLocals, Value.category]; done) | rfl) ?_
  obtain ⟨c1, A1, S1, H1⟩ := id F
  refine X0.step (fun hA hx hq t_ k_ => XS.iloadN hA hx rfl (hb hq d7_0) rfl k_) ?_
  show OFin _ _ _ _ _ _ T0 (mkF m 1 #[.val (.ref t), .val (.int (Int32.ofNat N))] [(.int (Int32.ofNat N))])
  refine X0.step (fun hA hx hq t_ k_ => XS.aloadN hA hx rfl (hb hq d7_1) rfl rfl k_) ?_
  show OFin _ _ _ _ _ _ T0 (mkF m 2 #[.val (.ref t), .val (.int (Int32.ofNat N))] [(.ref t), (.int (Int32.ofNat N))])
  refine X0.alen A1 (n := (Int32.ofNat N)) (by rw [S1]) (g := (mkF m 2 #[.val (.ref t), .val (.int (Int32.ofNat N))] [(.ref t), (.int (Int32.ofNat N))])) rfl rfl d7_2 ?_
  show OFin _ _ _ _ _ _ T0 (mkF m 3 #[.val (.ref t), .val (.int (Int32.ofNat N))] [(.int (Int32.ofNat N)), (.int (Int32.ofNat N))])
  refine X0.step (fun hA hx hq t_ k_ => XS.isub hA hx rfl (hb hq d7_3) rfl k_) ?_
  show OFin _ _ _ _ _ _ T0 (mkF m 4 #[.val (.ref t), .val (.int (Int32.ofNat N))] [(.int ((Int32.ofNat N) - (Int32.ofNat N)))])
  refine X0.step (fun hA hx hq t_ k_ => XS.bipush hA hx rfl (hb hq d7_4) k_) ?_
  show OFin _ _ _ _ _ _ T0 (mkF m 6 #[.val (.ref t), .val (.int (Int32.ofNat N))] [(.int (31 : Int32)), (.int ((Int32.ofNat N) - (Int32.ofNat N)))])
  refine X0.step (fun hA hx hq t_ k_ => XS.iushr hA hx rfl (hb hq d7_6) rfl k_) ?_
  show OFin _ _ _ _ _ _ T0 (mkF m 7 #[.val (.ref t), .val (.int (Int32.ofNat N))] [(.int ((((Int32.ofNat N) - (Int32.ofNat N)).toUInt32 >>> ((31 : Int32) &&& 31).toUInt32).toInt32))])
  refine X0.step (fun hA hx hq t_ k_ => XS.i2b hA hx rfl (hb hq d7_7) rfl k_) ?_
  show OFin _ _ _ _ _ _ T0 (mkF m 8 #[.val (.ref t), .val (.int (Int32.ofNat N))] [(.int (((((Int32.ofNat N) - (Int32.ofNat N)).toUInt32 >>> ((31 : Int32) &&& 31).toUInt32).toInt32).toInt8.toInt32))])
  exact X0.retN (by simp) d7_8 (oN (by decide) (by decide)) (⟨by rw [own_sub0]; rfl, rfl⟩)
theorem pn_java_lang_String : plainName "java/lang/String" = true := by first | (simp [plainName, overriddenIn]; done) | decide +kernel
theorem d3_0 : decode jdk_42_method_149_code 0 = .ok (.aload_n 0, 1) := by decide +kernel
theorem d3_1 : decode jdk_42_method_149_code 1 = .ok (.invokespecial 1, 3) := by decide +kernel
theorem d3_4 : decode jdk_42_method_149_code 4 = .ok (.iload_n 3, 1) := by decide +kernel
theorem d3_5 : decode jdk_42_method_149_code 5 = .ok (.ifCond .ne 22, 3) := by decide +kernel
theorem d3_27 : decode jdk_42_method_149_code 27 = .ok (.getstatic 38, 3) := by decide +kernel
theorem d3_30 : decode jdk_42_method_149_code 30 = .ok (.ifCond .eq 28, 3) := by decide +kernel
theorem d3_33 : decode jdk_42_method_149_code 33 = .ok (.aload_n 1, 1) := by decide +kernel
theorem d3_34 : decode jdk_42_method_149_code 34 = .ok (.iload_n 2, 1) := by decide +kernel
theorem d3_35 : decode jdk_42_method_149_code 35 = .ok (.iload_n 3, 1) := by decide +kernel
theorem d3_36 : decode jdk_42_method_149_code 36 = .ok (.invokestatic 177, 3) := by decide +kernel
theorem pd_pA_CIIr_A_B : parseMethodDescriptor "([CII)[B" = some ⟨[(.array .char), .int, .int], some (.array .byte)⟩ := by decide +kernel
theorem d3_39 : decode jdk_42_method_149_code 39 = .ok (.astore 5, 2) := by decide +kernel
theorem d3_41 : decode jdk_42_method_149_code 41 = .ok (.aload_n 0, 1) := by decide +kernel
theorem d3_42 : decode jdk_42_method_149_code 42 = .ok (.aload 5, 2) := by decide +kernel
theorem d3_44 : decode jdk_42_method_149_code 44 = .ok (.iload_n 3, 1) := by decide +kernel
theorem d3_45 : decode jdk_42_method_149_code 45 = .ok (.invokestatic 47, 3) := by decide +kernel
theorem pd_pA_BIr_B : parseMethodDescriptor "([BI)B" = some ⟨[(.array .byte), .int], some .byte⟩ := by decide +kernel
theorem d3_48 : decode jdk_42_method_149_code 48 = .ok (.putfield 15, 3) := by decide +kernel
theorem d3_51 : decode jdk_42_method_149_code 51 = .ok (.aload_n 0, 1) := by decide +kernel
theorem d3_52 : decode jdk_42_method_149_code 52 = .ok (.aload 5, 2) := by decide +kernel
theorem d3_54 : decode jdk_42_method_149_code 54 = .ok (.putfield 9, 3) := by decide +kernel
theorem d3_57 : decode jdk_42_method_149_code 57 = .ok (.return_, 1) := by decide +kernel
set_option maxRecDepth 65536 in
set_option maxHeartbeats 40000000 in
theorem sm4 (l : Launch) (Z : State) (a0 : Array Value) (hw : ∀ d ∈ tables_1, d.before a0 Z = true) (a1 ca : Addr) (N : Nat) (f : Nat → Int32) (cs : Int32) (h0 : Heap) (n0 : Nat) (F1 : Fld Z h0 a1 "java/lang/String" "value" "[B" .null) (F2 : Fld Z h0 a1 "java/lang/String" "coder" "B" (.int 0)) (E : Exa Z h0 a1 "java/lang/String") (hn : n0 ≤ a1) (FC : OArr Z h0 ca .char N (fun j => .int (f j))) (hN0 : 0 < N) (hN : N ≤ 4) (hch : ∀ j, j < N → 0 ≤ (f j).toInt ∧ (f j).toInt ≤ 255) (Z0 : n0 ≤ h0.size) (SS : Sta Z h0 "java/lang/String" "COMPACT_STRINGS" "Z" (.int cs)) (hcs : ¬ cs = 0) :
    OMeets l Z (⟨"java/lang/String", "<init>", "([CIILjava/lang/Void;)V"⟩ : MethodName) [] jdk_42_method_149_code 6 none ({ frames := 2, cells := 1, slots := 4, locals := 35 } : Room) #[(.ref a1), (.ref ca), (.int (0 : Int32)), (.int (Int32.ofNat N)), .null] h0 n0 (fun v h => v = none ∧ Keep h0 h [a1] ∧ ∃ t, OStr Z h a1 t N f ∧ h0.size ≤ t) := by
  refine o_enter (Z := Z) (plainFor_of_name pn_java_lang_String) ?_
  intro p e s m below meth c T0 X0
  refine OFin.cast (g' := (mkF m 0 #[.val (.ref a1), .val (.ref ca), .val (.int (0 : Int32)), .val (.int (Int32.ofNat N)), .val .null, .unset] [])) (by first | (simp [entryFrame, mkF, argsToLocals, Value.category]; done) | rfl) ?_
  have sne := (slot_ne (Or.inr (hw _ (List.mem_of_getElem? (i := 34) rfl))) (Or.inr (hw _ (List.mem_of_getElem? (i := 32) rfl))) (by decide) (t := (.array .byte)) (t' := .byte) (by decide) (by decide))
  refine X0.step (fun hA hx hq t_ k_ => XS.aloadN hA hx rfl (hb hq d3_0) rfl rfl k_) ?_
  show OFin _ _ _ _ _ _ T0 (mkF m 1 #[.val (.ref a1), .val (.ref ca), .val (.int (0 : Int32)), .val (.int (Int32.ofNat N)), .val .null, .unset] [(.ref a1)])
  refine X0.initO (hw _ (List.mem_of_getElem? (i := 16) rfl)) (hw _ (List.mem_of_getElem? (i := 17) rfl)) (hw _ (List.mem_of_getElem? (i := 18) rfl)) (g := (mkF m 1 #[.val (.ref a1), .val (.ref ca), .val (.int (0 : Int32)), .val (.int (Int32.ofNat N)), .val .null, .unset] [(.ref a1)])) rfl rfl rfl d3_1 (by decide) (W := 0) (by show 2 * 0 + _ ≤ _; exact Nat.le_of_eq rfl) (by decide) ?_
  intro T1 X1
  show OFin _ _ _ _ _ _ T1 (mkF m 4 #[.val (.ref a1), .val (.ref ca), .val (.int (0 : Int32)), .val (.int (Int32.ofNat N)), .val .null, .unset] [])
  refine X1.step (fun hA hx hq t_ k_ => XS.iloadN hA hx rfl (hb hq d3_4) rfl k_) ?_
  show OFin _ _ _ _ _ _ T1 (mkF m 5 #[.val (.ref a1), .val (.ref ca), .val (.int (0 : Int32)), .val (.int (Int32.ofNat N)), .val .null, .unset] [(.int (Int32.ofNat N))])
  refine X1.step (fun hA hx hq t_ k_ => XS.ifYes hA hx rfl (pc0 := 5) (pc' := 27) rfl (hb hq d3_5) rfl ((if0 _ _).trans (feq (fun q => by have := (own_eq32 N 0 (by omega) (by decide)).mp q; omega)).2) (by decide) (by decide) k_) ?_
  show OFin _ _ _ _ _ _ T1 (mkF m 27 #[.val (.ref a1), .val (.ref ca), .val (.int (0 : Int32)), .val (.int (Int32.ofNat N)), .val .null, .unset] [])
  refine X1.getS (hw _ (List.mem_of_getElem? (i := 19) rfl)) SS (g := (mkF m 27 #[.val (.ref a1), .val (.ref ca), .val (.int (0 : Int32)), .val (.int (Int32.ofNat N)), .val .null, .unset] [])) rfl d3_27 ?_
  intro T2 X2
  show OFin _ _ _ _ _ _ T2 (mkF m 30 #[.val (.ref a1), .val (.ref ca), .val (.int (0 : Int32)), .val (.int (Int32.ofNat N)), .val .null, .unset] [(.int cs)])
  refine X2.step (fun hA hx hq t_ k_ => XS.ifNo hA hx rfl (hb hq d3_30) rfl ((if0 _ _).trans (feq (hcs)).1) k_) ?_
  show OFin _ _ _ _ _ _ T2 (mkF m 33 #[.val (.ref a1), .val (.ref ca), .val (.int (0 : Int32)), .val (.int (Int32.ofNat N)), .val .null, .unset] [])
  refine X2.step (fun hA hx hq t_ k_ => XS.aloadN hA hx rfl (hb hq d3_33) rfl rfl k_) ?_
  show OFin _ _ _ _ _ _ T2 (mkF m 34 #[.val (.ref a1), .val (.ref ca), .val (.int (0 : Int32)), .val (.int (Int32.ofNat N)), .val .null, .unset] [(.ref ca)])
  refine X2.step (fun hA hx hq t_ k_ => XS.iloadN hA hx rfl (hb hq d3_34) rfl k_) ?_
  show OFin _ _ _ _ _ _ T2 (mkF m 35 #[.val (.ref a1), .val (.ref ca), .val (.int (0 : Int32)), .val (.int (Int32.ofNat N)), .val .null, .unset] [(.int (0 : Int32)), (.ref ca)])
  refine X2.step (fun hA hx hq t_ k_ => XS.iloadN hA hx rfl (hb hq d3_35) rfl k_) ?_
  show OFin _ _ _ _ _ _ T2 (mkF m 36 #[.val (.ref a1), .val (.ref ca), .val (.int (0 : Int32)), .val (.int (Int32.ofNat N)), .val .null, .unset] [(.int (Int32.ofNat N)), (.int (0 : Int32)), (.ref ca)])
  refine X2.callS (y' := (⟨"java/lang/StringUTF16", "compress", "([CII)[B"⟩ : MethodName)) (hw _ (List.mem_of_getElem? (i := 20) rfl)) (hw _ (List.mem_of_getElem? (i := 21) rfl)) (hw _ (List.mem_of_getElem? (i := 22) rfl)) (hw _ (List.mem_of_getElem? (i := 23) rfl)) (by decide) (argsL := [(.ref ca), (.int (0 : Int32)), (.int (Int32.ofNat N))]) (rest := []) (sm2 l Z a0 hw ca N f h0 n0 FC hN hch Z0) (g := (mkF m 36 #[.val (.ref a1), .val (.ref ca), .val (.int (0 : Int32)), .val (.int (Int32.ofNat N)), .val .null, .unset] [(.int (Int32.ofNat N)), (.int (0 : Int32)), (.ref ca)])) rfl rfl pd_pA_CIIr_A_B rfl rfl (W := 0) (by show 2 * 0 + _ ≤ _; exact Nat.le_of_eq rfl) d3_36 (by decide) (by decide) (by decide) (by decide) ?_
  intro v3 T3 h3 X3 q3
  obtain ⟨t, rfl, K3, B3, lt3⟩ := q3
  show OFin _ _ _ _ _ _ T3 (mkF m 39 #[.val (.ref a1), .val (.ref ca), .val (.int (0 : Int32)), .val (.int (Int32.ofNat N)), .val .null, .unset] [(.ref t)])
  refine X3.step (fun hA hx hq t_ k_ => XS.astore hA hx rfl (hb hq d3_39) rfl rfl (l' := #[.val (.ref a1), .val (.ref ca), .val (.int (0 : Int32)), .val (.int (Int32.ofNat N)), .val .null, .val (.ref t)]) rfl k_) ?_
  show OFin _ _ _ _ _ _ T3 (mkF m 41 #[.val (.ref a1), .val (.ref ca), .val (.int (0 : Int32)), .val (.int (Int32.ofNat N)), .val .null, .val (.ref t)] [])
  refine X3.step (fun hA hx hq t_ k_ => XS.aloadN hA hx rfl (hb hq d3_41) rfl rfl k_) ?_
  show OFin _ _ _ _ _ _ T3 (mkF m 42 #[.val (.ref a1), .val (.ref ca), .val (.int (0 : Int32)), .val (.int (Int32.ofNat N)), .val .null, .val (.ref t)] [(.ref a1)])
  refine X3.step (fun hA hx hq t_ k_ => XS.aload hA hx rfl (hb hq d3_42) rfl rfl k_) ?_
  show OFin _ _ _ _ _ _ T3 (mkF m 44 #[.val (.ref a1), .val (.ref ca), .val (.int (0 : Int32)), .val (.int (Int32.ofNat N)), .val .null, .val (.ref t)] [(.ref t), (.ref a1)])
  refine X3.step (fun hA hx hq t_ k_ => XS.iloadN hA hx rfl (hb hq d3_44) rfl k_) ?_
  show OFin _ _ _ _ _ _ T3 (mkF m 45 #[.val (.ref a1), .val (.ref ca), .val (.int (0 : Int32)), .val (.int (Int32.ofNat N)), .val .null, .val (.ref t)] [(.int (Int32.ofNat N)), (.ref t), (.ref a1)])
  refine X3.callS (y' := (⟨"java/lang/StringUTF16", "coderFromArrayLen", "([BI)B"⟩ : MethodName)) (hw _ (List.mem_of_getElem? (i := 28) rfl)) (hw _ (List.mem_of_getElem? (i := 29) rfl)) (hw _ (List.mem_of_getElem? (i := 22) rfl)) (hw _ (List.mem_of_getElem? (i := 30) rfl)) (by decide) (argsL := [(.ref t), (.int (Int32.ofNat N))]) (rest := [(.ref a1)]) (sm3 l Z a0 hw t N _ h3 n0 B3) (g := (mkF m 45 #[.val (.ref a1), .val (.ref ca), .val (.int (0 : Int32)), .val (.int (Int32.ofNat N)), .val .null, .val (.ref t)] [(.int (Int32.ofNat N)), (.ref t), (.ref a1)])) rfl rfl pd_pA_BIr_B rfl rfl (W := 1) (by show 2 * 0 + _ ≤ _; exact Nat.le_of_eq rfl) d3_45 (by decide) (by decide) (by decide) (by decide) ?_
  intro v4 T4 h4 X4 q4
  obtain ⟨rfl, rfl⟩ := q4
  show OFin _ _ _ _ _ _ T4 (mkF m 48 #[.val (.ref a1), .val (.ref ca), .val (.int (0 : Int32)), .val (.int (Int32.ofNat N)), .val .null, .val (.ref t)] [(.int (0 : Int32)), (.ref a1)])
  have ta : t ≠ a1 := Nat.ne_of_gt (Nat.lt_of_lt_of_le E.lt lt3)
  refine X4.putF (hw _ (List.mem_of_getElem? (i := 31) rfl)) (F2.keep K3 nin0) (E.keep K3) (Or.inr ⟨(hw _ (List.mem_of_getElem? (i := 32) rfl)), rfl, rfl⟩) (hw _ (List.mem_of_getElem? (i := 7) rfl)) (ty := .byte) (by decide) rfl rfl hn (g := (mkF m 48 #[.val (.ref a1), .val (.ref ca), .val (.int (0 : Int32)), .val (.int (Int32.ofNat N)), .val .null, .val (.ref t)] [(.int (0 : Int32)), (.ref a1)])) rfl rfl d3_48 ?_
  intro T5 h5 X5 W5
  show OFin _ _ _ _ _ _ T5 (mkF m 51 #[.val (.ref a1), .val (.ref ca), .val (.int (0 : Int32)), .val (.int (Int32.ofNat N)), .val .null, .val (.ref t)] [])
  refine X5.step (fun hA hx hq t_ k_ => XS.aloadN hA hx rfl (hb hq d3_51) rfl rfl k_) ?_
  show OFin _ _ _ _ _ _ T5 (mkF m 52 #[.val (.ref a1), .val (.ref ca), .val (.int (0 : Int32)), .val (.int (Int32.ofNat N)), .val .null, .val (.ref t)] [(.ref a1)])
  refine X5.step (fun hA hx hq t_ k_ => XS.aload hA hx rfl (hb hq d3_52) rfl rfl k_) ?_
  show OFin _ _ _ _ _ _ T5 (mkF m 54 #[.val (.ref a1), .val (.ref ca), .val (.int (0 : Int32)), .val (.int (Int32.ofNat N)), .val .null, .val (.ref t)] [(.ref t), (.ref a1)])
  refine X5.putF (hw _ (List.mem_of_getElem? (i := 33) rfl)) ((F1.keep K3 nin0).other W5 (Or.inr sne)) ((E.keep K3).wr W5) (Or.inr ⟨(hw _ (List.mem_of_getElem? (i := 34) rfl)), rfl, rfl⟩) (hw _ (List.mem_of_getElem? (i := 7) rfl)) (ty := (.array .byte)) (by decide) rfl rfl hn (g := (mkF m 54 #[.val (.ref a1), .val (.ref ca), .val (.int (0 : Int32)), .val (.int (Int32.ofNat N)), .val .null, .val (.ref t)] [(.ref t), (.ref a1)])) rfl rfl d3_54 ?_
  intro T6 h6 X6 W6
  show OFin _ _ _ _ _ _ T6 (mkF m 57 #[.val (.ref a1), .val (.ref ca), .val (.int (0 : Int32)), .val (.int (Int32.ofNat N)), .val .null, .val (.ref t)] [])
  exact X6.retV d3_57 (oN (by decide) (by decide)) (⟨rfl, (((Keep.refl h0 [a1]).trans K3 all0).wr W5 (Or.inl (List.mem_of_getElem? (i := 0) rfl))).wr W6 (Or.inl (List.mem_of_getElem? (i := 0) rfl)), t, ⟨((E.keep K3).wr W5).wr W6, ((F2.keep K3 nin0).same W5).other W6 (Or.inr (Ne.symm sne)), ((F1.keep K3 nin0).other W5 (Or.inr sne)).same W6, (B3.other W5 ta).other W6 ta⟩, lt3⟩)
theorem d2_0 : decode jdk_42_method_3_code 0 = .ok (.aload_n 0, 1) := by decide +kernel
theorem d2_1 : decode jdk_42_method_3_code 1 = .ok (.aload_n 1, 1) := by decide +kernel
theorem d2_2 : decode jdk_42_method_3_code 2 = .ok (.iconst 0, 1) := by decide +kernel
theorem d2_3 : decode jdk_42_method_3_code 3 = .ok (.aload_n 1, 1) := by decide +kernel
theorem d2_4 : decode jdk_42_method_3_code 4 = .ok (.arraylength, 1) := by decide +kernel
theorem d2_5 : decode jdk_42_method_3_code 5 = .ok (.aconst_null, 1) := by decide +kernel
theorem d2_6 : decode jdk_42_method_3_code 6 = .ok (.invokespecial 27, 3) := by decide +kernel
theorem pd_pA_CIILjava_lang_Void_r_V : parseMethodDescriptor "([CIILjava/lang/Void;)V" = some ⟨[(.array .char), .int, .int, (.object "java/lang/Void")], none⟩ := by decide +kernel
theorem d2_9 : decode jdk_42_method_3_code 9 = .ok (.return_, 1) := by decide +kernel
set_option maxRecDepth 65536 in
set_option maxHeartbeats 40000000 in
theorem sm5 (l : Launch) (Z : State) (a0 : Array Value) (hw : ∀ d ∈ tables_1, d.before a0 Z = true) (a1 ca : Addr) (N : Nat) (f : Nat → Int32) (cs : Int32) (h0 : Heap) (n0 : Nat) (F1 : Fld Z h0 a1 "java/lang/String" "value" "[B" .null) (F2 : Fld Z h0 a1 "java/lang/String" "coder" "B" (.int 0)) (E : Exa Z h0 a1 "java/lang/String") (hn : n0 ≤ a1) (FC : OArr Z h0 ca .char N (fun j => .int (f j))) (hN0 : 0 < N) (hN : N ≤ 4) (hch : ∀ j, j < N → 0 ≤ (f j).toInt ∧ (f j).toInt ≤ 255) (Z0 : n0 ≤ h0.size) (SS : Sta Z h0 "java/lang/String" "COMPACT_STRINGS" "Z" (.int cs)) (hcs : ¬ cs = 0) :
    OMeets l Z (⟨"java/lang/String", "<init>", "([C)V"⟩ : MethodName) [] jdk_42_method_3_code 2 none ({ frames := 3, cells := 1, slots := 4, locals := 52 } : Room) #[(.ref a1), (.ref ca)] h0 n0 (fun v h => v = none ∧ Keep h0 h [a1] ∧ ∃ t, OStr Z h a1 t N f ∧ h0.size ≤ t) := by
  refine o_enter (Z := Z) (plainFor_of_name pn_java_lang_String) ?_
  intro p e s m below meth c T0 X0
  refine OFin.cast (g' := (mkF m 0 #[.val (.ref a1), .val (.ref ca)] [])) (by first | (simp [entryFrame, mkF, argsToLocals, Value.category]; done) | rfl) ?_
  obtain ⟨c1, A1, S1, H1⟩ := id FC
  refine X0.step (fun hA hx hq t_ k_ => XS.aloadN hA hx rfl (hb hq d2_0) rfl rfl k_) ?_
  show OFin _ _ _ _ _ _ T0 (mkF m 1 #[.val (.ref a1), .val (.ref ca)] [(.ref a1)])
  refine X0.step (fun hA hx hq t_ k_ => XS.aloadN hA hx rfl (hb hq d2_1) rfl rfl k_) ?_
  show OFin _ _ _ _ _ _ T0 (mkF m 2 #[.val (.ref a1), .val (.ref ca)] [(.ref ca), (.ref a1)])
  refine X0.step (fun hA hx hq t_ k_ => XS.iconst hA hx rfl (hb hq d2_2) k_) ?_
  show OFin _ _ _ _ _ _ T0 (mkF m 3 #[.val (.ref a1), .val (.ref ca)] [(.int (0 : Int32)), (.ref ca), (.ref a1)])
  refine X0.step (fun hA hx hq t_ k_ => XS.aloadN hA hx rfl (hb hq d2_3) rfl rfl k_) ?_
  show OFin _ _ _ _ _ _ T0 (mkF m 4 #[.val (.ref a1), .val (.ref ca)] [(.ref ca), (.int (0 : Int32)), (.ref ca), (.ref a1)])
  refine X0.alen A1 (n := (Int32.ofNat N)) (by rw [S1]) (g := (mkF m 4 #[.val (.ref a1), .val (.ref ca)] [(.ref ca), (.int (0 : Int32)), (.ref ca), (.ref a1)])) rfl rfl d2_4 ?_
  show OFin _ _ _ _ _ _ T0 (mkF m 5 #[.val (.ref a1), .val (.ref ca)] [(.int (Int32.ofNat N)), (.int (0 : Int32)), (.ref ca), (.ref a1)])
  refine X0.step (fun hA hx hq t_ k_ => XS.aconstNull hA hx rfl (hb hq d2_5) k_) ?_
  show OFin _ _ _ _ _ _ T0 (mkF m 6 #[.val (.ref a1), .val (.ref ca)] [.null, (.int (Int32.ofNat N)), (.int (0 : Int32)), (.ref ca), (.ref a1)])
  refine X0.callI (y' := (⟨"java/lang/String", "<init>", "([CIILjava/lang/Void;)V"⟩ : MethodName)) rfl (hw _ (List.mem_of_getElem? (i := 12) rfl)) (hw _ (List.mem_of_getElem? (i := 13) rfl)) (hw _ (List.mem_of_getElem? (i := 8) rfl)) (hw _ (List.mem_of_getElem? (i := 15) rfl)) (by decide) (a := a1) (argsL := [(.ref ca), (.int (0 : Int32)), (.int (Int32.ofNat N)), .null]) (rest := []) (sm4 l Z a0 hw a1 ca N f cs h0 n0 F1 F2 E hn FC hN0 hN hch Z0 SS hcs) (g := (mkF m 6 #[.val (.ref a1), .val (.ref ca)] [.null, (.int (Int32.ofNat N)), (.int (0 : Int32)), (.ref ca), (.ref a1)])) rfl rfl pd_pA_CIILjava_lang_Void_r_V rfl rfl (W := 0) (by show 2 * 0 + _ ≤ _; exact Nat.le_of_eq rfl) d2_6 (by decide) (by decide) (by decide) (by decide) ?_
  intro v1 T1 h1 X1 q1
  obtain ⟨rfl, K1, t, S1, lt1⟩ := q1
  show OFin _ _ _ _ _ _ T1 (mkF m 9 #[.val (.ref a1), .val (.ref ca)] [])
  exact X1.retV d2_9 (oN (by decide) (by decide)) (⟨rfl, K1, t, S1, lt1⟩)
theorem d12_0 : decode jdk_42_method_152_code 0 = .ok (.getstatic 38, 3) := by decide +kernel
theorem d12_3 : decode jdk_42_method_152_code 3 = .ok (.ifCond .eq 10, 3) := by decide +kernel
theorem d12_6 : decode jdk_42_method_152_code 6 = .ok (.aload_n 0, 1) := by decide +kernel
theorem d12_7 : decode jdk_42_method_152_code 7 = .ok (.getfield 15, 3) := by decide +kernel
theorem d12_10 : decode jdk_42_method_152_code 10 = .ok (.goto 4, 3) := by decide +kernel
theorem d12_14 : decode jdk_42_method_152_code 14 = .ok (.ireturn, 1) := by decide +kernel
set_option maxRecDepth 65536 in
set_option maxHeartbeats 40000000 in
theorem sl1 (l : Launch) (Z : State) (a0 : Array Value) (hw : ∀ d ∈ tables_1, d.before a0 Z = true) (a1 t : Addr) (N : Nat) (f : Nat → Int32) (cs : Int32) (h0 : Heap) (n0 : Nat) (S : OStr Z h0 a1 t N f) (hN : N ≤ 4000) (SS : Sta Z h0 "java/lang/String" "COMPACT_STRINGS" "Z" (.int cs)) (hcs : ¬ cs = 0) :
    OMeets l Z (⟨"java/lang/String", "coder", "()B"⟩ : MethodName) [] jdk_42_method_152_code 1 (some .byte) ({ frames := 0, cells := 0, slots := 0, locals := 0 } : Room) #[(.ref a1)] h0 n0 (fun v h => v = some (.int 0) ∧ h0 = h) := by
  refine o_enter (Z := Z) (plainFor_of_name pn_java_lang_String) ?_
  intro p e s m below meth c T0 X0
  refine OFin.cast (g' := (mkF m 0 #[.val (.ref a1)] [])) (by first | (simp [entryFrame, mkF, argsToLocals, Value.category]; done) | rfl) ?_
  refine X0.getS (hw _ (List.mem_of_getElem? (i := 19) rfl)) SS (g := (mkF m 0 #[.val (.ref a1)] [])) rfl d12_0 ?_
  intro T1 X1
  show OFin _ _ _ _ _ _ T1 (mkF m 3 #[.val (.ref a1)] [(.int cs)])
  refine X1.step (fun hA hx hq t_ k_ => XS.ifNo hA hx rfl (hb hq d12_3) rfl ((if0 _ _).trans (feq (hcs)).1) k_) ?_
  show OFin _ _ _ _ _ _ T1 (mkF m 6 #[.val (.ref a1)] [])
  refine X1.step (fun hA hx hq t_ k_ => XS.aloadN hA hx rfl (hb hq d12_6) rfl rfl k_) ?_
  show OFin _ _ _ _ _ _ T1 (mkF m 7 #[.val (.ref a1)] [(.ref a1)])
  refine X1.getF (hw _ (List.mem_of_getElem? (i := 31) rfl)) S.2.1 (g := (mkF m 7 #[.val (.ref a1)] [(.ref a1)])) rfl rfl d12_7 ?_
  intro T2 X2
  show OFin _ _ _ _ _ _ T2 (mkF m 10 #[.val (.ref a1)] [(.int (0 : Int32))])
  refine X2.step (fun hA hx hq t_ k_ => XS.goto hA hx rfl (pc0 := 10) (pc' := 14) rfl (hb hq d12_10) (by decide) (by decide) k_) ?_
  show OFin _ _ _ _ _ _ T2 (mkF m 14 #[.val (.ref a1)] [(.int (0 : Int32))])
  exact X2.retN (by simp) d12_14 (oN (by decide) (by decide)) (⟨rfl, rfl⟩)
theorem d11_0 : decode jdk_42_method_54_code 0 = .ok (.aload_n 0, 1) := by decide +kernel
theorem d11_1 : decode jdk_42_method_54_code 1 = .ok (.getfield 9, 3) := by decide +kernel
theorem d11_4 : decode jdk_42_method_54_code 4 = .ok (.arraylength, 1) := by decide +kernel
theorem d11_5 : decode jdk_42_method_54_code 5 = .ok (.aload_n 0, 1) := by decide +kernel
theorem d11_6 : decode jdk_42_method_54_code 6 = .ok (.invokevirtual 335, 3) := by decide +kernel
theorem pd_pr_B : parseMethodDescriptor "()B" = some ⟨[], some .byte⟩ := by decide +kernel
theorem d11_9 : decode jdk_42_method_54_code 9 = .ok (.ishr, 1) := by decide +kernel
theorem d11_10 : decode jdk_42_method_54_code 10 = .ok (.ireturn, 1) := by decide +kernel
set_option maxRecDepth 65536 in
set_option maxHeartbeats 40000000 in
theorem sl2 (l : Launch) (Z : State) (a0 : Array Value) (hw : ∀ d ∈ tables_1, d.before a0 Z = true) (a1 t : Addr) (N : Nat) (f : Nat → Int32) (cs : Int32) (h0 : Heap) (n0 : Nat) (S : OStr Z h0 a1 t N f) (hN : N ≤ 4000) (SS : Sta Z h0 "java/lang/String" "COMPACT_STRINGS" "Z" (.int cs)) (hcs : ¬ cs = 0) :
    OMeets l Z (⟨"java/lang/String", "length", "()I"⟩ : MethodName) [] jdk_42_method_54_code 1 (some .int) ({ frames := 1, cells := 0, slots := 0, locals := 13 } : Room) #[(.ref a1)] h0 n0 (fun v h => v = some (.int (Int32.ofNat N)) ∧ h0 = h) := by
  refine o_enter (Z := Z) (plainFor_of_name pn_java_lang_String) ?_
  intro p e s m below meth c T0 X0
  refine OFin.cast (g' := (mkF m 0 #[.val (.ref a1)] [])) (by first | (simp [entryFrame, mkF, argsToLocals, Value.category]; done) | rfl) ?_
  obtain ⟨c1, A1, S1, H1⟩ := id S.2.2.2
  refine X0.step (fun hA hx hq t_ k_ => XS.aloadN hA hx rfl (hb hq d11_0) rfl rfl k_) ?_
  show OFin _ _ _ _ _ _ T0 (mkF m 1 #[.val (.ref a1)] [(.ref a1)])
  refine X0.getF (hw _ (List.mem_of_getElem? (i := 33) rfl)) S.2.2.1 (g := (mkF m 1 #[.val (.ref a1)] [(.ref a1)])) rfl rfl d11_1 ?_
  intro T1 X1
  show OFin _ _ _ _ _ _ T1 (mkF m 4 #[.val (.ref a1)] [(.ref t)])
  refine X1.alen A1 (n := (Int32.ofNat N)) (by rw [S1]) (g := (mkF m 4 #[.val (.ref a1)] [(.ref t)])) rfl rfl d11_4 ?_
  show OFin _ _ _ _ _ _ T1 (mkF m 5 #[.val (.ref a1)] [(.int (Int32.ofNat N))])
  refine X1.step (fun hA hx hq t_ k_ => XS.aloadN hA hx rfl (hb hq d11_5) rfl rfl k_) ?_
  show OFin _ _ _ _ _ _ T1 (mkF m 6 #[.val (.ref a1)] [(.ref a1), (.int (Int32.ofNat N))])
  refine X1.callV (y' := (⟨"java/lang/String", "coder", "()B"⟩ : MethodName)) (z' := (⟨"java/lang/String", "coder", "()B"⟩ : MethodName)) (hw _ (List.mem_of_getElem? (i := 56) rfl)) (hw _ (List.mem_of_getElem? (i := 57) rfl)) (X1.notFace (hw _ (List.mem_of_getElem? (i := 59) rfl)) rfl) (hw _ (List.mem_of_getElem? (i := 59) rfl)) (hw _ (List.mem_of_getElem? (i := 58) rfl)) (hw _ (List.mem_of_getElem? (i := 8) rfl)) (hw _ (List.mem_of_getElem? (i := 60) rfl)) (by decide) S.1 (argsL := []) (rest := [(.int (Int32.ofNat N))]) (sl1 l Z a0 hw a1 t N f cs h0 n0 S hN SS hcs) (g := (mkF m 6 #[.val (.ref a1)] [(.ref a1), (.int (Int32.ofNat N))])) rfl rfl pd_pr_B rfl rfl (W := 1) (by show 2 * 0 + _ ≤ _; exact Nat.le_of_eq rfl) d11_6 (by decide) (by decide) (by decide) (by decide) ?_
  intro v2 T2 h2 X2 q2
  obtain ⟨rfl, rfl⟩ := q2
  show OFin _ _ _ _ _ _ T2 (mkF m 9 #[.val (.ref a1)] [(.int (0 : Int32)), (.int (Int32.ofNat N))])
  refine X2.step (fun hA hx hq t_ k_ => XS.ishr hA hx rfl (hb hq d11_9) rfl k_) ?_
  show OFin _ _ _ _ _ _ T2 (mkF m 10 #[.val (.ref a1)] [(.int ((Int32.ofNat N) >>> ((0 : Int32) &&& 31)))])
  exact X2.retI d11_10 (oN (by decide) (by decide)) (⟨by rw [own_sh0], rfl⟩)
theorem d10_0 : decode jdk_42_method_55_code 0 = .ok (.aload_n 0, 1) := by decide +kernel
theorem d10_1 : decode jdk_42_method_55_code 1 = .ok (.getfield 9, 3) := by decide +kernel
theorem d10_4 : decode jdk_42_method_55_code 4 = .ok (.arraylength, 1) := by decide +kernel
theorem d10_5 : decode jdk_42_method_55_code 5 = .ok (.ifCond .ne 7, 3) := by decide +kernel
theorem d10_12 : decode jdk_42_method_55_code 12 = .ok (.iconst 0, 1) := by decide +kernel
theorem d10_13 : decode jdk_42_method_55_code 13 = .ok (.ireturn, 1) := by decide +kernel
set_option maxRecDepth 65536 in
set_option maxHeartbeats 40000000 in
theorem sl3 (l : Launch) (Z : State) (a0 : Array Value) (hw : ∀ d ∈ tables_1, d.before a0 Z = true) (a1 t : Addr) (N : Nat) (f : Nat → Int32) (h0 : Heap) (n0 : Nat) (S : OStr Z h0 a1 t N f) (hN : N ≤ 4000) (hN0 : 0 < N) :
    OMeets l Z (⟨"java/lang/String", "isEmpty", "()Z"⟩ : MethodName) [] jdk_42_method_55_code 1 (some .boolean) ({ frames := 0, cells := 0, slots := 0, locals := 0 } : Room) #[(.ref a1)] h0 n0 (fun v h => v = some (.int 0) ∧ h0 = h) := by
  refine o_enter (Z := Z) (plainFor_of_name pn_java_lang_String) ?_
  intro p e s m below meth c T0 X0
  refine OFin.cast (g' := (mkF m 0 #[.val (.ref a1)] [])) (by first | (simp [entryFrame, mkF, argsToLocals, Value.category]; done) | rfl) ?_
  obtain ⟨c1, A1, S1, H1⟩ := id S.2.2.2
  refine X0.step (fun hA hx hq t_ k_ => XS.aloadN hA hx rfl (hb hq d10_0) rfl rfl k_) ?_
  show OFin _ _ _ _ _ _ T0 (mkF m 1 #[.val (.ref a1)] [(.ref a1)])
  refine X0.getF (hw _ (List.mem_of_getElem? (i := 33) rfl)) S.2.2.1 (g := (mkF m 1 #[.val (.ref a1)] [(.ref a1)])) rfl rfl d10_1 ?_
  intro T1 X1
  show OFin _ _ _ _ _ _ T1 (mkF m 4 #[.val (.ref a1)] [(.ref t)])
  refine X1.alen A1 (n := (Int32.ofNat N)) (by rw [S1]) (g := (mkF m 4 #[.val (.ref a1)] [(.ref t)])) rfl rfl d10_4 ?_
  show OFin _ _ _ _ _ _ T1 (mkF m 5 #[.val (.ref a1)] [(.int (Int32.ofNat N))])
  refine X1.step (fun hA hx hq t_ k_ => XS.ifYes hA hx rfl (pc0 := 5) (pc' := 12) rfl (hb hq d10_5) rfl ((if0 _ _).trans (feq (fun q => by have := (own_eq32 N 0 (by omega) (by decide)).mp q; omega)).2) (by decide) (by decide) k_) ?_
  show OFin _ _ _ _ _ _ T1 (mkF m 12 #[.val (.ref a1)] [])
  refine X1.step (fun hA hx hq t_ k_ => XS.iconst hA hx rfl (hb hq d10_12) k_) ?_
  show OFin _ _ _ _ _ _ T1 (mkF m 13 #[.val (.ref a1)] [(.int (0 : Int32))])
  exact X1.retN (by simp) d10_13 (oN (by decide) (by decide)) (⟨rfl, rfl⟩)
theorem d14_0 : decode jdk_42_method_154_code 0 = .ok (.getstatic 38, 3) := by decide +kernel
theorem d14_3 : decode jdk_42_method_154_code 3 = .ok (.ifCond .eq 14, 3) := by decide +kernel
theorem d14_6 : decode jdk_42_method_154_code 6 = .ok (.aload_n 0, 1) := by decide +kernel
theorem d14_7 : decode jdk_42_method_154_code 7 = .ok (.getfield 15, 3) := by decide +kernel
theorem d14_10 : decode jdk_42_method_154_code 10 = .ok (.ifCond .ne 7, 3) := by decide +kernel
theorem d14_13 : decode jdk_42_method_154_code 13 = .ok (.iconst 1, 1) := by decide +kernel
theorem d14_14 : decode jdk_42_method_154_code 14 = .ok (.goto 4, 3) := by decide +kernel
theorem d14_18 : decode jdk_42_method_154_code 18 = .ok (.ireturn, 1) := by decide +kernel
set_option maxRecDepth 65536 in
set_option maxHeartbeats 40000000 in
theorem sc1 (l : Launch) (Z : State) (a0 : Array Value) (hw : ∀ d ∈ tables_1, d.before a0 Z = true) (a1 t : Addr) (N : Nat) (f : Nat → Int32) (cs : Int32) (h0 : Heap) (n0 : Nat) (S : OStr Z h0 a1 t N f) (hN : N ≤ 4000) (SS : Sta Z h0 "java/lang/String" "COMPACT_STRINGS" "Z" (.int cs)) (hcs : ¬ cs = 0) :
    OMeets l Z (⟨"java/lang/String", "isLatin1", "()Z"⟩ : MethodName) [] jdk_42_method_154_code 1 (some .boolean) ({ frames := 0, cells := 0, slots := 0, locals := 0 } : Room) #[(.ref a1)] h0 n0 (fun v h => v = some (.int 1) ∧ h0 = h) := by
  refine o_enter (Z := Z) (plainFor_of_name pn_java_lang_String) ?_
  intro p e s m below meth c T0 X0
  refine OFin.cast (g' := (mkF m 0 #[.val (.ref a1)] [])) (by first | (simp [entryFrame, mkF, argsToLocals, Value.category]; done) | rfl) ?_
  refine X0.getS (hw _ (List.mem_of_getElem? (i := 19) rfl)) SS (g := (mkF m 0 #[.val (.ref a1)] [])) rfl d14_0 ?_
  intro T1 X1
  show OFin _ _ _ _ _ _ T1 (mkF m 3 #[.val (.ref a1)] [(.int cs)])
  refine X1.step (fun hA hx hq t_ k_ => XS.ifNo hA hx rfl (hb hq d14_3) rfl ((if0 _ _).trans (feq (hcs)).1) k_) ?_
  show OFin _ _ _ _ _ _ T1 (mkF m 6 #[.val (.ref a1)] [])
  refine X1.step (fun hA hx hq t_ k_ => XS.aloadN hA hx rfl (hb hq d14_6) rfl rfl k_) ?_
  show OFin _ _ _ _ _ _ T1 (mkF m 7 #[.val (.ref a1)] [(.ref a1)])
  refine X1.getF (hw _ (List.mem_of_getElem? (i := 31) rfl)) S.2.1 (g := (mkF m 7 #[.val (.ref a1)] [(.ref a1)])) rfl rfl d14_7 ?_
  intro T2 X2
  show OFin _ _ _ _ _ _ T2 (mkF m 10 #[.val (.ref a1)] [(.int (0 : Int32))])
  refine X2.step (fun hA hx hq t_ k_ => XS.ifNo hA hx rfl (hb hq d14_10) rfl ((if0 _ _).trans (teq ((rfl : (0 : Int32) = (0 : Int32)))).2) k_) ?_
  show OFin _ _ _ _ _ _ T2 (mkF m 13 #[.val (.ref a1)] [])
  refine X2.step (fun hA hx hq t_ k_ => XS.iconst hA hx rfl (hb hq d14_13) k_) ?_
  show OFin _ _ _ _ _ _ T2 (mkF m 14 #[.val (.ref a1)] [(.int (1 : Int32))])
  refine X2.step (fun hA hx hq t_ k_ => XS.goto hA hx rfl (pc0 := 14) (pc' := 18) rfl (hb hq d14_14) (by decide) (by decide) k_) ?_
  show OFin _ _ _ _ _ _ T2 (mkF m 18 #[.val (.ref a1)] [(.int (1 : Int32))])
  exact X2.retN (by simp) d14_18 (oN (by decide) (by decide)) (⟨rfl, rfl⟩)
theorem pn_jdk_internal_util_Preconditions : plainName "jdk/internal/util/Preconditions" = true := by first | (simp [plainName, overriddenIn]; done) | decide +kernel
theorem d17_0 : decode jdk_41_method_11_code 0 = .ok (.iload_n 0, 1) := by decide +kernel
theorem d17_1 : decode jdk_41_method_11_code 1 = .ok (.ifCond .lt 8, 3) := by decide +kernel
theorem d17_4 : decode jdk_41_method_11_code 4 = .ok (.iload_n 0, 1) := by decide +kernel
theorem d17_5 : decode jdk_41_method_11_code 5 = .ok (.iload_n 1, 1) := by decide +kernel
theorem d17_6 : decode jdk_41_method_11_code 6 = .ok (.if_icmp .lt 10, 3) := by decide +kernel
theorem d17_16 : decode jdk_41_method_11_code 16 = .ok (.iload_n 0, 1) := by decide +kernel
theorem d17_17 : decode jdk_41_method_11_code 17 = .ok (.ireturn, 1) := by decide +kernel
set_option maxRecDepth 65536 in
set_option maxHeartbeats 40000000 in
theorem sc2n (l : Launch) (Z : State) (a0 : Array Value) (hw : ∀ d ∈ tables_1, d.before a0 Z = true) (i N : Nat) (h0 : Heap) (n0 : Nat) (hi : i < N) (hN : N ≤ 4000) :
    OMeets l Z (⟨"jdk/internal/util/Preconditions", "checkIndex", "(IILjava/util/function/BiFunction;)I"⟩ : MethodName) [] jdk_41_method_11_code 3 (some .int) ({ frames := 0, cells := 0, slots := 0, locals := 0 } : Room) #[(.int (Int32.ofNat i)), (.int (Int32.ofNat N)), .null] h0 n0 (fun v h => v = some (.int (Int32.ofNat i)) ∧ h0 = h) := by
  refine o_enter (Z := Z) (plainFor_of_name pn_jdk_internal_util_Preconditions) ?_
  intro p e s m below meth c T0 X0
  refine OFin.cast (g' := (mkF m 0 #[.val (.int (Int32.ofNat i)), .val (.int (Int32.ofNat N)), .val .null] [])) (by first | (simp [entryFrame, mkF, argsToLocals, Value.category]; done) | rfl) ?_
  refine X0.step (fun hA hx hq t_ k_ => XS.iloadN hA hx rfl (hb hq d17_0) rfl k_) ?_
  show OFin _ _ _ _ _ _ T0 (mkF m 1 #[.val (.int (Int32.ofNat i)), .val (.int (Int32.ofNat N)), .val .null] [(.int (Int32.ofNat i))])
  refine X0.step (fun hA hx hq t_ k_ => XS.ifNo hA hx rfl (hb hq d17_1) rfl ((if0 _ _).trans (flt ((by rw [Int32.lt_iff_toInt_lt, own_i i (by omega)]; have : (0 : Int32).toInt = 0 := (by decide); omega))).1) k_) ?_
  show OFin _ _ _ _ _ _ T0 (mkF m 4 #[.val (.int (Int32.ofNat i)), .val (.int (Int32.ofNat N)), .val .null] [])
  refine X0.step (fun hA hx hq t_ k_ => XS.iloadN hA hx rfl (hb hq d17_4) rfl k_) ?_
  show OFin _ _ _ _ _ _ T0 (mkF m 5 #[.val (.int (Int32.ofNat i)), .val (.int (Int32.ofNat N)), .val .null] [(.int (Int32.ofNat i))])
  refine X0.step (fun hA hx hq t_ k_ => XS.iloadN hA hx rfl (hb hq d17_5) rfl k_) ?_
  show OFin _ _ _ _ _ _ T0 (mkF m 6 #[.val (.int (Int32.ofNat i)), .val (.int (Int32.ofNat N)), .val .null] [(.int (Int32.ofNat N)), (.int (Int32.ofNat i))])
  refine X0.step (fun hA hx hq t_ k_ => XS.icmpYes hA hx rfl (pc0 := 6) (pc' := 16) rfl (hb hq d17_6) rfl (tlt ((own_lt32 i N (by omega) (by omega)).mpr hi)).1 (by decide) (by decide) k_) ?_
  show OFin _ _ _ _ _ _ T0 (mkF m 16 #[.val (.int (Int32.ofNat i)), .val (.int (Int32.ofNat N)), .val .null] [])
  refine X0.step (fun hA hx hq t_ k_ => XS.iloadN hA hx rfl (hb hq d17_16) rfl k_) ?_
  show OFin _ _ _ _ _ _ T0 (mkF m 17 #[.val (.int (Int32.ofNat i)), .val (.int (Int32.ofNat N)), .val .null] [(.int (Int32.ofNat i))])
  exact X0.retI d17_17 (oN (by decide) (by decide)) (⟨rfl, rfl⟩)
set_option maxRecDepth 65536 in
set_option maxHeartbeats 40000000 in
theorem sc2r (l : Launch) (Z : State) (a0 : Array Value) (hw : ∀ d ∈ tables_1, d.before a0 Z = true) (i N : Nat) (vr : Addr) (h0 : Heap) (n0 : Nat) (hi : i < N) (hN : N ≤ 4000) :
    OMeets l Z (⟨"jdk/internal/util/Preconditions", "checkIndex", "(IILjava/util/function/BiFunction;)I"⟩ : MethodName) [] jdk_41_method_11_code 3 (some .int) ({ frames := 0, cells := 0, slots := 0, locals := 0 } : Room) #[(.int (Int32.ofNat i)), (.int (Int32.ofNat N)), (.ref vr)] h0 n0 (fun v h => v = some (.int (Int32.ofNat i)) ∧ h0 = h) := by
  refine o_enter (Z := Z) (plainFor_of_name pn_jdk_internal_util_Preconditions) ?_
  intro p e s m below meth c T0 X0
  refine OFin.cast (g' := (mkF m 0 #[.val (.int (Int32.ofNat i)), .val (.int (Int32.ofNat N)), .val (.ref vr)] [])) (by first | (simp [entryFrame, mkF, argsToLocals, Value.category]; done) | rfl) ?_
  refine X0.step (fun hA hx hq t_ k_ => XS.iloadN hA hx rfl (hb hq d17_0) rfl k_) ?_
  show OFin _ _ _ _ _ _ T0 (mkF m 1 #[.val (.int (Int32.ofNat i)), .val (.int (Int32.ofNat N)), .val (.ref vr)] [(.int (Int32.ofNat i))])
  refine X0.step (fun hA hx hq t_ k_ => XS.ifNo hA hx rfl (hb hq d17_1) rfl ((if0 _ _).trans (flt ((by rw [Int32.lt_iff_toInt_lt, own_i i (by omega)]; have : (0 : Int32).toInt = 0 := (by decide); omega))).1) k_) ?_
  show OFin _ _ _ _ _ _ T0 (mkF m 4 #[.val (.int (Int32.ofNat i)), .val (.int (Int32.ofNat N)), .val (.ref vr)] [])
  refine X0.step (fun hA hx hq t_ k_ => XS.iloadN hA hx rfl (hb hq d17_4) rfl k_) ?_
  show OFin _ _ _ _ _ _ T0 (mkF m 5 #[.val (.int (Int32.ofNat i)), .val (.int (Int32.ofNat N)), .val (.ref vr)] [(.int (Int32.ofNat i))])
  refine X0.step (fun hA hx hq t_ k_ => XS.iloadN hA hx rfl (hb hq d17_5) rfl k_) ?_
  show OFin _ _ _ _ _ _ T0 (mkF m 6 #[.val (.int (Int32.ofNat i)), .val (.int (Int32.ofNat N)), .val (.ref vr)] [(.int (Int32.ofNat N)), (.int (Int32.ofNat i))])
  refine X0.step (fun hA hx hq t_ k_ => XS.icmpYes hA hx rfl (pc0 := 6) (pc' := 16) rfl (hb hq d17_6) rfl (tlt ((own_lt32 i N (by omega) (by omega)).mpr hi)).1 (by decide) (by decide) k_) ?_
  show OFin _ _ _ _ _ _ T0 (mkF m 16 #[.val (.int (Int32.ofNat i)), .val (.int (Int32.ofNat N)), .val (.ref vr)] [])
  refine X0.step (fun hA hx hq t_ k_ => XS.iloadN hA hx rfl (hb hq d17_16) rfl k_) ?_
  show OFin _ _ _ _ _ _ T0 (mkF m 17 #[.val (.int (Int32.ofNat i)), .val (.int (Int32.ofNat N)), .val (.ref vr)] [(.int (Int32.ofNat i))])
  exact X0.retI d17_17 (oN (by decide) (by decide)) (⟨rfl, rfl⟩)
theorem sc2 (l : Launch) (Z : State) (a0 : Array Value) (hw : ∀ d ∈ tables_1, d.before a0 Z = true) (i N : Nat) (vf : Value) (h0 : Heap) (n0 : Nat) (hi : i < N) (hN : N ≤ 4000) (rf : vf.isRef = true) :
    OMeets l Z (⟨"jdk/internal/util/Preconditions", "checkIndex", "(IILjava/util/function/BiFunction;)I"⟩ : MethodName) [] jdk_41_method_11_code 3 (some .int) ({ frames := 0, cells := 0, slots := 0, locals := 0 } : Room) #[(.int (Int32.ofNat i)), (.int (Int32.ofNat N)), vf] h0 n0 (fun v h => v = some (.int (Int32.ofNat i)) ∧ h0 = h) := by
  rcases ref_cases rf with rfl | ⟨vr, rfl⟩
  · exact sc2n l Z a0 hw i N h0 n0 hi hN
  · exact sc2r l Z a0 hw i N vr h0 n0 hi hN
theorem d16_0 : decode jdk_42_method_155_code 0 = .ok (.iload_n 0, 1) := by decide +kernel
theorem d16_1 : decode jdk_42_method_155_code 1 = .ok (.iload_n 1, 1) := by decide +kernel
theorem d16_2 : decode jdk_42_method_155_code 2 = .ok (.getstatic 1053, 3) := by decide +kernel
theorem pd_pIILjava_util_function_BiFunction_r_I : parseMethodDescriptor "(IILjava/util/function/BiFunction;)I" = some ⟨[.int, .int, (.object "java/util/function/BiFunction")], some .int⟩ := by decide +kernel
theorem d16_5 : decode jdk_42_method_155_code 5 = .ok (.invokestatic 1059, 3) := by decide +kernel
theorem d16_8 : decode jdk_42_method_155_code 8 = .ok (.pop, 1) := by decide +kernel
theorem d16_9 : decode jdk_42_method_155_code 9 = .ok (.return_, 1) := by decide +kernel
set_option maxRecDepth 65536 in
set_option maxHeartbeats 40000000 in
theorem sc3 (l : Launch) (Z : State) (a0 : Array Value) (hw : ∀ d ∈ tables_1, d.before a0 Z = true) (i N : Nat) (vf : Value) (h0 : Heap) (n0 : Nat) (SP : Sta Z h0 "jdk/internal/util/Preconditions" "SIOOBE_FORMATTER" "Ljava/util/function/BiFunction;" vf) (rf : vf.isRef = true) (hi : i < N) (hN : N ≤ 4000) :
    OMeets l Z (⟨"java/lang/String", "checkIndex", "(II)V"⟩ : MethodName) [] jdk_42_method_155_code 2 none ({ frames := 1, cells := 0, slots := 0, locals := 14 } : Room) #[(.int (Int32.ofNat i)), (.int (Int32.ofNat N))] h0 n0 (fun v h => v = none ∧ h0 = h) := by
  refine o_enter (Z := Z) (plainFor_of_name pn_java_lang_String) ?_
  intro p e s m below meth c T0 X0
  refine OFin.cast (g' := (mkF m 0 #[.val (.int (Int32.ofNat i)), .val (.int (Int32.ofNat N))] [])) (by first | (simp [entryFrame, mkF, argsToLocals, Value.category]; done) | rfl) ?_
  refine X0.step (fun hA hx hq t_ k_ => XS.iloadN hA hx rfl (hb hq d16_0) rfl k_) ?_
  show OFin _ _ _ _ _ _ T0 (mkF m 1 #[.val (.int (Int32.ofNat i)), .val (.int (Int32.ofNat N))] [(.int (Int32.ofNat i))])
  refine X0.step (fun hA hx hq t_ k_ => XS.iloadN hA hx rfl (hb hq d16_1) rfl k_) ?_
  show OFin _ _ _ _ _ _ T0 (mkF m 2 #[.val (.int (Int32.ofNat i)), .val (.int (Int32.ofNat N))] [(.int (Int32.ofNat N)), (.int (Int32.ofNat i))])
  refine X0.getS (hw _ (List.mem_of_getElem? (i := 78) rfl)) SP (g := (mkF m 2 #[.val (.int (Int32.ofNat i)), .val (.int (Int32.ofNat N))] [(.int (Int32.ofNat N)), (.int (Int32.ofNat i))])) rfl d16_2 ?_
  intro T1 X1
  show OFin _ _ _ _ _ _ T1 (mkF m 5 #[.val (.int (Int32.ofNat i)), .val (.int (Int32.ofNat N))] [vf, (.int (Int32.ofNat N)), (.int (Int32.ofNat i))])
  refine X1.callS (y' := (⟨"jdk/internal/util/Preconditions", "checkIndex", "(IILjava/util/function/BiFunction;)I"⟩ : MethodName)) (hw _ (List.mem_of_getElem? (i := 80) rfl)) (hw _ (List.mem_of_getElem? (i := 81) rfl)) (hw _ (List.mem_of_getElem? (i := 79) rfl)) (hw _ (List.mem_of_getElem? (i := 82) rfl)) (by decide) (argsL := [(.int (Int32.ofNat i)), (.int (Int32.ofNat N)), vf]) (rest := []) (sc2 l Z a0 hw i N vf h0 n0 hi hN rf) (g := (mkF m 5 #[.val (.int (Int32.ofNat i)), .val (.int (Int32.ofNat N))] [vf, (.int (Int32.ofNat N)), (.int (Int32.ofNat i))])) rfl rfl pd_pIILjava_util_function_BiFunction_r_I rfl rfl (W := 0) (by show 2 * 0 + _ ≤ _; exact Nat.le_of_eq rfl) d16_5 (by decide) (by decide) (by decide) (by decide) ?_
  intro v2 T2 h2 X2 q2
  obtain ⟨rfl, rfl⟩ := q2
  show OFin _ _ _ _ _ _ T2 (mkF m 8 #[.val (.int (Int32.ofNat i)), .val (.int (Int32.ofNat N))] [(.int (Int32.ofNat i))])
  refine X2.step (fun hA hx hq t_ k_ => XS.pop hA hx rfl (hb hq d16_8) rfl rfl k_) ?_
  show OFin _ _ _ _ _ _ T2 (mkF m 9 #[.val (.int (Int32.ofNat i)), .val (.int (Int32.ofNat N))] [])
  exact X2.retV d16_9 (oN (by decide) (by decide)) (⟨rfl, rfl⟩)
theorem pn_java_lang_StringLatin1 : plainName "java/lang/StringLatin1" = true := by first | (simp [plainName, overriddenIn]; done) | decide +kernel
theorem d15_0 : decode jdk_43_method_2_code 0 = .ok (.iload_n 1, 1) := by decide +kernel
theorem d15_1 : decode jdk_43_method_2_code 1 = .ok (.aload_n 0, 1) := by decide +kernel
theorem d15_2 : decode jdk_43_method_2_code 2 = .ok (.arraylength, 1) := by decide +kernel
theorem pd_pIIr_V : parseMethodDescriptor "(II)V" = some ⟨[.int, .int], none⟩ := by decide +kernel
theorem d15_3 : decode jdk_43_method_2_code 3 = .ok (.invokestatic 9, 3) := by decide +kernel
theorem d15_6 : decode jdk_43_method_2_code 6 = .ok (.aload_n 0, 1) := by decide +kernel
theorem d15_7 : decode jdk_43_method_2_code 7 = .ok (.iload_n 1, 1) := by decide +kernel
theorem d15_8 : decode jdk_43_method_2_code 8 = .ok (.baload, 1) := by decide +kernel
theorem d15_9 : decode jdk_43_method_2_code 9 = .ok (.sipush 255, 3) := by decide +kernel
theorem d15_12 : decode jdk_43_method_2_code 12 = .ok (.iand, 1) := by decide +kernel
theorem d15_13 : decode jdk_43_method_2_code 13 = .ok (.i2c, 1) := by decide +kernel
theorem d15_14 : decode jdk_43_method_2_code 14 = .ok (.ireturn, 1) := by decide +kernel
set_option maxRecDepth 65536 in
set_option maxHeartbeats 40000000 in
theorem sc4 (l : Launch) (Z : State) (a0 : Array Value) (hw : ∀ d ∈ tables_1, d.before a0 Z = true) (t : Addr) (i N : Nat) (f : Nat → Int32) (vf : Value) (h0 : Heap) (n0 : Nat) (F : OArr Z h0 t .byte N (fun j => .int (f j).toInt8.toInt32)) (hfi : 0 ≤ (f i).toInt ∧ (f i).toInt ≤ 255) (SP : Sta Z h0 "jdk/internal/util/Preconditions" "SIOOBE_FORMATTER" "Ljava/util/function/BiFunction;" vf) (rf : vf.isRef = true) (hi : i < N) (hN : N ≤ 4000) :
    OMeets l Z (⟨"java/lang/StringLatin1", "charAt", "([BI)C"⟩ : MethodName) [] jdk_43_method_2_code 2 (some .char) ({ frames := 2, cells := 0, slots := 0, locals := 27 } : Room) #[(.ref t), (.int (Int32.ofNat i))] h0 n0 (fun v h => v = some (.int (f i)) ∧ h0 = h) := by
  refine o_enter (Z := Z) (plainFor_of_name pn_java_lang_StringLatin1) ?_
  intro p e s m below meth c T0 X0
  refine OFin.cast (g' := (mkF m 0 #[.val (.ref t), .val (.int (Int32.ofNat i))] [])) (by first | (simp [entryFrame, mkF, argsToLocals, Value.category]; done) | rfl) ?_
  obtain ⟨c1, A1, S1, H1⟩ := id F
  refine X0.step (fun hA hx hq t_ k_ => XS.iloadN hA hx rfl (hb hq d15_0) rfl k_) ?_
  show OFin _ _ _ _ _ _ T0 (mkF m 1 #[.val (.ref t), .val (.int (Int32.ofNat i))] [(.int (Int32.ofNat i))])
  refine X0.step (fun hA hx hq t_ k_ => XS.aloadN hA hx rfl (hb hq d15_1) rfl rfl k_) ?_
  show OFin _ _ _ _ _ _ T0 (mkF m 2 #[.val (.ref t), .val (.int (Int32.ofNat i))] [(.ref t), (.int (Int32.ofNat i))])
  refine X0.alen A1 (n := (Int32.ofNat N)) (by rw [S1]) (g := (mkF m 2 #[.val (.ref t), .val (.int (Int32.ofNat i))] [(.ref t), (.int (Int32.ofNat i))])) rfl rfl d15_2 ?_
  show OFin _ _ _ _ _ _ T0 (mkF m 3 #[.val (.ref t), .val (.int (Int32.ofNat i))] [(.int (Int32.ofNat N)), (.int (Int32.ofNat i))])
  refine X0.callS (y' := (⟨"java/lang/String", "checkIndex", "(II)V"⟩ : MethodName)) (hw _ (List.mem_of_getElem? (i := 75) rfl)) (hw _ (List.mem_of_getElem? (i := 76) rfl)) (hw _ (List.mem_of_getElem? (i := 8) rfl)) (hw _ (List.mem_of_getElem? (i := 77) rfl)) (by decide) (argsL := [(.int (Int32.ofNat i)), (.int (Int32.ofNat N))]) (rest := []) (sc3 l Z a0 hw i N vf h0 n0 SP rf hi hN) (g := (mkF m 3 #[.val (.ref t), .val (.int (Int32.ofNat i))] [(.int (Int32.ofNat N)), (.int (Int32.ofNat i))])) rfl rfl pd_pIIr_V rfl rfl (W := 0) (by show 2 * 0 + _ ≤ _; exact Nat.le_of_eq rfl) d15_3 (by decide) (by decide) (by decide) (by decide) ?_
  intro v1 T1 h1 X1 q1
  obtain ⟨rfl, rfl⟩ := q1
  show OFin _ _ _ _ _ _ T1 (mkF m 6 #[.val (.ref t), .val (.int (Int32.ofNat i))] [])
  refine X1.step (fun hA hx hq t_ k_ => XS.aloadN hA hx rfl (hb hq d15_6) rfl rfl k_) ?_
  show OFin _ _ _ _ _ _ T1 (mkF m 7 #[.val (.ref t), .val (.int (Int32.ofNat i))] [(.ref t)])
  refine X1.step (fun hA hx hq t_ k_ => XS.iloadN hA hx rfl (hb hq d15_7) rfl k_) ?_
  show OFin _ _ _ _ _ _ T1 (mkF m 8 #[.val (.ref t), .val (.int (Int32.ofNat i))] [(.int (Int32.ofNat i)), (.ref t)])
  refine X1.aload0 A1 (v := (.int (f i).toInt8.toInt32)) (own_inN S1 hi (by omega)) (by rw [own_iN i (by omega)]; exact H1 i hi) (g := (mkF m 8 #[.val (.ref t), .val (.int (Int32.ofNat i))] [(.int (Int32.ofNat i)), (.ref t)])) rfl rfl (Or.inr (Or.inr (Or.inr (Or.inl ⟨rfl, rfl⟩)))) d15_8 ?_
  show OFin _ _ _ _ _ _ T1 (mkF m 9 #[.val (.ref t), .val (.int (Int32.ofNat i))] [(.int (f i).toInt8.toInt32)])
  refine X1.step (fun hA hx hq t_ k_ => XS.sipush hA hx rfl (hb hq d15_9) k_) ?_
  show OFin _ _ _ _ _ _ T1 (mkF m 12 #[.val (.ref t), .val (.int (Int32.ofNat i))] [(.int (255 : Int32)), (.int (f i).toInt8.toInt32)])
  refine X1.step (fun hA hx hq t_ k_ => XS.iand hA hx rfl (hb hq d15_12) rfl k_) ?_
  show OFin _ _ _ _ _ _ T1 (mkF m 13 #[.val (.ref t), .val (.int (Int32.ofNat i))] [(.int ((f i).toInt8.toInt32 &&& (255 : Int32)))])
  refine X1.step (fun hA hx hq t_ k_ => XS.i2c hA hx rfl (hb hq d15_13) rfl k_) ?_
  show OFin _ _ _ _ _ _ T1 (mkF m 14 #[.val (.ref t), .val (.int (Int32.ofNat i))] [(.int (((f i).toInt8.toInt32 &&& (255 : Int32)).toUInt32.toUInt16.toUInt32.toInt32))])
  exact X1.retN (by simp) d15_14 (oN (by decide) (by decide)) (⟨by rw [own_chr _ hfi.1 hfi.2], rfl⟩)
theorem d13_0 : decode jdk_42_method_56_code 0 = .ok (.aload_n 0, 1) := by decide +kernel
theorem d13_1 : decode jdk_42_method_56_code 1 = .ok (.invokevirtual 492, 3) := by decide +kernel
theorem pd_pr_Z : parseMethodDescriptor "()Z" = some ⟨[], some .boolean⟩ := by decide +kernel
theorem d13_4 : decode jdk_42_method_56_code 4 = .ok (.ifCond .eq 12, 3) := by decide +kernel
theorem d13_7 : decode jdk_42_method_56_code 7 = .ok (.aload_n 0, 1) := by decide +kernel
theorem d13_8 : decode jdk_42_method_56_code 8 = .ok (.getfield 9, 3) := by decide +kernel
theorem d13_11 : decode jdk_42_method_56_code 11 = .ok (.iload_n 1, 1) := by decide +kernel
theorem d13_12 : decode jdk_42_method_56_code 12 = .ok (.invokestatic 495, 3) := by decide +kernel
theorem pd_pA_BIr_C : parseMethodDescriptor "([BI)C" = some ⟨[(.array .byte), .int], some .char⟩ := by decide +kernel
theorem d13_15 : decode jdk_42_method_56_code 15 = .ok (.ireturn, 1) := by decide +kernel
set_option maxRecDepth 65536 in
set_option maxHeartbeats 40000000 in
theorem sc5 (l : Launch) (Z : State) (a0 : Array Value) (hw : ∀ d ∈ tables_1, d.before a0 Z = true) (a1 t : Addr) (N : Nat) (f : Nat → Int32) (i : Nat) (cs : Int32) (vf : Value) (h0 : Heap) (n0 : Nat) (S : OStr Z h0 a1 t N f) (hN : N ≤ 4000) (hi : i < N) (hfi : 0 ≤ (f i).toInt ∧ (f i).toInt ≤ 255) (SS : Sta Z h0 "java/lang/String" "COMPACT_STRINGS" "Z" (.int cs)) (hcs : ¬ cs = 0) (SP : Sta Z h0 "jdk/internal/util/Preconditions" "SIOOBE_FORMATTER" "Ljava/util/function/BiFunction;" vf) (rf : vf.isRef = true) :
    OMeets l Z (⟨"java/lang/String", "charAt", "(I)C"⟩ : MethodName) [] jdk_42_method_56_code 2 (some .char) ({ frames := 3, cells := 0, slots := 0, locals := 40 } : Room) #[(.ref a1), (.int (Int32.ofNat i))] h0 n0 (fun v h => v = some (.int (f i)) ∧ h0 = h) := by
  refine o_enter (Z := Z) (plainFor_of_name pn_java_lang_String) ?_
  intro p e s m below meth c T0 X0
  refine OFin.cast (g' := (mkF m 0 #[.val (.ref a1), .val (.int (Int32.ofNat i))] [])) (by first | (simp [entryFrame, mkF, argsToLocals, Value.category]; done) | rfl) ?_
  refine X0.step (fun hA hx hq t_ k_ => XS.aloadN hA hx rfl (hb hq d13_0) rfl rfl k_) ?_
  show OFin _ _ _ _ _ _ T0 (mkF m 1 #[.val (.ref a1), .val (.int (Int32.ofNat i))] [(.ref a1)])
  refine X0.callV (y' := (⟨"java/lang/String", "isLatin1", "()Z"⟩ : MethodName)) (z' := (⟨"java/lang/String", "isLatin1", "()Z"⟩ : MethodName)) (hw _ (List.mem_of_getElem? (i := 66) rfl)) (hw _ (List.mem_of_getElem? (i := 67) rfl)) (X0.notFace (hw _ (List.mem_of_getElem? (i := 69) rfl)) rfl) (hw _ (List.mem_of_getElem? (i := 69) rfl)) (hw _ (List.mem_of_getElem? (i := 68) rfl)) (hw _ (List.mem_of_getElem? (i := 8) rfl)) (hw _ (List.mem_of_getElem? (i := 70) rfl)) (by decide) S.1 (argsL := []) (rest := []) (sc1 l Z a0 hw a1 t N f cs h0 n0 S hN SS hcs) (g := (mkF m 1 #[.val (.ref a1), .val (.int (Int32.ofNat i))] [(.ref a1)])) rfl rfl pd_pr_Z rfl rfl (W := 0) (by show 2 * 0 + _ ≤ _; exact Nat.le_of_eq rfl) d13_1 (by decide) (by decide) (by decide) (by decide) ?_
  intro v1 T1 h1 X1 q1
  obtain ⟨rfl, rfl⟩ := q1
  show OFin _ _ _ _ _ _ T1 (mkF m 4 #[.val (.ref a1), .val (.int (Int32.ofNat i))] [(.int (1 : Int32))])
  refine X1.step (fun hA hx hq t_ k_ => XS.ifNo hA hx rfl (hb hq d13_4) rfl ((if0 _ _).trans (feq ((by decide))).1) k_) ?_
  show OFin _ _ _ _ _ _ T1 (mkF m 7 #[.val (.ref a1), .val (.int (Int32.ofNat i))] [])
  refine X1.step (fun hA hx hq t_ k_ => XS.aloadN hA hx rfl (hb hq d13_7) rfl rfl k_) ?_
  show OFin _ _ _ _ _ _ T1 (mkF m 8 #[.val (.ref a1), .val (.int (Int32.ofNat i))] [(.ref a1)])
  refine X1.getF (hw _ (List.mem_of_getElem? (i := 33) rfl)) S.2.2.1 (g := (mkF m 8 #[.val (.ref a1), .val (.int (Int32.ofNat i))] [(.ref a1)])) rfl rfl d13_8 ?_
  intro T2 X2
  show OFin _ _ _ _ _ _ T2 (mkF m 11 #[.val (.ref a1), .val (.int (Int32.ofNat i))] [(.ref t)])
  refine X2.step (fun hA hx hq t_ k_ => XS.iloadN hA hx rfl (hb hq d13_11) rfl k_) ?_
  show OFin _ _ _ _ _ _ T2 (mkF m 12 #[.val (.ref a1), .val (.int (Int32.ofNat i))] [(.int (Int32.ofNat i)), (.ref t)])
  refine X2.callS (y' := (⟨"java/lang/StringLatin1", "charAt", "([BI)C"⟩ : MethodName)) (hw _ (List.mem_of_getElem? (i := 71) rfl)) (hw _ (List.mem_of_getElem? (i := 72) rfl)) (hw _ (List.mem_of_getElem? (i := 73) rfl)) (hw _ (List.mem_of_getElem? (i := 74) rfl)) (by decide) (argsL := [(.ref t), (.int (Int32.ofNat i))]) (rest := []) (sc4 l Z a0 hw t i N f vf h0 n0 S.2.2.2 hfi SP rf hi hN) (g := (mkF m 12 #[.val (.ref a1), .val (.int (Int32.ofNat i))] [(.int (Int32.ofNat i)), (.ref t)])) rfl rfl pd_pA_BIr_C rfl rfl (W := 0) (by show 2 * 0 + _ ≤ _; exact Nat.le_of_eq rfl) d13_12 (by decide) (by decide) (by decide) (by decide) ?_
  intro v3 T3 h3 X3 q3
  obtain ⟨rfl, rfl⟩ := q3
  show OFin _ _ _ _ _ _ T3 (mkF m 15 #[.val (.ref a1), .val (.int (Int32.ofNat i))] [(.int (f i))])
  exact X3.retN (by simp) d13_15 (oN (by decide) (by decide)) (⟨by rw [own_narC _ hfi.1 (by omega)], rfl⟩)
theorem d20_0 : decode jdk_42_method_66_code 0 = .ok (.aload_n 0, 1) := by decide +kernel
theorem d20_1 : decode jdk_42_method_66_code 1 = .ok (.aload_n 1, 1) := by decide +kernel
theorem d20_2 : decode jdk_42_method_66_code 2 = .ok (.if_acmp .ne 5, 3) := by decide +kernel
theorem d20_5 : decode jdk_42_method_66_code 5 = .ok (.iconst 1, 1) := by decide +kernel
theorem d20_6 : decode jdk_42_method_66_code 6 = .ok (.ireturn, 1) := by decide +kernel
set_option maxRecDepth 65536 in
set_option maxHeartbeats 40000000 in
theorem se1 (l : Launch) (Z : State) (a0 : Array Value) (hw : ∀ d ∈ tables_1, d.before a0 Z = true) (a1 : Addr) (h0 : Heap) (n0 : Nat)  :
    OMeets l Z (⟨"java/lang/String", "equals", "(Ljava/lang/Object;)Z"⟩ : MethodName) [] jdk_42_method_66_code 3 (some .boolean) ({ frames := 0, cells := 0, slots := 0, locals := 0 } : Room) #[(.ref a1), (.ref a1)] h0 n0 (fun v h => v = some (.int 1) ∧ h0 = h) := by
  refine o_enter (Z := Z) (plainFor_of_name pn_java_lang_String) ?_
  intro p e s m below meth c T0 X0
  refine OFin.cast (g' := (mkF m 0 #[.val (.ref a1), .val (.ref a1), .unset] [])) (by first | (simp [entryFrame, mkF, argsToLocals, Value.category]; done) | rfl) ?_
  refine X0.step (fun hA hx hq t_ k_ => XS.aloadN hA hx rfl (hb hq d20_0) rfl rfl k_) ?_
  show OFin _ _ _ _ _ _ T0 (mkF m 1 #[.val (.ref a1), .val (.ref a1), .unset] [(.ref a1)])
  refine X0.step (fun hA hx hq t_ k_ => XS.aloadN hA hx rfl (hb hq d20_1) rfl rfl k_) ?_
  show OFin _ _ _ _ _ _ T0 (mkF m 2 #[.val (.ref a1), .val (.ref a1), .unset] [(.ref a1), (.ref a1)])
  refine X0.acmp (g := (mkF m 2 #[.val (.ref a1), .val (.ref a1), .unset] [(.ref a1), (.ref a1)])) rfl rfl rfl (pc0 := 2) (pc' := 5) (same := true) rfl d20_2 rfl (decide_eq_true rfl) (by decide) (by decide) ?_
  show OFin _ _ _ _ _ _ T0 (mkF m 5 #[.val (.ref a1), .val (.ref a1), .unset] [])
  refine X0.step (fun hA hx hq t_ k_ => XS.iconst hA hx rfl (hb hq d20_5) k_) ?_
  show OFin _ _ _ _ _ _ T0 (mkF m 6 #[.val (.ref a1), .val (.ref a1), .unset] [(.int (1 : Int32))])
  exact X0.retN (by simp) d20_6 (oN (by decide) (by decide)) (⟨rfl, rfl⟩)
theorem own_vis (x : Int32) : 33 ≤ (((33 : Int32) + ((x &&& (2147483647 : Int32)) % (94 : Int32))).toUInt32.toUInt16.toUInt32.toInt32).toInt ∧ (((33 : Int32) + ((x &&& (2147483647 : Int32)) % (94 : Int32))).toUInt32.toUInt16.toUInt32.toInt32).toInt ≤ 126 := by
  have e1 := (c_and x (2147483647 : Int32) (by decide)).1
  have e2 := (c_iremV (x &&& (2147483647 : Int32)) (94 : Int32)).1 e1 (by decide)
  have e3 : (94 : Int32).toInt = 94 := by decide
  have e4 : (33 : Int32).toInt = 33 := by decide
  have e5 := c_iadd (33 : Int32) ((x &&& (2147483647 : Int32)) % (94 : Int32))
  have r := rng32 ((33 : Int32) + ((x &&& (2147483647 : Int32)) % (94 : Int32)))
  rw [e4] at e5
  have e6 := c_i2c ((33 : Int32) + ((x &&& (2147483647 : Int32)) % (94 : Int32)))
  omega
def own_f (ca cb cc cd : Int32) (j : Nat) : Int32 := if j = 0 then ca else if j = 1 then cb else if j = 2 then cc else cd
def own_ok (x : Int32) : Prop := 33 ≤ x.toInt ∧ x.toInt ≤ 126
theorem own_fok {ca cb cc cd : Int32} (h1 : own_ok ca) (h2 : own_ok cb) (h3 : own_ok cc) (h4 : own_ok cd) (j : Nat) : own_ok (own_f ca cb cc cd j) := by
  unfold own_f
  split
  · exact h1
  · split
    · exact h2
    · split
      · exact h3
      · exact h4
theorem own_nn (x : Int32) : 1 ≤ ((1 : Int32) + (x &&& (3 : Int32))).toInt ∧ ((1 : Int32) + (x &&& (3 : Int32))).toInt ≤ 4 := by
  have e1 := c_and x (3 : Int32) (by decide)
  have e2 := c_iadd (1 : Int32) (x &&& (3 : Int32))
  have e3 : (3 : Int32).toInt = 3 := by decide
  have e4 : (1 : Int32).toInt = 1 := by decide
  have r := rng32 ((1 : Int32) + (x &&& (3 : Int32)))
  rw [e4] at e2
  omega
theorem pn_com_example_libidem_libidem_IdempotencyKeyOfPinLaw : plainName "com/example/libidem/libidem/IdempotencyKeyOfPinLaw" = true := by first | (simp [plainName, overriddenIn]; done) | decide +kernel
theorem d1_0 : decode method_2_code 0 = .ok (.bipush 33, 2) := by decide +kernel
theorem d1_2 : decode method_2_code 2 = .ok (.iload_n 0, 1) := by decide +kernel
theorem d1_3 : decode method_2_code 3 = .ok (.ldc 7, 2) := by decide +kernel
theorem d1_5 : decode method_2_code 5 = .ok (.iand, 1) := by decide +kernel
theorem d1_6 : decode method_2_code 6 = .ok (.bipush 94, 2) := by decide +kernel
theorem d1_8 : decode method_2_code 8 = .ok (.irem, 1) := by decide +kernel
theorem d1_9 : decode method_2_code 9 = .ok (.iadd, 1) := by decide +kernel
theorem d1_10 : decode method_2_code 10 = .ok (.i2c, 1) := by decide +kernel
theorem d1_11 : decode method_2_code 11 = .ok (.ireturn, 1) := by decide +kernel
set_option maxRecDepth 65536 in
set_option maxHeartbeats 40000000 in
theorem rm1 (l : Launch) (Z : State) (a0 : Array Value) (hw : ∀ d ∈ tables_1, d.before a0 Z = true) (x : Int32) (h0 : Heap) (n0 : Nat)  :
    OMeets l Z (⟨"com/example/libidem/libidem/IdempotencyKeyOfPinLaw", "visible", "(I)C"⟩ : MethodName) [] method_2_code 1 (some .char) ({ frames := 0, cells := 0, slots := 0, locals := 0 } : Room) #[(.int x)] h0 n0 (fun v h => h0 = h ∧ ∃ g, v = some (.int g) ∧ own_ok g) := by
  refine o_enter (Z := Z) (plainFor_of_name pn_com_example_libidem_libidem_IdempotencyKeyOfPinLaw) ?_
  intro p e s m below meth c T0 X0
  refine OFin.cast (g' := (mkF m 0 #[.val (.int x)] [])) (by first | (simp [entryFrame, mkF, argsToLocals, Value.category]; done) | rfl) ?_
  have hv := own_vis x
  refine X0.step (fun hA hx hq t_ k_ => XS.bipush hA hx rfl (hb hq d1_0) k_) ?_
  show OFin _ _ _ _ _ _ T0 (mkF m 2 #[.val (.int x)] [(.int (33 : Int32))])
  refine X0.step (fun hA hx hq t_ k_ => XS.iloadN hA hx rfl (hb hq d1_2) rfl k_) ?_
  show OFin _ _ _ _ _ _ T0 (mkF m 3 #[.val (.int x)] [(.int x), (.int (33 : Int32))])
  refine X0.ldcI (hw _ (List.mem_of_getElem? (i := 4) rfl)) (g := (mkF m 3 #[.val (.int x)] [(.int x), (.int (33 : Int32))])) rfl d1_3 ?_
  show OFin _ _ _ _ _ _ T0 (mkF m 5 #[.val (.int x)] [(.int (2147483647 : Int32)), (.int x), (.int (33 : Int32))])
  refine X0.step (fun hA hx hq t_ k_ => XS.iand hA hx rfl (hb hq d1_5) rfl k_) ?_
  show OFin _ _ _ _ _ _ T0 (mkF m 6 #[.val (.int x)] [(.int (x &&& (2147483647 : Int32))), (.int (33 : Int32))])
  refine X0.step (fun hA hx hq t_ k_ => XS.bipush hA hx rfl (hb hq d1_6) k_) ?_
  show OFin _ _ _ _ _ _ T0 (mkF m 8 #[.val (.int x)] [(.int (94 : Int32)), (.int (x &&& (2147483647 : Int32))), (.int (33 : Int32))])
  refine X0.irem (g := (mkF m 8 #[.val (.int x)] [(.int (94 : Int32)), (.int (x &&& (2147483647 : Int32))), (.int (33 : Int32))])) rfl d1_8 rfl (by decide) ?_
  show OFin _ _ _ _ _ _ T0 (mkF m 9 #[.val (.int x)] [(.int ((x &&& (2147483647 : Int32)) % (94 : Int32))), (.int (33 : Int32))])
  refine X0.step (fun hA hx hq t_ k_ => XS.iadd hA hx rfl (hb hq d1_9) rfl k_) ?_
  show OFin _ _ _ _ _ _ T0 (mkF m 10 #[.val (.int x)] [(.int ((33 : Int32) + ((x &&& (2147483647 : Int32)) % (94 : Int32))))])
  refine X0.step (fun hA hx hq t_ k_ => XS.i2c hA hx rfl (hb hq d1_10) rfl k_) ?_
  show OFin _ _ _ _ _ _ T0 (mkF m 11 #[.val (.int x)] [(.int (((33 : Int32) + ((x &&& (2147483647 : Int32)) % (94 : Int32))).toUInt32.toUInt16.toUInt32.toInt32))])
  exact X0.retN (by simp) d1_11 (oN (by decide) (by decide)) (⟨rfl, _, by rw [own_narC _ (by omega) (by omega)], hv⟩)
theorem pn_java_util_Objects : plainName "java/util/Objects" = true := by first | (simp [plainName, overriddenIn]; done) | decide +kernel
theorem d9_0 : decode jdk_31_method_11_code 0 = .ok (.aload_n 0, 1) := by decide +kernel
theorem d9_1 : decode jdk_31_method_11_code 1 = .ok (.ifnonnull 12, 3) := by decide +kernel
theorem d9_13 : decode jdk_31_method_11_code 13 = .ok (.aload_n 0, 1) := by decide +kernel
theorem d9_14 : decode jdk_31_method_11_code 14 = .ok (.areturn, 1) := by decide +kernel
set_option maxRecDepth 65536 in
set_option maxHeartbeats 40000000 in
theorem rm2 (l : Launch) (Z : State) (a0 : Array Value) (hw : ∀ d ∈ tables_1, d.before a0 Z = true) (a1 a2 : Addr) (h0 : Heap) (n0 : Nat)  :
    OMeets l Z (⟨"java/util/Objects", "requireNonNull", "(Ljava/lang/Object;Ljava/lang/String;)Ljava/lang/Object;"⟩ : MethodName) [] jdk_31_method_11_code 2 (some (.object "java/lang/Object")) ({ frames := 0, cells := 0, slots := 0, locals := 0 } : Room) #[(.ref a1), (.ref a2)] h0 n0 (fun v h => v = some (.ref a1) ∧ h0 = h) := by
  refine o_enter (Z := Z) (plainFor_of_name pn_java_util_Objects) ?_
  intro p e s m below meth c T0 X0
  refine OFin.cast (g' := (mkF m 0 #[.val (.ref a1), .val (.ref a2)] [])) (by first | (simp [entryFrame, mkF, argsToLocals, Value.category]; done) | rfl) ?_
  refine X0.step (fun hA hx hq t_ k_ => XS.aloadN hA hx rfl (hb hq d9_0) rfl rfl k_) ?_
  show OFin _ _ _ _ _ _ T0 (mkF m 1 #[.val (.ref a1), .val (.ref a2)] [(.ref a1)])
  refine X0.step (fun hA hx hq t_ k_ => XS.ifnonnullYes hA hx rfl (pc0 := 1) (pc' := 13) rfl (hb hq d9_1) rfl (by decide) (by decide) k_) ?_
  show OFin _ _ _ _ _ _ T0 (mkF m 13 #[.val (.ref a1), .val (.ref a2)] [])
  refine X0.step (fun hA hx hq t_ k_ => XS.aloadN hA hx rfl (hb hq d9_13) rfl rfl k_) ?_
  show OFin _ _ _ _ _ _ T0 (mkF m 14 #[.val (.ref a1), .val (.ref a2)] [(.ref a1)])
  exact X0.retR rfl rfl d9_14 (oN (by decide) (by decide)) (⟨rfl, rfl⟩)
theorem pn_com_example_libidem_libidem_IdempotencyKey : plainName "com/example/libidem/libidem/IdempotencyKey" = true := by first | (simp [plainName, overriddenIn]; done) | decide +kernel
theorem d18_0 : decode prog_13_method_1_code 0 = .ok (.aload_n 0, 1) := by decide +kernel
theorem d18_1 : decode prog_13_method_1_code 1 = .ok (.invokespecial 1, 3) := by decide +kernel
theorem d18_4 : decode prog_13_method_1_code 4 = .ok (.aload_n 0, 1) := by decide +kernel
theorem d18_5 : decode prog_13_method_1_code 5 = .ok (.aload_n 1, 1) := by decide +kernel
theorem d18_6 : decode prog_13_method_1_code 6 = .ok (.putfield 7, 3) := by decide +kernel
theorem d18_9 : decode prog_13_method_1_code 9 = .ok (.return_, 1) := by decide +kernel
set_option maxRecDepth 65536 in
set_option maxHeartbeats 40000000 in
theorem rm3 (l : Launch) (Z : State) (a0 : Array Value) (hw : ∀ d ∈ tables_1, d.before a0 Z = true) (a1 sa : Addr) (h0 : Heap) (n0 : Nat) (F : Fld Z h0 a1 "com/example/libidem/libidem/IdempotencyKey" "value" "Ljava/lang/String;" .null) (E : Exa Z h0 a1 "com/example/libidem/libidem/IdempotencyKey") (hn : n0 ≤ a1) :
    OMeets l Z (⟨"com/example/libidem/libidem/IdempotencyKey", "<init>", "(Ljava/lang/String;)V"⟩ : MethodName) [] prog_13_method_1_code 2 none ({ frames := 1, cells := 0, slots := 0, locals := 12 } : Room) #[(.ref a1), (.ref sa)] h0 n0 (fun v h => v = none ∧ Keep h0 h [a1] ∧ Exa Z h a1 "com/example/libidem/libidem/IdempotencyKey" ∧ Fld Z h a1 "com/example/libidem/libidem/IdempotencyKey" "value" "Ljava/lang/String;" (.ref sa)) := by
  refine o_enter (Z := Z) (plainFor_of_name pn_com_example_libidem_libidem_IdempotencyKey) ?_
  intro p e s m below meth c T0 X0
  refine OFin.cast (g' := (mkF m 0 #[.val (.ref a1), .val (.ref sa)] [])) (by first | (simp [entryFrame, mkF, argsToLocals, Value.category]; done) | rfl) ?_
  refine X0.step (fun hA hx hq t_ k_ => XS.aloadN hA hx rfl (hb hq d18_0) rfl rfl k_) ?_
  show OFin _ _ _ _ _ _ T0 (mkF m 1 #[.val (.ref a1), .val (.ref sa)] [(.ref a1)])
  refine X0.initO (hw _ (List.mem_of_getElem? (i := 88) rfl)) (hw _ (List.mem_of_getElem? (i := 17) rfl)) (hw _ (List.mem_of_getElem? (i := 18) rfl)) (g := (mkF m 1 #[.val (.ref a1), .val (.ref sa)] [(.ref a1)])) rfl rfl rfl d18_1 (by decide) (W := 0) (by show 2 * 0 + _ ≤ _; exact Nat.le_of_eq rfl) (by decide) ?_
  intro T1 X1
  show OFin _ _ _ _ _ _ T1 (mkF m 4 #[.val (.ref a1), .val (.ref sa)] [])
  refine X1.step (fun hA hx hq t_ k_ => XS.aloadN hA hx rfl (hb hq d18_4) rfl rfl k_) ?_
  show OFin _ _ _ _ _ _ T1 (mkF m 5 #[.val (.ref a1), .val (.ref sa)] [(.ref a1)])
  refine X1.step (fun hA hx hq t_ k_ => XS.aloadN hA hx rfl (hb hq d18_5) rfl rfl k_) ?_
  show OFin _ _ _ _ _ _ T1 (mkF m 6 #[.val (.ref a1), .val (.ref sa)] [(.ref sa), (.ref a1)])
  refine X1.putF (hw _ (List.mem_of_getElem? (i := 89) rfl)) F E (Or.inr ⟨(hw _ (List.mem_of_getElem? (i := 90) rfl)), rfl, rfl⟩) (hw _ (List.mem_of_getElem? (i := 84) rfl)) (ty := (.object "java/lang/String")) (by decide) rfl rfl hn (g := (mkF m 6 #[.val (.ref a1), .val (.ref sa)] [(.ref sa), (.ref a1)])) rfl rfl d18_6 ?_
  intro T2 h2 X2 W2
  show OFin _ _ _ _ _ _ T2 (mkF m 9 #[.val (.ref a1), .val (.ref sa)] [])
  exact X2.retV d18_9 (oN (by decide) (by decide)) (⟨rfl, Keep.of_wr W2, E.wr W2, F.same W2⟩)
theorem d19_0 : decode prog_13_method_6_code 0 = .ok (.aload_n 0, 1) := by decide +kernel
theorem d19_1 : decode prog_13_method_6_code 1 = .ok (.getfield 7, 3) := by decide +kernel
theorem d19_4 : decode prog_13_method_6_code 4 = .ok (.areturn, 1) := by decide +kernel
set_option maxRecDepth 65536 in
set_option maxHeartbeats 40000000 in
theorem rm4 (l : Launch) (Z : State) (a0 : Array Value) (hw : ∀ d ∈ tables_1, d.before a0 Z = true) (a1 sa : Addr) (h0 : Heap) (n0 : Nat) (F : Fld Z h0 a1 "com/example/libidem/libidem/IdempotencyKey" "value" "Ljava/lang/String;" (.ref sa)) :
    OMeets l Z (⟨"com/example/libidem/libidem/IdempotencyKey", "value", "()Ljava/lang/String;"⟩ : MethodName) [] prog_13_method_6_code 1 (some (.object "java/lang/String")) ({ frames := 0, cells := 0, slots := 0, locals := 0 } : Room) #[(.ref a1)] h0 n0 (fun v h => v = some (.ref sa) ∧ h0 = h) := by
  refine o_enter (Z := Z) (plainFor_of_name pn_com_example_libidem_libidem_IdempotencyKey) ?_
  intro p e s m below meth c T0 X0
  refine OFin.cast (g' := (mkF m 0 #[.val (.ref a1)] [])) (by first | (simp [entryFrame, mkF, argsToLocals, Value.category]; done) | rfl) ?_
  refine X0.step (fun hA hx hq t_ k_ => XS.aloadN hA hx rfl (hb hq d19_0) rfl rfl k_) ?_
  show OFin _ _ _ _ _ _ T0 (mkF m 1 #[.val (.ref a1)] [(.ref a1)])
  refine X0.getF (hw _ (List.mem_of_getElem? (i := 89) rfl)) F (g := (mkF m 1 #[.val (.ref a1)] [(.ref a1)])) rfl rfl d19_1 ?_
  intro T1 X1
  show OFin _ _ _ _ _ _ T1 (mkF m 4 #[.val (.ref a1)] [(.ref sa)])
  exact X1.retR rfl rfl d19_4 (oN (by decide) (by decide)) (⟨rfl, rfl⟩)
theorem d8_0 : decode prog_13_method_2_code 0 = .ok (.aload_n 0, 1) := by decide +kernel
theorem d8_1 : decode prog_13_method_2_code 1 = .ok (.ldc 13, 2) := by decide +kernel
theorem pd_pLjava_lang_Object_Ljava_lang_String_r_Ljava_lang_Object_ : parseMethodDescriptor "(Ljava/lang/Object;Ljava/lang/String;)Ljava/lang/Object;" = some ⟨[(.object "java/lang/Object"), (.object "java/lang/String")], some (.object "java/lang/Object")⟩ := by decide +kernel
theorem d8_3 : decode prog_13_method_2_code 3 = .ok (.invokestatic 14, 3) := by decide +kernel
theorem d8_6 : decode prog_13_method_2_code 6 = .ok (.pop, 1) := by decide +kernel
theorem d8_7 : decode prog_13_method_2_code 7 = .ok (.aload_n 0, 1) := by decide +kernel
theorem d8_8 : decode prog_13_method_2_code 8 = .ok (.invokevirtual 20, 3) := by decide +kernel
theorem d8_11 : decode prog_13_method_2_code 11 = .ok (.ifCond .eq 13, 3) := by decide +kernel
theorem d8_24 : decode prog_13_method_2_code 24 = .ok (.aload_n 0, 1) := by decide +kernel
theorem d8_25 : decode prog_13_method_2_code 25 = .ok (.invokevirtual 33, 3) := by decide +kernel
theorem pd_pr_I : parseMethodDescriptor "()I" = some ⟨[], some .int⟩ := by decide +kernel
theorem d8_28 : decode prog_13_method_2_code 28 = .ok (.sipush 255, 3) := by decide +kernel
theorem d8_31 : decode prog_13_method_2_code 31 = .ok (.if_icmp .le 20, 3) := by decide +kernel
theorem d8_51 : decode prog_13_method_2_code 51 = .ok (.iconst 0, 1) := by decide +kernel
theorem d8_52 : decode prog_13_method_2_code 52 = .ok (.istore_n 1, 1) := by decide +kernel
theorem d8_53 : decode prog_13_method_2_code 53 = .ok (.iload_n 1, 1) := by decide +kernel
theorem d8_54 : decode prog_13_method_2_code 54 = .ok (.aload_n 0, 1) := by decide +kernel
theorem d8_55 : decode prog_13_method_2_code 55 = .ok (.invokevirtual 33, 3) := by decide +kernel
theorem d8_58 : decode prog_13_method_2_code 58 = .ok (.if_icmp .ge 58, 3) := by decide +kernel
theorem d8_116 : decode prog_13_method_2_code 116 = .ok (.new 8, 3) := by decide +kernel
theorem d8_119 : decode prog_13_method_2_code 119 = .ok (.dup, 1) := by decide +kernel
theorem d8_120 : decode prog_13_method_2_code 120 = .ok (.aload_n 0, 1) := by decide +kernel
theorem d8_121 : decode prog_13_method_2_code 121 = .ok (.invokespecial 57, 3) := by decide +kernel
theorem pd_pLjava_lang_String_r_V : parseMethodDescriptor "(Ljava/lang/String;)V" = some ⟨[(.object "java/lang/String")], none⟩ := by decide +kernel
theorem d8_124 : decode prog_13_method_2_code 124 = .ok (.areturn, 1) := by decide +kernel
theorem d8_61 : decode prog_13_method_2_code 61 = .ok (.aload_n 0, 1) := by decide +kernel
theorem d8_62 : decode prog_13_method_2_code 62 = .ok (.iload_n 1, 1) := by decide +kernel
theorem d8_63 : decode prog_13_method_2_code 63 = .ok (.invokevirtual 41, 3) := by decide +kernel
theorem pd_pIr_C : parseMethodDescriptor "(I)C" = some ⟨[.int], some .char⟩ := by decide +kernel
theorem d8_66 : decode prog_13_method_2_code 66 = .ok (.istore_n 2, 1) := by decide +kernel
theorem d8_67 : decode prog_13_method_2_code 67 = .ok (.iload_n 2, 1) := by decide +kernel
theorem d8_68 : decode prog_13_method_2_code 68 = .ok (.bipush 33, 2) := by decide +kernel
theorem d8_70 : decode prog_13_method_2_code 70 = .ok (.if_icmp .lt 9, 3) := by decide +kernel
theorem d8_73 : decode prog_13_method_2_code 73 = .ok (.iload_n 2, 1) := by decide +kernel
theorem d8_74 : decode prog_13_method_2_code 74 = .ok (.bipush 126, 2) := by decide +kernel
theorem d8_76 : decode prog_13_method_2_code 76 = .ok (.if_icmp .le 34, 3) := by decide +kernel
theorem d8_110 : decode prog_13_method_2_code 110 = .ok (.iinc 1 1, 3) := by decide +kernel
theorem d8_113 : decode prog_13_method_2_code 113 = .ok (.goto (-60), 3) := by decide +kernel
set_option maxRecDepth 65536 in
set_option maxHeartbeats 40000000 in
theorem rm5 (l : Launch) (Z : State) (a0 : Array Value) (hw : ∀ d ∈ tables_1, d.before a0 Z = true) (a1 t : Addr) (N : Nat) (f : Nat → Int32) (cs : Int32) (vf : Value) (h0 : Heap) (n0 : Nat) (S : OStr Z h0 a1 t N f) (hN0 : 0 < N) (hN : N ≤ 255) (hok : ∀ j, own_ok (f j)) (SS : Sta Z h0 "java/lang/String" "COMPACT_STRINGS" "Z" (.int cs)) (hcs : ¬ cs = 0) (SP : Sta Z h0 "jdk/internal/util/Preconditions" "SIOOBE_FORMATTER" "Ljava/util/function/BiFunction;" vf) (rf : vf.isRef = true) (Z0 : n0 ≤ h0.size) :
    OMeetsW l Z own_EL (⟨"com/example/libidem/libidem/IdempotencyKey", "of", "(Ljava/lang/String;)Lcom/example/libidem/libidem/IdempotencyKey;"⟩ : MethodName) [] prog_13_method_2_code 3 (some (.object "com/example/libidem/libidem/IdempotencyKey")) ({ frames := 4, cells := 3, slots := 25, locals := 54 } : Room) #[(.ref a1)] h0 n0 (fun v h => ∃ kk, v = some (.ref kk) ∧ Exa Z h kk "com/example/libidem/libidem/IdempotencyKey" ∧ Fld Z h kk "com/example/libidem/libidem/IdempotencyKey" "value" "Ljava/lang/String;" (.ref a1) ∧ OStr Z h a1 t N f ∧ Ext h0 h) := by
  refine o_enterW (Z := Z) (own_EW hw) (plainFor_of_name pn_com_example_libidem_libidem_IdempotencyKey) ?_
  intro p e s m below meth c T0 X0 B0
  refine OFin.cast (g' := (mkF m 0 #[.val (.ref a1), .unset, .unset] [])) (by first | (simp [entryFrame, mkF, argsToLocals, Value.category]; done) | rfl) ?_
  refine X0.step (fun hA hx hq t_ k_ => XS.aloadN hA hx rfl (hb hq d8_0) rfl rfl k_) ?_
  show OFin _ _ _ _ _ _ T0 (mkF m 1 #[.val (.ref a1), .unset, .unset] [(.ref a1)])
  refine X0.ldcO B0 (hw _ (List.mem_of_getElem? (i := 39) rfl)) (own_wS hw) (g := (mkF m 1 #[.val (.ref a1), .unset, .unset] [(.ref a1)])) rfl d8_1 (n := 20) (by decide) (by decide) (by decide) (by decide) ?_
  intro b1 T1 h1 vm1 X1 B1 E1 Sf1
  show OFin _ _ _ _ _ _ T1 (mkF m 3 #[.val (.ref a1), .unset, .unset] [(.ref b1), (.ref a1)])
  have S1 := S.ext E1
  have SS1 := SS.ext E1
  have SP1 := SP.ext E1
  refine X1.callS (y' := (⟨"java/util/Objects", "requireNonNull", "(Ljava/lang/Object;Ljava/lang/String;)Ljava/lang/Object;"⟩ : MethodName)) (hw _ (List.mem_of_getElem? (i := 42) rfl)) (hw _ (List.mem_of_getElem? (i := 43) rfl)) (hw _ (List.mem_of_getElem? (i := 44) rfl)) (hw _ (List.mem_of_getElem? (i := 45) rfl)) (by decide) (argsL := [(.ref a1), (.ref b1)]) (rest := []) (rm2 l Z a0 hw a1 b1 h1 n0) (g := (mkF m 3 #[.val (.ref a1), .unset, .unset] [(.ref b1), (.ref a1)])) rfl rfl pd_pLjava_lang_Object_Ljava_lang_String_r_Ljava_lang_Object_ rfl rfl (W := 0) (by show 2 * 0 + _ ≤ _; exact Nat.le_of_eq rfl) d8_3 (by decide) (by decide) (by decide) (by decide) ?_
  intro v2 T2 h2 X2 q2
  obtain ⟨rfl, rfl⟩ := q2
  show OFin _ _ _ _ _ _ T2 (mkF m 6 #[.val (.ref a1), .unset, .unset] [(.ref a1)])
  refine X2.step (fun hA hx hq t_ k_ => XS.pop hA hx rfl (hb hq d8_6) rfl rfl k_) ?_
  show OFin _ _ _ _ _ _ T2 (mkF m 7 #[.val (.ref a1), .unset, .unset] [])
  refine X2.step (fun hA hx hq t_ k_ => XS.aloadN hA hx rfl (hb hq d8_7) rfl rfl k_) ?_
  show OFin _ _ _ _ _ _ T2 (mkF m 8 #[.val (.ref a1), .unset, .unset] [(.ref a1)])
  refine X2.callV (y' := (⟨"java/lang/String", "isEmpty", "()Z"⟩ : MethodName)) (z' := (⟨"java/lang/String", "isEmpty", "()Z"⟩ : MethodName)) (hw _ (List.mem_of_getElem? (i := 46) rfl)) (hw _ (List.mem_of_getElem? (i := 47) rfl)) (X2.notFace (hw _ (List.mem_of_getElem? (i := 49) rfl)) rfl) (hw _ (List.mem_of_getElem? (i := 49) rfl)) (hw _ (List.mem_of_getElem? (i := 48) rfl)) (hw _ (List.mem_of_getElem? (i := 8) rfl)) (hw _ (List.mem_of_getElem? (i := 50) rfl)) (by decide) S1.1 (argsL := []) (rest := []) (sl3 l Z a0 hw a1 t N f h1 n0 S1 (by omega) hN0) (g := (mkF m 8 #[.val (.ref a1), .unset, .unset] [(.ref a1)])) rfl rfl pd_pr_Z rfl rfl (W := 0) (by show 2 * 0 + _ ≤ _; exact Nat.le_of_eq rfl) d8_8 (by decide) (by decide) (by decide) (by decide) ?_
  intro v3 T3 h3 X3 q3
  obtain ⟨rfl, rfl⟩ := q3
  show OFin _ _ _ _ _ _ T3 (mkF m 11 #[.val (.ref a1), .unset, .unset] [(.int (0 : Int32))])
  refine X3.step (fun hA hx hq t_ k_ => XS.ifYes hA hx rfl (pc0 := 11) (pc' := 24) rfl (hb hq d8_11) rfl ((if0 _ _).trans (teq ((rfl : (0 : Int32) = (0 : Int32)))).1) (by decide) (by decide) k_) ?_
  show OFin _ _ _ _ _ _ T3 (mkF m 24 #[.val (.ref a1), .unset, .unset] [])
  refine X3.step (fun hA hx hq t_ k_ => XS.aloadN hA hx rfl (hb hq d8_24) rfl rfl k_) ?_
  show OFin _ _ _ _ _ _ T3 (mkF m 25 #[.val (.ref a1), .unset, .unset] [(.ref a1)])
  refine X3.callV (y' := (⟨"java/lang/String", "length", "()I"⟩ : MethodName)) (z' := (⟨"java/lang/String", "length", "()I"⟩ : MethodName)) (hw _ (List.mem_of_getElem? (i := 51) rfl)) (hw _ (List.mem_of_getElem? (i := 52) rfl)) (X3.notFace (hw _ (List.mem_of_getElem? (i := 54) rfl)) rfl) (hw _ (List.mem_of_getElem? (i := 54) rfl)) (hw _ (List.mem_of_getElem? (i := 53) rfl)) (hw _ (List.mem_of_getElem? (i := 8) rfl)) (hw _ (List.mem_of_getElem? (i := 55) rfl)) (by decide) S1.1 (argsL := []) (rest := []) (sl2 l Z a0 hw a1 t N f cs h1 n0 S1 (by omega) SS1 hcs) (g := (mkF m 25 #[.val (.ref a1), .unset, .unset] [(.ref a1)])) rfl rfl pd_pr_I rfl rfl (W := 0) (by show 2 * 0 + _ ≤ _; exact Nat.le_of_eq rfl) d8_25 (by decide) (by decide) (by decide) (by decide) ?_
  intro v4 T4 h4 X4 q4
  obtain ⟨rfl, rfl⟩ := q4
  show OFin _ _ _ _ _ _ T4 (mkF m 28 #[.val (.ref a1), .unset, .unset] [(.int (Int32.ofNat N))])
  refine X4.step (fun hA hx hq t_ k_ => XS.sipush hA hx rfl (hb hq d8_28) k_) ?_
  show OFin _ _ _ _ _ _ T4 (mkF m 31 #[.val (.ref a1), .unset, .unset] [(.int (255 : Int32)), (.int (Int32.ofNat N))])
  refine X4.step (fun hA hx hq t_ k_ => XS.icmpYes hA hx rfl (pc0 := 31) (pc' := 51) rfl (hb hq d8_31) rfl (flt ((by rw [Int32.lt_iff_toInt_lt, own_i N (by omega)]; have : (255 : Int32).toInt = 255 := (by decide); omega))).2.2.2 (by decide) (by decide) k_) ?_
  show OFin _ _ _ _ _ _ T4 (mkF m 51 #[.val (.ref a1), .unset, .unset] [])
  refine X4.step (fun hA hx hq t_ k_ => XS.iconst hA hx rfl (hb hq d8_51) k_) ?_
  show OFin _ _ _ _ _ _ T4 (mkF m 52 #[.val (.ref a1), .unset, .unset] [(.int (0 : Int32))])
  refine X4.step (fun hA hx hq t_ k_ => XS.istoreN hA hx rfl (hb hq d8_52) rfl (l' := #[.val (.ref a1), .val (.int (0 : Int32)), .unset]) rfl k_) ?_
  show OFin _ _ _ _ _ _ T4 (mkF m 53 #[.val (.ref a1), .val (.int (0 : Int32)), .unset] [])
  have loop : ∀ (k i : Nat) (T : State) (s2 : Slot), i + k = N → One s2 → OAt n0 Z (⟨"com/example/libidem/libidem/IdempotencyKey", "of", "(Ljava/lang/String;)Lcom/example/libidem/libidem/IdempotencyKey;"⟩ : MethodName) prog_13_method_2_code 3 (some (.object "com/example/libidem/libidem/IdempotencyKey")) p l e ({ frames := 4, cells := 3, slots := 25, locals := 54 } : Room) (s.setVm vm1) m #[(.ref a1)] below meth c T h1 2 24 → OFin n0 p e (fun o t L => CHr Z own_EL s.vm s.heap t.vm t.heap ∧ ReturnedEndW s o t L ({ frames := 4, cells := 3, slots := 25, locals := 54 } : Room).cells ({ frames := 4, cells := 3, slots := 25, locals := 54 } : Room).slots) below (fun v h => ∃ kk, v = some (.ref kk) ∧ Exa Z h kk "com/example/libidem/libidem/IdempotencyKey" ∧ Fld Z h kk "com/example/libidem/libidem/IdempotencyKey" "value" "Ljava/lang/String;" (.ref a1) ∧ OStr Z h a1 t N f ∧ Ext h0 h) T (mkF m 53 #[.val (.ref a1), .val (.int (Int32.ofNat i)), s2] []) := by
    intro k
    induction k with
    | zero =>
      intro i T s2 hik h2 X
      have hiN : i = N := by omega
      refine X.step (fun hA hx hq t_ k_ => XS.iloadN hA hx rfl (hb hq d8_53) rfl k_) ?_
      show OFin _ _ _ _ _ _ T (mkF m 54 #[.val (.ref a1), .val (.int (Int32.ofNat i)), s2] [(.int (Int32.ofNat i))])
      refine X.step (fun hA hx hq t_ k_ => XS.aloadN hA hx rfl (hb hq d8_54) rfl rfl k_) ?_
      show OFin _ _ _ _ _ _ T (mkF m 55 #[.val (.ref a1), .val (.int (Int32.ofNat i)), s2] [(.ref a1), (.int (Int32.ofNat i))])
      refine X.callV (y' := (⟨"java/lang/String", "length", "()I"⟩ : MethodName)) (z' := (⟨"java/lang/String", "length", "()I"⟩ : MethodName)) (hw _ (List.mem_of_getElem? (i := 51) rfl)) (hw _ (List.mem_of_getElem? (i := 52) rfl)) (X.notFace (hw _ (List.mem_of_getElem? (i := 54) rfl)) rfl) (hw _ (List.mem_of_getElem? (i := 54) rfl)) (hw _ (List.mem_of_getElem? (i := 53) rfl)) (hw _ (List.mem_of_getElem? (i := 8) rfl)) (hw _ (List.mem_of_getElem? (i := 55) rfl)) (by decide) S1.1 (argsL := []) (rest := [(.int (Int32.ofNat i))]) (sl2 l Z a0 hw a1 t N f cs h1 n0 S1 (by omega) SS1 hcs) (g := (mkF m 55 #[.val (.ref a1), .val (.int (Int32.ofNat i)), s2] [(.ref a1), (.int (Int32.ofNat i))])) rfl rfl pd_pr_I rfl rfl (W := 1) (by show 2 * 0 + _ ≤ _; exact Nat.le_of_eq rfl) d8_55 (by decide) (by decide) (by decide) (by decide) ?_
      intro v5 T5 h5 X5 q5
      obtain ⟨rfl, rfl⟩ := q5
      show OFin _ _ _ _ _ _ T5 (mkF m 58 #[.val (.ref a1), .val (.int (Int32.ofNat i)), s2] [(.int (Int32.ofNat N)), (.int (Int32.ofNat i))])
      refine X5.step (fun hA hx hq t_ k_ => XS.icmpYes hA hx rfl (pc0 := 58) (pc' := 116) rfl (hb hq d8_58) rfl (flt (fun c => by rw [own_lt32 i N (by omega) (by omega)] at c; omega)).2.1 (by decide) (by decide) k_) ?_
      show OFin _ _ _ _ _ _ T5 (mkF m 116 #[.val (.ref a1), .val (.int (Int32.ofNat i)), s2] [])
      refine X5.newO (hw _ (List.mem_of_getElem? (i := 83) rfl)) (hw _ (List.mem_of_getElem? (i := 84) rfl)) (hw _ (List.mem_of_getElem? (i := 37) rfl)) (g := (mkF m 116 #[.val (.ref a1), .val (.int (Int32.ofNat i)), s2] [])) rfl d8_116 (by decide) (by decide) ?_
      intro T6 h6 b6 gb6 X6 E6 A6 D6
      have B7 := B1.ext E6
      show OFin _ _ _ _ _ _ T6 (mkF m 119 #[.val (.ref a1), .val (.int (Int32.ofNat i)), s2] [(.ref b6)])
      have F0 : Fld Z h6 b6 "com/example/libidem/libidem/IdempotencyKey" "value" "Ljava/lang/String;" .null := D6 (Or.inr (hw _ (List.mem_of_getElem? (i := 90) rfl))) (ty := (.object "java/lang/String")) (by decide)
      refine X6.step (fun hA hx hq t_ k_ => XS.dup hA hx rfl (hb hq d8_119) rfl rfl k_) ?_
      show OFin _ _ _ _ _ _ T6 (mkF m 120 #[.val (.ref a1), .val (.int (Int32.ofNat i)), s2] [(.ref b6), (.ref b6)])
      refine X6.step (fun hA hx hq t_ k_ => XS.aloadN hA hx rfl (hb hq d8_120) rfl rfl k_) ?_
      show OFin _ _ _ _ _ _ T6 (mkF m 121 #[.val (.ref a1), .val (.int (Int32.ofNat i)), s2] [(.ref a1), (.ref b6), (.ref b6)])
      refine X6.callI (y' := (⟨"com/example/libidem/libidem/IdempotencyKey", "<init>", "(Ljava/lang/String;)V"⟩ : MethodName)) rfl (hw _ (List.mem_of_getElem? (i := 85) rfl)) (hw _ (List.mem_of_getElem? (i := 86) rfl)) (hw _ (List.mem_of_getElem? (i := 37) rfl)) (hw _ (List.mem_of_getElem? (i := 87) rfl)) (by decide) (a := b6) (argsL := [(.ref a1)]) (rest := [(.ref b6)]) (rm3 l Z a0 hw b6 a1 h6 n0 F0 A6 (by rw [gb6]; exact Nat.le_trans Z0 E1.1)) (g := (mkF m 121 #[.val (.ref a1), .val (.int (Int32.ofNat i)), s2] [(.ref a1), (.ref b6), (.ref b6)])) rfl rfl pd_pLjava_lang_String_r_V rfl rfl (W := 1) (by show 2 * 0 + _ ≤ _; exact Nat.le_of_eq rfl) d8_121 (by decide) (by decide) (by decide) (by decide) ?_
      intro v8 T8 h8 X8 q8
      obtain ⟨rfl, K8, Ek8, Fk8⟩ := q8
      have B9 := B7.keep K8 (sfS safe_nil sf0)
      show OFin _ _ _ _ _ _ T8 (mkF m 124 #[.val (.ref a1), .val (.int (Int32.ofNat i)), s2] [(.ref b6)])
      have S2 := S1.ext E6
      have na : a1 ≠ b6 := by rw [gb6]; exact Nat.ne_of_lt S1.1.lt
      have nt : t ≠ b6 := by rw [gb6]; exact Nat.ne_of_lt S1.2.2.2.lt
      have XX : Ext h0 h8 := ⟨Nat.le_trans E1.1 (Nat.le_trans E6.1 K8.1), fun x cl q => K8.2.1 x cl (E6.2 x cl (E1.2 x cl q)) (ninS (fun z => by have q1 := (Array.getElem?_eq_some_iff.mp q).1; have q2 := E1.1; rw [z, gb6] at q1; omega) nin0)⟩
      exact X8.retR rfl rfl d8_124 (oW X8 B9 (by decide) (by decide)) (⟨b6, rfl, Ek8, Fk8, S2.keep K8 (ninS na nin0) (ninS nt nin0), XX⟩)
    | succ k ih =>
      intro i T s2 hik h2 X
      have hlt : i < N := by omega
      have hi := hok i
      refine X.step (fun hA hx hq t_ k_ => XS.iloadN hA hx rfl (hb hq d8_53) rfl k_) ?_
      show OFin _ _ _ _ _ _ T (mkF m 54 #[.val (.ref a1), .val (.int (Int32.ofNat i)), s2] [(.int (Int32.ofNat i))])
      refine X.step (fun hA hx hq t_ k_ => XS.aloadN hA hx rfl (hb hq d8_54) rfl rfl k_) ?_
      show OFin _ _ _ _ _ _ T (mkF m 55 #[.val (.ref a1), .val (.int (Int32.ofNat i)), s2] [(.ref a1), (.int (Int32.ofNat i))])
      refine X.callV (y' := (⟨"java/lang/String", "length", "()I"⟩ : MethodName)) (z' := (⟨"java/lang/String", "length", "()I"⟩ : MethodName)) (hw _ (List.mem_of_getElem? (i := 51) rfl)) (hw _ (List.mem_of_getElem? (i := 52) rfl)) (X.notFace (hw _ (List.mem_of_getElem? (i := 54) rfl)) rfl) (hw _ (List.mem_of_getElem? (i := 54) rfl)) (hw _ (List.mem_of_getElem? (i := 53) rfl)) (hw _ (List.mem_of_getElem? (i := 8) rfl)) (hw _ (List.mem_of_getElem? (i := 55) rfl)) (by decide) S1.1 (argsL := []) (rest := [(.int (Int32.ofNat i))]) (sl2 l Z a0 hw a1 t N f cs h1 n0 S1 (by omega) SS1 hcs) (g := (mkF m 55 #[.val (.ref a1), .val (.int (Int32.ofNat i)), s2] [(.ref a1), (.int (Int32.ofNat i))])) rfl rfl pd_pr_I rfl rfl (W := 1) (by show 2 * 0 + _ ≤ _; exact Nat.le_of_eq rfl) d8_55 (by decide) (by decide) (by decide) (by decide) ?_
      intro v10 T10 h10 X10 q10
      obtain ⟨rfl, rfl⟩ := q10
      show OFin _ _ _ _ _ _ T10 (mkF m 58 #[.val (.ref a1), .val (.int (Int32.ofNat i)), s2] [(.int (Int32.ofNat N)), (.int (Int32.ofNat i))])
      refine X10.step (fun hA hx hq t_ k_ => XS.icmpNo hA hx rfl (hb hq d8_58) rfl (tlt ((own_lt32 i N (by omega) (by omega)).mpr hlt)).2.1 k_) ?_
      show OFin _ _ _ _ _ _ T10 (mkF m 61 #[.val (.ref a1), .val (.int (Int32.ofNat i)), s2] [])
      refine X10.step (fun hA hx hq t_ k_ => XS.aloadN hA hx rfl (hb hq d8_61) rfl rfl k_) ?_
      show OFin _ _ _ _ _ _ T10 (mkF m 62 #[.val (.ref a1), .val (.int (Int32.ofNat i)), s2] [(.ref a1)])
      refine X10.step (fun hA hx hq t_ k_ => XS.iloadN hA hx rfl (hb hq d8_62) rfl k_) ?_
      show OFin _ _ _ _ _ _ T10 (mkF m 63 #[.val (.ref a1), .val (.int (Int32.ofNat i)), s2] [(.int (Int32.ofNat i)), (.ref a1)])
      refine X10.callV (y' := (⟨"java/lang/String", "charAt", "(I)C"⟩ : MethodName)) (z' := (⟨"java/lang/String", "charAt", "(I)C"⟩ : MethodName)) (hw _ (List.mem_of_getElem? (i := 61) rfl)) (hw _ (List.mem_of_getElem? (i := 62) rfl)) (X10.notFace (hw _ (List.mem_of_getElem? (i := 64) rfl)) rfl) (hw _ (List.mem_of_getElem? (i := 64) rfl)) (hw _ (List.mem_of_getElem? (i := 63) rfl)) (hw _ (List.mem_of_getElem? (i := 8) rfl)) (hw _ (List.mem_of_getElem? (i := 65) rfl)) (by decide) S1.1 (argsL := [(.int (Int32.ofNat i))]) (rest := []) (sc5 l Z a0 hw a1 t N f i cs vf h1 n0 S1 (by omega) hlt ⟨by have := hi.1; omega, by have := hi.2; omega⟩ SS1 hcs SP1 rf) (g := (mkF m 63 #[.val (.ref a1), .val (.int (Int32.ofNat i)), s2] [(.int (Int32.ofNat i)), (.ref a1)])) rfl rfl pd_pIr_C rfl rfl (W := 0) (by show 2 * 0 + _ ≤ _; exact Nat.le_of_eq rfl) d8_63 (by decide) (by decide) (by decide) (by decide) ?_
      intro v11 T11 h11 X11 q11
      obtain ⟨rfl, rfl⟩ := q11
      show OFin _ _ _ _ _ _ T11 (mkF m 66 #[.val (.ref a1), .val (.int (Int32.ofNat i)), s2] [(.int (f i))])
      refine X11.step (fun hA hx hq t_ k_ => XS.istoreN hA hx rfl (hb hq d8_66) rfl (l' := #[.val (.ref a1), .val (.int (Int32.ofNat i)), .val (.int (f i))]) (own_s2i h2) k_) ?_
      show OFin _ _ _ _ _ _ T11 (mkF m 67 #[.val (.ref a1), .val (.int (Int32.ofNat i)), .val (.int (f i))] [])
      refine X11.step (fun hA hx hq t_ k_ => XS.iloadN hA hx rfl (hb hq d8_67) rfl k_) ?_
      show OFin _ _ _ _ _ _ T11 (mkF m 68 #[.val (.ref a1), .val (.int (Int32.ofNat i)), .val (.int (f i))] [(.int (f i))])
      refine X11.step (fun hA hx hq t_ k_ => XS.bipush hA hx rfl (hb hq d8_68) k_) ?_
      show OFin _ _ _ _ _ _ T11 (mkF m 70 #[.val (.ref a1), .val (.int (Int32.ofNat i)), .val (.int (f i))] [(.int (33 : Int32)), (.int (f i))])
      refine X11.step (fun hA hx hq t_ k_ => XS.icmpNo hA hx rfl (hb hq d8_70) rfl (flt ((by rw [Int32.lt_iff_toInt_lt]; have : (33 : Int32).toInt = 33 := (by decide); have := hi.1; omega))).1 k_) ?_
      show OFin _ _ _ _ _ _ T11 (mkF m 73 #[.val (.ref a1), .val (.int (Int32.ofNat i)), .val (.int (f i))] [])
      refine X11.step (fun hA hx hq t_ k_ => XS.iloadN hA hx rfl (hb hq d8_73) rfl k_) ?_
      show OFin _ _ _ _ _ _ T11 (mkF m 74 #[.val (.ref a1), .val (.int (Int32.ofNat i)), .val (.int (f i))] [(.int (f i))])
      refine X11.step (fun hA hx hq t_ k_ => XS.bipush hA hx rfl (hb hq d8_74) k_) ?_
      show OFin _ _ _ _ _ _ T11 (mkF m 76 #[.val (.ref a1), .val (.int (Int32.ofNat i)), .val (.int (f i))] [(.int (126 : Int32)), (.int (f i))])
      refine X11.step (fun hA hx hq t_ k_ => XS.icmpYes hA hx rfl (pc0 := 76) (pc' := 110) rfl (hb hq d8_76) rfl (flt ((by rw [Int32.lt_iff_toInt_lt]; have : (126 : Int32).toInt = 126 := (by decide); have := hi.2; omega))).2.2.2 (by decide) (by decide) k_) ?_
      show OFin _ _ _ _ _ _ T11 (mkF m 110 #[.val (.ref a1), .val (.int (Int32.ofNat i)), .val (.int (f i))] [])
      refine X11.step (fun hA hx hq t_ k_ => XS.iinc hA hx rfl (hb hq d8_110) rfl (l' := #[.val (.ref a1), .val (.int ((Int32.ofNat i) + (1 : Int32))), .val (.int (f i))]) rfl k_) ?_
      show OFin _ _ _ _ _ _ T11 (mkF m 113 #[.val (.ref a1), .val (.int ((Int32.ofNat i) + (1 : Int32))), .val (.int (f i))] [])
      rw [own_succ i (by omega)]
      show OFin _ _ _ _ _ _ T11 (mkF m 113 #[.val (.ref a1), .val (.int (Int32.ofNat (i + 1))), .val (.int (f i))] [])
      refine X11.step (fun hA hx hq t_ k_ => XS.goto hA hx rfl (pc0 := 113) (pc' := 53) rfl (hb hq d8_113) (by decide) (by decide) k_) ?_
      show OFin _ _ _ _ _ _ T11 (mkF m 53 #[.val (.ref a1), .val (.int (Int32.ofNat (i + 1))), .val (.int (f i))] [])
      exact ih (i + 1) T11 _ (by omega) (One.val rfl) X11
  exact loop N 0 T4 .unset (by omega) One.u X4
theorem pd_pA_Cr_V : parseMethodDescriptor "([C)V" = some ⟨[(.array .char)], none⟩ := by decide +kernel
theorem pd_pLjava_lang_String_r_Lcom_example_libidem_libidem_IdempotencyKey_ : parseMethodDescriptor "(Ljava/lang/String;)Lcom/example/libidem/libidem/IdempotencyKey;" = some ⟨[(.object "java/lang/String")], some (.object "com/example/libidem/libidem/IdempotencyKey")⟩ := by decide +kernel
theorem pd_pr_Ljava_lang_String_ : parseMethodDescriptor "()Ljava/lang/String;" = some ⟨[], some (.object "java/lang/String")⟩ := by decide +kernel
theorem pd_pLjava_lang_Object_r_Z : parseMethodDescriptor "(Ljava/lang/Object;)Z" = some ⟨[(.object "java/lang/Object")], some .boolean⟩ := by decide +kernel
set_option maxRecDepth 65536 in
set_option maxHeartbeats 40000000 in
theorem rm0 (l : Launch) (Z : State) (a0 : Array Value) (hw : ∀ d ∈ tables_1, d.before a0 Z = true) (ws : List Jvm.Cond) (p0 p1 p2 p3 p4 cs : Int32) (vf : Value) (h0 : Heap) (n0 : Nat) (O0 : Old Z n0 h0) (SS : Sta Z Z.heap "java/lang/String" "COMPACT_STRINGS" "Z" (.int cs)) (hcs : ¬ cs = 0) (SP : Sta Z Z.heap "jdk/internal/util/Preconditions" "SIOOBE_FORMATTER" "Ljava/util/function/BiFunction;" vf) (rf : vf.isRef = true) :
    OMeetsW l Z own_EL x ws code maxLocals ret room_1 #[(.int p0), (.int p1), (.int p2), (.int p3), (.int p4)] h0 n0 (fun v h => v = some (.int 1)) := by
  refine o_enterW (Z := Z) (own_EW hw) (plainFor_of_name pn_com_example_libidem_libidem_IdempotencyKeyOfPinLaw) ?_
  intro p e s m below meth c T0 X0 B0
  refine OFin.cast (g' := (mkF m 0 #[.val (.int p0), .val (.int p1), .val (.int p2), .val (.int p3), .val (.int p4), .unset, .unset, .unset, .unset, .unset, .unset, .unset, .unset, .unset] [])) (by first | (simp [entryFrame, mkF, argsToLocals, Value.category, maxLocals]; done) | rfl) ?_
  have Z0 : n0 ≤ h0.size := by rw [← O0.1]; exact O0.2.1
  have hnn := own_nn p0
  refine X0.step (fun hA hx hq t_ k_ => XS.iconst hA hx rfl (hb hq at_0) k_) ?_
  show OFin _ _ _ _ _ _ T0 (mkF m 1 #[.val (.int p0), .val (.int p1), .val (.int p2), .val (.int p3), .val (.int p4), .unset, .unset, .unset, .unset, .unset, .unset, .unset, .unset, .unset] [(.int (1 : Int32))])
  refine X0.step (fun hA hx hq t_ k_ => XS.iloadN hA hx rfl (hb hq at_1) rfl k_) ?_
  show OFin _ _ _ _ _ _ T0 (mkF m 2 #[.val (.int p0), .val (.int p1), .val (.int p2), .val (.int p3), .val (.int p4), .unset, .unset, .unset, .unset, .unset, .unset, .unset, .unset, .unset] [(.int p0), (.int (1 : Int32))])
  refine X0.step (fun hA hx hq t_ k_ => XS.iconst hA hx rfl (hb hq at_2) k_) ?_
  show OFin _ _ _ _ _ _ T0 (mkF m 3 #[.val (.int p0), .val (.int p1), .val (.int p2), .val (.int p3), .val (.int p4), .unset, .unset, .unset, .unset, .unset, .unset, .unset, .unset, .unset] [(.int (3 : Int32)), (.int p0), (.int (1 : Int32))])
  refine X0.step (fun hA hx hq t_ k_ => XS.iand hA hx rfl (hb hq at_3) rfl k_) ?_
  show OFin _ _ _ _ _ _ T0 (mkF m 4 #[.val (.int p0), .val (.int p1), .val (.int p2), .val (.int p3), .val (.int p4), .unset, .unset, .unset, .unset, .unset, .unset, .unset, .unset, .unset] [(.int (p0 &&& (3 : Int32))), (.int (1 : Int32))])
  refine X0.step (fun hA hx hq t_ k_ => XS.iadd hA hx rfl (hb hq at_4) rfl k_) ?_
  show OFin _ _ _ _ _ _ T0 (mkF m 5 #[.val (.int p0), .val (.int p1), .val (.int p2), .val (.int p3), .val (.int p4), .unset, .unset, .unset, .unset, .unset, .unset, .unset, .unset, .unset] [(.int ((1 : Int32) + (p0 &&& (3 : Int32))))])
  generalize (1 : Int32) + (p0 &&& (3 : Int32)) = nn at hnn ⊢
  show OFin _ _ _ _ _ _ T0 (mkF m 5 #[.val (.int p0), .val (.int p1), .val (.int p2), .val (.int p3), .val (.int p4), .unset, .unset, .unset, .unset, .unset, .unset, .unset, .unset, .unset] [(.int nn)])
  refine X0.step (fun hA hx hq t_ k_ => XS.istore hA hx rfl (hb hq at_5) rfl (l' := #[.val (.int p0), .val (.int p1), .val (.int p2), .val (.int p3), .val (.int p4), .val (.int nn), .unset, .unset, .unset, .unset, .unset, .unset, .unset, .unset]) rfl k_) ?_
  show OFin _ _ _ _ _ _ T0 (mkF m 7 #[.val (.int p0), .val (.int p1), .val (.int p2), .val (.int p3), .val (.int p4), .val (.int nn), .unset, .unset, .unset, .unset, .unset, .unset, .unset, .unset] [])
  refine X0.step (fun hA hx hq t_ k_ => XS.iloadN hA hx rfl (hb hq at_7) rfl k_) ?_
  show OFin _ _ _ _ _ _ T0 (mkF m 8 #[.val (.int p0), .val (.int p1), .val (.int p2), .val (.int p3), .val (.int p4), .val (.int nn), .unset, .unset, .unset, .unset, .unset, .unset, .unset, .unset] [(.int p1)])
  refine X0.callS (y' := (⟨"com/example/libidem/libidem/IdempotencyKeyOfPinLaw", "visible", "(I)C"⟩ : MethodName)) (hw _ (List.mem_of_getElem? (i := 0) rfl)) (hw _ (List.mem_of_getElem? (i := 1) rfl)) (hw _ (List.mem_of_getElem? (i := 2) rfl)) (hw _ (List.mem_of_getElem? (i := 3) rfl)) (by decide) (argsL := [(.int p1)]) (rest := []) (rm1 l Z a0 hw p1 h0 n0) (g := (mkF m 8 #[.val (.int p0), .val (.int p1), .val (.int p2), .val (.int p3), .val (.int p4), .val (.int nn), .unset, .unset, .unset, .unset, .unset, .unset, .unset, .unset] [(.int p1)])) rfl rfl pd_pIr_C rfl rfl (W := 0) (by show 2 * 0 + _ ≤ _; exact Nat.le_of_eq rfl) at_8 (by decide) (by decide) (by decide) (by decide) ?_
  intro v1 T1 h1 X1 q1
  obtain ⟨rfl, ca, rfl, okca⟩ := q1
  show OFin _ _ _ _ _ _ T1 (mkF m 11 #[.val (.int p0), .val (.int p1), .val (.int p2), .val (.int p3), .val (.int p4), .val (.int nn), .unset, .unset, .unset, .unset, .unset, .unset, .unset, .unset] [(.int ca)])
  refine X1.step (fun hA hx hq t_ k_ => XS.istore hA hx rfl (hb hq at_11) rfl (l' := #[.val (.int p0), .val (.int p1), .val (.int p2), .val (.int p3), .val (.int p4), .val (.int nn), .val (.int ca), .unset, .unset, .unset, .unset, .unset, .unset, .unset]) rfl k_) ?_
  show OFin _ _ _ _ _ _ T1 (mkF m 13 #[.val (.int p0), .val (.int p1), .val (.int p2), .val (.int p3), .val (.int p4), .val (.int nn), .val (.int ca), .unset, .unset, .unset, .unset, .unset, .unset, .unset] [])
  refine X1.step (fun hA hx hq t_ k_ => XS.iloadN hA hx rfl (hb hq at_13) rfl k_) ?_
  show OFin _ _ _ _ _ _ T1 (mkF m 14 #[.val (.int p0), .val (.int p1), .val (.int p2), .val (.int p3), .val (.int p4), .val (.int nn), .val (.int ca), .unset, .unset, .unset, .unset, .unset, .unset, .unset] [(.int p2)])
  refine X1.callS (y' := (⟨"com/example/libidem/libidem/IdempotencyKeyOfPinLaw", "visible", "(I)C"⟩ : MethodName)) (hw _ (List.mem_of_getElem? (i := 0) rfl)) (hw _ (List.mem_of_getElem? (i := 1) rfl)) (hw _ (List.mem_of_getElem? (i := 2) rfl)) (hw _ (List.mem_of_getElem? (i := 3) rfl)) (by decide) (argsL := [(.int p2)]) (rest := []) (rm1 l Z a0 hw p2 h0 n0) (g := (mkF m 14 #[.val (.int p0), .val (.int p1), .val (.int p2), .val (.int p3), .val (.int p4), .val (.int nn), .val (.int ca), .unset, .unset, .unset, .unset, .unset, .unset, .unset] [(.int p2)])) rfl rfl pd_pIr_C rfl rfl (W := 0) (by show 2 * 0 + _ ≤ _; exact Nat.le_of_eq rfl) at_14 (by decide) (by decide) (by decide) (by decide) ?_
  intro v2 T2 h2 X2 q2
  obtain ⟨rfl, cb, rfl, okcb⟩ := q2
  show OFin _ _ _ _ _ _ T2 (mkF m 17 #[.val (.int p0), .val (.int p1), .val (.int p2), .val (.int p3), .val (.int p4), .val (.int nn), .val (.int ca), .unset, .unset, .unset, .unset, .unset, .unset, .unset] [(.int cb)])
  refine X2.step (fun hA hx hq t_ k_ => XS.istore hA hx rfl (hb hq at_17) rfl (l' := #[.val (.int p0), .val (.int p1), .val (.int p2), .val (.int p3), .val (.int p4), .val (.int nn), .val (.int ca), .val (.int cb), .unset, .unset, .unset, .unset, .unset, .unset]) rfl k_) ?_
  show OFin _ _ _ _ _ _ T2 (mkF m 19 #[.val (.int p0), .val (.int p1), .val (.int p2), .val (.int p3), .val (.int p4), .val (.int nn), .val (.int ca), .val (.int cb), .unset, .unset, .unset, .unset, .unset, .unset] [])
  refine X2.step (fun hA hx hq t_ k_ => XS.iloadN hA hx rfl (hb hq at_19) rfl k_) ?_
  show OFin _ _ _ _ _ _ T2 (mkF m 20 #[.val (.int p0), .val (.int p1), .val (.int p2), .val (.int p3), .val (.int p4), .val (.int nn), .val (.int ca), .val (.int cb), .unset, .unset, .unset, .unset, .unset, .unset] [(.int p3)])
  refine X2.callS (y' := (⟨"com/example/libidem/libidem/IdempotencyKeyOfPinLaw", "visible", "(I)C"⟩ : MethodName)) (hw _ (List.mem_of_getElem? (i := 0) rfl)) (hw _ (List.mem_of_getElem? (i := 1) rfl)) (hw _ (List.mem_of_getElem? (i := 2) rfl)) (hw _ (List.mem_of_getElem? (i := 3) rfl)) (by decide) (argsL := [(.int p3)]) (rest := []) (rm1 l Z a0 hw p3 h0 n0) (g := (mkF m 20 #[.val (.int p0), .val (.int p1), .val (.int p2), .val (.int p3), .val (.int p4), .val (.int nn), .val (.int ca), .val (.int cb), .unset, .unset, .unset, .unset, .unset, .unset] [(.int p3)])) rfl rfl pd_pIr_C rfl rfl (W := 0) (by show 2 * 0 + _ ≤ _; exact Nat.le_of_eq rfl) at_20 (by decide) (by decide) (by decide) (by decide) ?_
  intro v3 T3 h3 X3 q3
  obtain ⟨rfl, cc, rfl, okcc⟩ := q3
  show OFin _ _ _ _ _ _ T3 (mkF m 23 #[.val (.int p0), .val (.int p1), .val (.int p2), .val (.int p3), .val (.int p4), .val (.int nn), .val (.int ca), .val (.int cb), .unset, .unset, .unset, .unset, .unset, .unset] [(.int cc)])
  refine X3.step (fun hA hx hq t_ k_ => XS.istore hA hx rfl (hb hq at_23) rfl (l' := #[.val (.int p0), .val (.int p1), .val (.int p2), .val (.int p3), .val (.int p4), .val (.int nn), .val (.int ca), .val (.int cb), .val (.int cc), .unset, .unset, .unset, .unset, .unset]) rfl k_) ?_
  show OFin _ _ _ _ _ _ T3 (mkF m 25 #[.val (.int p0), .val (.int p1), .val (.int p2), .val (.int p3), .val (.int p4), .val (.int nn), .val (.int ca), .val (.int cb), .val (.int cc), .unset, .unset, .unset, .unset, .unset] [])
  refine X3.step (fun hA hx hq t_ k_ => XS.iload hA hx rfl (hb hq at_25) rfl k_) ?_
  show OFin _ _ _ _ _ _ T3 (mkF m 27 #[.val (.int p0), .val (.int p1), .val (.int p2), .val (.int p3), .val (.int p4), .val (.int nn), .val (.int ca), .val (.int cb), .val (.int cc), .unset, .unset, .unset, .unset, .unset] [(.int p4)])
  refine X3.callS (y' := (⟨"com/example/libidem/libidem/IdempotencyKeyOfPinLaw", "visible", "(I)C"⟩ : MethodName)) (hw _ (List.mem_of_getElem? (i := 0) rfl)) (hw _ (List.mem_of_getElem? (i := 1) rfl)) (hw _ (List.mem_of_getElem? (i := 2) rfl)) (hw _ (List.mem_of_getElem? (i := 3) rfl)) (by decide) (argsL := [(.int p4)]) (rest := []) (rm1 l Z a0 hw p4 h0 n0) (g := (mkF m 27 #[.val (.int p0), .val (.int p1), .val (.int p2), .val (.int p3), .val (.int p4), .val (.int nn), .val (.int ca), .val (.int cb), .val (.int cc), .unset, .unset, .unset, .unset, .unset] [(.int p4)])) rfl rfl pd_pIr_C rfl rfl (W := 0) (by show 2 * 0 + _ ≤ _; exact Nat.le_of_eq rfl) at_27 (by decide) (by decide) (by decide) (by decide) ?_
  intro v4 T4 h4 X4 q4
  obtain ⟨rfl, cd, rfl, okcd⟩ := q4
  show OFin _ _ _ _ _ _ T4 (mkF m 30 #[.val (.int p0), .val (.int p1), .val (.int p2), .val (.int p3), .val (.int p4), .val (.int nn), .val (.int ca), .val (.int cb), .val (.int cc), .unset, .unset, .unset, .unset, .unset] [(.int cd)])
  refine X4.step (fun hA hx hq t_ k_ => XS.istore hA hx rfl (hb hq at_30) rfl (l' := #[.val (.int p0), .val (.int p1), .val (.int p2), .val (.int p3), .val (.int p4), .val (.int nn), .val (.int ca), .val (.int cb), .val (.int cc), .val (.int cd), .unset, .unset, .unset, .unset]) rfl k_) ?_
  show OFin _ _ _ _ _ _ T4 (mkF m 32 #[.val (.int p0), .val (.int p1), .val (.int p2), .val (.int p3), .val (.int p4), .val (.int nn), .val (.int ca), .val (.int cb), .val (.int cc), .val (.int cd), .unset, .unset, .unset, .unset] [])
  refine X4.step (fun hA hx hq t_ k_ => XS.iload hA hx rfl (hb hq at_32) rfl k_) ?_
  show OFin _ _ _ _ _ _ T4 (mkF m 34 #[.val (.int p0), .val (.int p1), .val (.int p2), .val (.int p3), .val (.int p4), .val (.int nn), .val (.int ca), .val (.int cb), .val (.int cc), .val (.int cd), .unset, .unset, .unset, .unset] [(.int nn)])
  refine X4.step (fun hA hx hq t_ k_ => XS.iconst hA hx rfl (hb hq at_34) k_) ?_
  show OFin _ _ _ _ _ _ T4 (mkF m 35 #[.val (.int p0), .val (.int p1), .val (.int p2), .val (.int p3), .val (.int p4), .val (.int nn), .val (.int ca), .val (.int cb), .val (.int cc), .val (.int cd), .unset, .unset, .unset, .unset] [(.int (1 : Int32)), (.int nn)])
  by_cases k1 : nn = (1 : Int32)
  · refine X4.step (fun hA hx hq t_ k_ => XS.icmpNo hA hx rfl (hb hq at_35) rfl (teq (k1)).2 k_) ?_
    show OFin _ _ _ _ _ _ T4 (mkF m 38 #[.val (.int p0), .val (.int p1), .val (.int p2), .val (.int p3), .val (.int p4), .val (.int nn), .val (.int ca), .val (.int cb), .val (.int cc), .val (.int cd), .unset, .unset, .unset, .unset] [])
    subst k1
    show OFin _ _ _ _ _ _ T4 (mkF m 38 #[.val (.int p0), .val (.int p1), .val (.int p2), .val (.int p3), .val (.int p4), .val (.int (1 : Int32)), .val (.int ca), .val (.int cb), .val (.int cc), .val (.int cd), .unset, .unset, .unset, .unset] [])
    refine X4.step (fun hA hx hq t_ k_ => XS.iconst hA hx rfl (hb hq at_38) k_) ?_
    show OFin _ _ _ _ _ _ T4 (mkF m 39 #[.val (.int p0), .val (.int p1), .val (.int p2), .val (.int p3), .val (.int p4), .val (.int (1 : Int32)), .val (.int ca), .val (.int cb), .val (.int cc), .val (.int cd), .unset, .unset, .unset, .unset] [(.int (1 : Int32))])
    refine X4.newP (hw _ (List.mem_of_getElem? (i := 5) rfl)) (g := (mkF m 39 #[.val (.int p0), .val (.int p1), .val (.int p2), .val (.int p3), .val (.int p4), .val (.int (1 : Int32)), .val (.int ca), .val (.int cb), .val (.int cc), .val (.int cd), .unset, .unset, .unset, .unset] [(.int (1 : Int32))])) rfl at_39 rfl (by decide) (cap := 1) (by decide) (by decide) (by decide) (by decide) (ad := "[C") (by first | rfl | decide) ?_
    intro T5 h5 k5 b5 gb5 X5 E5 A5 G5
    have B6 := B0.ext E5
    show OFin _ _ _ _ _ _ T5 (mkF m 41 #[.val (.int p0), .val (.int p1), .val (.int p2), .val (.int p3), .val (.int p4), .val (.int (1 : Int32)), .val (.int ca), .val (.int cb), .val (.int cc), .val (.int cd), .unset, .unset, .unset, .unset] [(.ref b5)])
    have V0 := OArr.new A5
    have hB : n0 ≤ b5 := by rw [gb5]; exact Z0
    refine X5.step (fun hA hx hq t_ k_ => XS.dup hA hx rfl (hb hq at_41) rfl rfl k_) ?_
    show OFin _ _ _ _ _ _ T5 (mkF m 42 #[.val (.int p0), .val (.int p1), .val (.int p2), .val (.int p3), .val (.int p4), .val (.int (1 : Int32)), .val (.int ca), .val (.int cb), .val (.int cc), .val (.int cd), .unset, .unset, .unset, .unset] [(.ref b5), (.ref b5)])
    refine X5.step (fun hA hx hq t_ k_ => XS.iconst hA hx rfl (hb hq at_42) k_) ?_
    show OFin _ _ _ _ _ _ T5 (mkF m 43 #[.val (.int p0), .val (.int p1), .val (.int p2), .val (.int p3), .val (.int p4), .val (.int (1 : Int32)), .val (.int ca), .val (.int cb), .val (.int cc), .val (.int cd), .unset, .unset, .unset, .unset] [(.int (0 : Int32)), (.ref b5), (.ref b5)])
    refine X5.step (fun hA hx hq t_ k_ => XS.iload hA hx rfl (hb hq at_43) rfl k_) ?_
    show OFin _ _ _ _ _ _ T5 (mkF m 45 #[.val (.int p0), .val (.int p1), .val (.int p2), .val (.int p3), .val (.int p4), .val (.int (1 : Int32)), .val (.int ca), .val (.int cb), .val (.int cc), .val (.int cd), .unset, .unset, .unset, .unset] [(.int ca), (.int (0 : Int32)), (.ref b5), (.ref b5)])
    obtain ⟨c0, Ar0, Sr0, Hr0⟩ := id V0
    refine X5.stC Ar0 (by rw [Sr0]; decide) (hB) (g := (mkF m 45 #[.val (.int p0), .val (.int p1), .val (.int p2), .val (.int p3), .val (.int p4), .val (.int (1 : Int32)), .val (.int ca), .val (.int cb), .val (.int cc), .val (.int cd), .unset, .unset, .unset, .unset] [(.int ca), (.int (0 : Int32)), (.ref b5), (.ref b5)])) rfl rfl at_45 ?_
    intro T7 h7 X7 W7
    have B8 := B6.wr W7 safe_nil
    show OFin _ _ _ _ _ _ T7 (mkF m 46 #[.val (.int p0), .val (.int p1), .val (.int p2), .val (.int p3), .val (.int p4), .val (.int (1 : Int32)), .val (.int ca), .val (.int cb), .val (.int cc), .val (.int cd), .unset, .unset, .unset, .unset] [(.ref b5)])
    rw [own_narC _ (by have := okca.1; omega) (by have := okca.2; omega)] at W7
    have V1 := V0.set W7
    have VC : OArr Z h7 b5 .char 1 (fun j => .int ((own_f ca cb cc cd) j)) := V1.congr fun j hj => by
      have hj' : j < 1 := hj
      match j, hj' with
      | 0, _ => rfl
    have E0 := E5
    have Kc : Keep h0 h7 [] := (((Keep.refl h0 []).ext E5).wr W7 (Or.inr (Nat.le_of_eq gb5.symm)))
    refine X7.step (fun hA hx hq t_ k_ => XS.astore hA hx rfl (hb hq at_46) rfl rfl (l' := #[.val (.int p0), .val (.int p1), .val (.int p2), .val (.int p3), .val (.int p4), .val (.int (1 : Int32)), .val (.int ca), .val (.int cb), .val (.int cc), .val (.int cd), .val (.ref b5), .unset, .unset, .unset]) rfl k_) ?_
    show OFin _ _ _ _ _ _ T7 (mkF m 48 #[.val (.int p0), .val (.int p1), .val (.int p2), .val (.int p3), .val (.int p4), .val (.int (1 : Int32)), .val (.int ca), .val (.int cb), .val (.int cc), .val (.int cd), .val (.ref b5), .unset, .unset, .unset] [])
    refine X7.step (fun hA hx hq t_ k_ => XS.goto hA hx rfl (pc0 := 48) (pc' := 129) rfl (hb hq at_48) (by decide) (by decide) k_) ?_
    show OFin _ _ _ _ _ _ T7 (mkF m 129 #[.val (.int p0), .val (.int p1), .val (.int p2), .val (.int p3), .val (.int p4), .val (.int (1 : Int32)), .val (.int ca), .val (.int cb), .val (.int cc), .val (.int cd), .val (.ref b5), .unset, .unset, .unset] [])
    refine X7.newO (hw _ (List.mem_of_getElem? (i := 6) rfl)) (hw _ (List.mem_of_getElem? (i := 7) rfl)) (hw _ (List.mem_of_getElem? (i := 8) rfl)) (g := (mkF m 129 #[.val (.int p0), .val (.int p1), .val (.int p2), .val (.int p3), .val (.int p4), .val (.int (1 : Int32)), .val (.int ca), .val (.int cb), .val (.int cc), .val (.int cd), .val (.ref b5), .unset, .unset, .unset] [])) rfl at_129 (by decide) (by decide) ?_
    intro T9 h9 b9 gb9 X9 E9 A9 D9
    have B10 := B8.ext E9
    show OFin _ _ _ _ _ _ T9 (mkF m 132 #[.val (.int p0), .val (.int p1), .val (.int p2), .val (.int p3), .val (.int p4), .val (.int (1 : Int32)), .val (.int ca), .val (.int cb), .val (.int cc), .val (.int cd), .val (.ref b5), .unset, .unset, .unset] [(.ref b9)])
    have O1 := (O0.keep Kc all0).ext E9
    have Fv : Fld Z h9 b9 "java/lang/String" "value" "[B" .null := D9 (Or.inr (hw _ (List.mem_of_getElem? (i := 34) rfl))) (ty := (.array .byte)) (by decide)
    have Fc : Fld Z h9 b9 "java/lang/String" "coder" "B" (.int (0 : Int32)) := D9 (Or.inr (hw _ (List.mem_of_getElem? (i := 32) rfl))) (ty := .byte) (by decide)
    have hm : n0 ≤ b9 := by rw [gb9]; exact Nat.le_trans Z0 Kc.1
    refine X9.step (fun hA hx hq t_ k_ => XS.dup hA hx rfl (hb hq at_132) rfl rfl k_) ?_
    show OFin _ _ _ _ _ _ T9 (mkF m 133 #[.val (.int p0), .val (.int p1), .val (.int p2), .val (.int p3), .val (.int p4), .val (.int (1 : Int32)), .val (.int ca), .val (.int cb), .val (.int cc), .val (.int cd), .val (.ref b5), .unset, .unset, .unset] [(.ref b9), (.ref b9)])
    refine X9.step (fun hA hx hq t_ k_ => XS.aload hA hx rfl (hb hq at_133) rfl rfl k_) ?_
    show OFin _ _ _ _ _ _ T9 (mkF m 135 #[.val (.int p0), .val (.int p1), .val (.int p2), .val (.int p3), .val (.int p4), .val (.int (1 : Int32)), .val (.int ca), .val (.int cb), .val (.int cc), .val (.int cd), .val (.ref b5), .unset, .unset, .unset] [(.ref b5), (.ref b9), (.ref b9)])
    refine X9.callI (y' := (⟨"java/lang/String", "<init>", "([C)V"⟩ : MethodName)) rfl (hw _ (List.mem_of_getElem? (i := 9) rfl)) (hw _ (List.mem_of_getElem? (i := 10) rfl)) (hw _ (List.mem_of_getElem? (i := 8) rfl)) (hw _ (List.mem_of_getElem? (i := 11) rfl)) (by decide) (a := b9) (argsL := [(.ref b5)]) (rest := [(.ref b9)]) (sm5 l Z a0 hw b9 b5 1 (own_f ca cb cc cd) cs h9 n0 Fv Fc A9 hm (VC.ext E9) (by decide) (by decide) (fun j _ => ⟨by have := ((own_fok okca okcb okcc okcd) j).1; omega, by have := ((own_fok okca okcb okcc okcd) j).2; omega⟩) (Nat.le_trans Z0 (Nat.le_trans Kc.1 E9.1)) (SS.ext O1.2) hcs) (g := (mkF m 135 #[.val (.int p0), .val (.int p1), .val (.int p2), .val (.int p3), .val (.int p4), .val (.int (1 : Int32)), .val (.int ca), .val (.int cb), .val (.int cc), .val (.int cd), .val (.ref b5), .unset, .unset, .unset] [(.ref b5), (.ref b9), (.ref b9)])) rfl rfl pd_pA_Cr_V rfl rfl (W := 1) (by show 2 * 0 + _ ≤ _; exact Nat.le_of_eq rfl) at_135 (by decide) (by decide) (by decide) (by decide) ?_
    intro v11 T11 h11 X11 q11
    obtain ⟨rfl, K11, t, S11, lt11⟩ := q11
    have B12 := B10.keep K11 (sfS safe_nil sf0)
    show OFin _ _ _ _ _ _ T11 (mkF m 138 #[.val (.int p0), .val (.int p1), .val (.int p2), .val (.int p3), .val (.int p4), .val (.int (1 : Int32)), .val (.int ca), .val (.int cb), .val (.int cc), .val (.int cd), .val (.ref b5), .unset, .unset, .unset] [(.ref b9)])
    have O2 := O1.keep K11 (allS hm all0)
    refine X11.step (fun hA hx hq t_ k_ => XS.astore hA hx rfl (hb hq at_138) rfl rfl (l' := #[.val (.int p0), .val (.int p1), .val (.int p2), .val (.int p3), .val (.int p4), .val (.int (1 : Int32)), .val (.int ca), .val (.int cb), .val (.int cc), .val (.int cd), .val (.ref b5), .val (.ref b9), .unset, .unset]) rfl k_) ?_
    show OFin _ _ _ _ _ _ T11 (mkF m 140 #[.val (.int p0), .val (.int p1), .val (.int p2), .val (.int p3), .val (.int p4), .val (.int (1 : Int32)), .val (.int ca), .val (.int cb), .val (.int cc), .val (.int cd), .val (.ref b5), .val (.ref b9), .unset, .unset] [])
    refine X11.step (fun hA hx hq t_ k_ => XS.aload hA hx rfl (hb hq at_140) rfl rfl k_) ?_
    show OFin _ _ _ _ _ _ T11 (mkF m 142 #[.val (.int p0), .val (.int p1), .val (.int p2), .val (.int p3), .val (.int p4), .val (.int (1 : Int32)), .val (.int ca), .val (.int cb), .val (.int cc), .val (.int cd), .val (.ref b5), .val (.ref b9), .unset, .unset] [(.ref b9)])
    refine X11.callSW B12 (y' := (⟨"com/example/libidem/libidem/IdempotencyKey", "of", "(Ljava/lang/String;)Lcom/example/libidem/libidem/IdempotencyKey;"⟩ : MethodName)) (hw _ (List.mem_of_getElem? (i := 35) rfl)) (hw _ (List.mem_of_getElem? (i := 36) rfl)) (hw _ (List.mem_of_getElem? (i := 37) rfl)) (hw _ (List.mem_of_getElem? (i := 38) rfl)) (by decide) (argsL := [(.ref b9)]) (rest := []) (rm5 l Z a0 hw b9 t 1 (own_f ca cb cc cd) cs vf h11 n0 S11 (by decide) (by decide) (fun j => (own_fok okca okcb okcc okcd) j) (SS.ext O2.2) hcs (SP.ext O2.2) rf (Nat.le_trans (Nat.le_of_eq O2.1.symm) O2.2.1)) (g := (mkF m 142 #[.val (.int p0), .val (.int p1), .val (.int p2), .val (.int p3), .val (.int p4), .val (.int (1 : Int32)), .val (.int ca), .val (.int cb), .val (.int cc), .val (.int cd), .val (.ref b5), .val (.ref b9), .unset, .unset] [(.ref b9)])) rfl rfl pd_pLjava_lang_String_r_Lcom_example_libidem_libidem_IdempotencyKey_ rfl rfl (W := 0) (by show 2 * 0 + _ ≤ _; exact Nat.le_of_eq rfl) at_142 (by decide) (by decide) (by decide) (by decide) ?_
    intro v13 T13 h13 vm13 X13 B13 G13 Sf13 q13
    obtain ⟨kk, rfl, Ek, Fk, S13, XX13⟩ := q13
    show OFin _ _ _ _ _ _ T13 (mkF m 145 #[.val (.int p0), .val (.int p1), .val (.int p2), .val (.int p3), .val (.int p4), .val (.int (1 : Int32)), .val (.int ca), .val (.int cb), .val (.int cc), .val (.int cd), .val (.ref b5), .val (.ref b9), .unset, .unset] [(.ref kk)])
    have O3 := O2.ext XX13
    refine X13.step (fun hA hx hq t_ k_ => XS.astore hA hx rfl (hb hq at_145) rfl rfl (l' := #[.val (.int p0), .val (.int p1), .val (.int p2), .val (.int p3), .val (.int p4), .val (.int (1 : Int32)), .val (.int ca), .val (.int cb), .val (.int cc), .val (.int cd), .val (.ref b5), .val (.ref b9), .val (.ref kk), .unset]) rfl k_) ?_
    show OFin _ _ _ _ _ _ T13 (mkF m 147 #[.val (.int p0), .val (.int p1), .val (.int p2), .val (.int p3), .val (.int p4), .val (.int (1 : Int32)), .val (.int ca), .val (.int cb), .val (.int cc), .val (.int cd), .val (.ref b5), .val (.ref b9), .val (.ref kk), .unset] [])
    refine X13.step (fun hA hx hq t_ k_ => XS.aload hA hx rfl (hb hq at_147) rfl rfl k_) ?_
    show OFin _ _ _ _ _ _ T13 (mkF m 149 #[.val (.int p0), .val (.int p1), .val (.int p2), .val (.int p3), .val (.int p4), .val (.int (1 : Int32)), .val (.int ca), .val (.int cb), .val (.int cc), .val (.int cd), .val (.ref b5), .val (.ref b9), .val (.ref kk), .unset] [(.ref kk)])
    refine X13.callV (y' := (⟨"com/example/libidem/libidem/IdempotencyKey", "value", "()Ljava/lang/String;"⟩ : MethodName)) (z' := (⟨"com/example/libidem/libidem/IdempotencyKey", "value", "()Ljava/lang/String;"⟩ : MethodName)) (hw _ (List.mem_of_getElem? (i := 91) rfl)) (hw _ (List.mem_of_getElem? (i := 92) rfl)) (X13.notFace (hw _ (List.mem_of_getElem? (i := 94) rfl)) rfl) (hw _ (List.mem_of_getElem? (i := 94) rfl)) (hw _ (List.mem_of_getElem? (i := 93) rfl)) (hw _ (List.mem_of_getElem? (i := 37) rfl)) (hw _ (List.mem_of_getElem? (i := 95) rfl)) (by decide) Ek (argsL := []) (rest := []) (rm4 l Z a0 hw kk b9 h13 n0 Fk) (g := (mkF m 149 #[.val (.int p0), .val (.int p1), .val (.int p2), .val (.int p3), .val (.int p4), .val (.int (1 : Int32)), .val (.int ca), .val (.int cb), .val (.int cc), .val (.int cd), .val (.ref b5), .val (.ref b9), .val (.ref kk), .unset] [(.ref kk)])) rfl rfl pd_pr_Ljava_lang_String_ rfl rfl (W := 0) (by show 2 * 0 + _ ≤ _; exact Nat.le_of_eq rfl) at_149 (by decide) (by decide) (by decide) (by decide) ?_
    intro v14 T14 h14 X14 q14
    obtain ⟨rfl, rfl⟩ := q14
    show OFin _ _ _ _ _ _ T14 (mkF m 152 #[.val (.int p0), .val (.int p1), .val (.int p2), .val (.int p3), .val (.int p4), .val (.int (1 : Int32)), .val (.int ca), .val (.int cb), .val (.int cc), .val (.int cd), .val (.ref b5), .val (.ref b9), .val (.ref kk), .unset] [(.ref b9)])
    refine X14.step (fun hA hx hq t_ k_ => XS.astore hA hx rfl (hb hq at_152) rfl rfl (l' := #[.val (.int p0), .val (.int p1), .val (.int p2), .val (.int p3), .val (.int p4), .val (.int (1 : Int32)), .val (.int ca), .val (.int cb), .val (.int cc), .val (.int cd), .val (.ref b5), .val (.ref b9), .val (.ref kk), .val (.ref b9)]) rfl k_) ?_
    show OFin _ _ _ _ _ _ T14 (mkF m 154 #[.val (.int p0), .val (.int p1), .val (.int p2), .val (.int p3), .val (.int p4), .val (.int (1 : Int32)), .val (.int ca), .val (.int cb), .val (.int cc), .val (.int cd), .val (.ref b5), .val (.ref b9), .val (.ref kk), .val (.ref b9)] [])
    refine X14.step (fun hA hx hq t_ k_ => XS.aload hA hx rfl (hb hq at_154) rfl rfl k_) ?_
    show OFin _ _ _ _ _ _ T14 (mkF m 156 #[.val (.int p0), .val (.int p1), .val (.int p2), .val (.int p3), .val (.int p4), .val (.int (1 : Int32)), .val (.int ca), .val (.int cb), .val (.int cc), .val (.int cd), .val (.ref b5), .val (.ref b9), .val (.ref kk), .val (.ref b9)] [(.ref b9)])
    refine X14.step (fun hA hx hq t_ k_ => XS.ifnullNo hA hx rfl (hb hq at_156) rfl k_) ?_
    show OFin _ _ _ _ _ _ T14 (mkF m 159 #[.val (.int p0), .val (.int p1), .val (.int p2), .val (.int p3), .val (.int p4), .val (.int (1 : Int32)), .val (.int ca), .val (.int cb), .val (.int cc), .val (.int cd), .val (.ref b5), .val (.ref b9), .val (.ref kk), .val (.ref b9)] [])
    refine X14.step (fun hA hx hq t_ k_ => XS.aload hA hx rfl (hb hq at_159) rfl rfl k_) ?_
    show OFin _ _ _ _ _ _ T14 (mkF m 161 #[.val (.int p0), .val (.int p1), .val (.int p2), .val (.int p3), .val (.int p4), .val (.int (1 : Int32)), .val (.int ca), .val (.int cb), .val (.int cc), .val (.int cd), .val (.ref b5), .val (.ref b9), .val (.ref kk), .val (.ref b9)] [(.ref b9)])
    refine X14.callV (y' := (⟨"java/lang/String", "length", "()I"⟩ : MethodName)) (z' := (⟨"java/lang/String", "length", "()I"⟩ : MethodName)) (hw _ (List.mem_of_getElem? (i := 96) rfl)) (hw _ (List.mem_of_getElem? (i := 52) rfl)) (X14.notFace (hw _ (List.mem_of_getElem? (i := 54) rfl)) rfl) (hw _ (List.mem_of_getElem? (i := 54) rfl)) (hw _ (List.mem_of_getElem? (i := 53) rfl)) (hw _ (List.mem_of_getElem? (i := 8) rfl)) (hw _ (List.mem_of_getElem? (i := 55) rfl)) (by decide) S13.1 (argsL := []) (rest := []) (sl2 l Z a0 hw b9 t 1 (own_f ca cb cc cd) cs h13 n0 S13 (by decide) (SS.ext O3.2) hcs) (g := (mkF m 161 #[.val (.int p0), .val (.int p1), .val (.int p2), .val (.int p3), .val (.int p4), .val (.int (1 : Int32)), .val (.int ca), .val (.int cb), .val (.int cc), .val (.int cd), .val (.ref b5), .val (.ref b9), .val (.ref kk), .val (.ref b9)] [(.ref b9)])) rfl rfl pd_pr_I rfl rfl (W := 0) (by show 2 * 0 + _ ≤ _; exact Nat.le_of_eq rfl) at_161 (by decide) (by decide) (by decide) (by decide) ?_
    intro v15 T15 h15 X15 q15
    obtain ⟨rfl, rfl⟩ := q15
    show OFin _ _ _ _ _ _ T15 (mkF m 164 #[.val (.int p0), .val (.int p1), .val (.int p2), .val (.int p3), .val (.int p4), .val (.int (1 : Int32)), .val (.int ca), .val (.int cb), .val (.int cc), .val (.int cd), .val (.ref b5), .val (.ref b9), .val (.ref kk), .val (.ref b9)] [(.int (Int32.ofNat 1))])
    refine X15.step (fun hA hx hq t_ k_ => XS.iload hA hx rfl (hb hq at_164) rfl k_) ?_
    show OFin _ _ _ _ _ _ T15 (mkF m 166 #[.val (.int p0), .val (.int p1), .val (.int p2), .val (.int p3), .val (.int p4), .val (.int (1 : Int32)), .val (.int ca), .val (.int cb), .val (.int cc), .val (.int cd), .val (.ref b5), .val (.ref b9), .val (.ref kk), .val (.ref b9)] [(.int (1 : Int32)), (.int (Int32.ofNat 1))])
    refine X15.step (fun hA hx hq t_ k_ => XS.icmpYes hA hx rfl (pc0 := 166) (pc' := 171) rfl (hb hq at_166) rfl (teq ((by decide))).1 (by decide) (by decide) k_) ?_
    show OFin _ _ _ _ _ _ T15 (mkF m 171 #[.val (.int p0), .val (.int p1), .val (.int p2), .val (.int p3), .val (.int p4), .val (.int (1 : Int32)), .val (.int ca), .val (.int cb), .val (.int cc), .val (.int cd), .val (.ref b5), .val (.ref b9), .val (.ref kk), .val (.ref b9)] [])
    refine X15.step (fun hA hx hq t_ k_ => XS.aload hA hx rfl (hb hq at_171) rfl rfl k_) ?_
    show OFin _ _ _ _ _ _ T15 (mkF m 173 #[.val (.int p0), .val (.int p1), .val (.int p2), .val (.int p3), .val (.int p4), .val (.int (1 : Int32)), .val (.int ca), .val (.int cb), .val (.int cc), .val (.int cd), .val (.ref b5), .val (.ref b9), .val (.ref kk), .val (.ref b9)] [(.ref b9)])
    refine X15.step (fun hA hx hq t_ k_ => XS.iconst hA hx rfl (hb hq at_173) k_) ?_
    show OFin _ _ _ _ _ _ T15 (mkF m 174 #[.val (.int p0), .val (.int p1), .val (.int p2), .val (.int p3), .val (.int p4), .val (.int (1 : Int32)), .val (.int ca), .val (.int cb), .val (.int cc), .val (.int cd), .val (.ref b5), .val (.ref b9), .val (.ref kk), .val (.ref b9)] [(.int (0 : Int32)), (.ref b9)])
    refine X15.callV (y' := (⟨"java/lang/String", "charAt", "(I)C"⟩ : MethodName)) (z' := (⟨"java/lang/String", "charAt", "(I)C"⟩ : MethodName)) (hw _ (List.mem_of_getElem? (i := 97) rfl)) (hw _ (List.mem_of_getElem? (i := 62) rfl)) (X15.notFace (hw _ (List.mem_of_getElem? (i := 64) rfl)) rfl) (hw _ (List.mem_of_getElem? (i := 64) rfl)) (hw _ (List.mem_of_getElem? (i := 63) rfl)) (hw _ (List.mem_of_getElem? (i := 8) rfl)) (hw _ (List.mem_of_getElem? (i := 65) rfl)) (by decide) S13.1 (argsL := [(.int (0 : Int32))]) (rest := []) (sc5 l Z a0 hw b9 t 1 (own_f ca cb cc cd) 0 cs vf h13 n0 S13 (by decide) (by decide) ⟨by have := ((own_fok okca okcb okcc okcd) 0).1; omega, by have := ((own_fok okca okcb okcc okcd) 0).2; omega⟩ (SS.ext O3.2) hcs (SP.ext O3.2) rf) (g := (mkF m 174 #[.val (.int p0), .val (.int p1), .val (.int p2), .val (.int p3), .val (.int p4), .val (.int (1 : Int32)), .val (.int ca), .val (.int cb), .val (.int cc), .val (.int cd), .val (.ref b5), .val (.ref b9), .val (.ref kk), .val (.ref b9)] [(.int (0 : Int32)), (.ref b9)])) rfl rfl pd_pIr_C rfl rfl (W := 0) (by show 2 * 0 + _ ≤ _; exact Nat.le_of_eq rfl) at_174 (by decide) (by decide) (by decide) (by decide) ?_
    intro v16 T16 h16 X16 q16
    obtain ⟨rfl, rfl⟩ := q16
    show OFin _ _ _ _ _ _ T16 (mkF m 177 #[.val (.int p0), .val (.int p1), .val (.int p2), .val (.int p3), .val (.int p4), .val (.int (1 : Int32)), .val (.int ca), .val (.int cb), .val (.int cc), .val (.int cd), .val (.ref b5), .val (.ref b9), .val (.ref kk), .val (.ref b9)] [(.int ((own_f ca cb cc cd) 0))])
    refine X16.step (fun hA hx hq t_ k_ => XS.iload hA hx rfl (hb hq at_177) rfl k_) ?_
    show OFin _ _ _ _ _ _ T16 (mkF m 179 #[.val (.int p0), .val (.int p1), .val (.int p2), .val (.int p3), .val (.int p4), .val (.int (1 : Int32)), .val (.int ca), .val (.int cb), .val (.int cc), .val (.int cd), .val (.ref b5), .val (.ref b9), .val (.ref kk), .val (.ref b9)] [(.int ca), (.int ((own_f ca cb cc cd) 0))])
    refine X16.step (fun hA hx hq t_ k_ => XS.icmpYes hA hx rfl (pc0 := 179) (pc' := 184) rfl (hb hq at_179) rfl (teq ((rfl : (own_f ca cb cc cd) 0 = ca))).1 (by decide) (by decide) k_) ?_
    show OFin _ _ _ _ _ _ T16 (mkF m 184 #[.val (.int p0), .val (.int p1), .val (.int p2), .val (.int p3), .val (.int p4), .val (.int (1 : Int32)), .val (.int ca), .val (.int cb), .val (.int cc), .val (.int cd), .val (.ref b5), .val (.ref b9), .val (.ref kk), .val (.ref b9)] [])
    refine X16.step (fun hA hx hq t_ k_ => XS.iload hA hx rfl (hb hq at_184) rfl k_) ?_
    show OFin _ _ _ _ _ _ T16 (mkF m 186 #[.val (.int p0), .val (.int p1), .val (.int p2), .val (.int p3), .val (.int p4), .val (.int (1 : Int32)), .val (.int ca), .val (.int cb), .val (.int cc), .val (.int cd), .val (.ref b5), .val (.ref b9), .val (.ref kk), .val (.ref b9)] [(.int (1 : Int32))])
    refine X16.step (fun hA hx hq t_ k_ => XS.iconst hA hx rfl (hb hq at_186) k_) ?_
    show OFin _ _ _ _ _ _ T16 (mkF m 187 #[.val (.int p0), .val (.int p1), .val (.int p2), .val (.int p3), .val (.int p4), .val (.int (1 : Int32)), .val (.int ca), .val (.int cb), .val (.int cc), .val (.int cd), .val (.ref b5), .val (.ref b9), .val (.ref kk), .val (.ref b9)] [(.int (2 : Int32)), (.int (1 : Int32))])
    refine X16.step (fun hA hx hq t_ k_ => XS.icmpYes hA hx rfl (pc0 := 187) (pc' := 203) rfl (hb hq at_187) rfl (tlt ((by decide))).1 (by decide) (by decide) k_) ?_
    show OFin _ _ _ _ _ _ T16 (mkF m 203 #[.val (.int p0), .val (.int p1), .val (.int p2), .val (.int p3), .val (.int p4), .val (.int (1 : Int32)), .val (.int ca), .val (.int cb), .val (.int cc), .val (.int cd), .val (.ref b5), .val (.ref b9), .val (.ref kk), .val (.ref b9)] [])
    refine X16.step (fun hA hx hq t_ k_ => XS.iload hA hx rfl (hb hq at_203) rfl k_) ?_
    show OFin _ _ _ _ _ _ T16 (mkF m 205 #[.val (.int p0), .val (.int p1), .val (.int p2), .val (.int p3), .val (.int p4), .val (.int (1 : Int32)), .val (.int ca), .val (.int cb), .val (.int cc), .val (.int cd), .val (.ref b5), .val (.ref b9), .val (.ref kk), .val (.ref b9)] [(.int (1 : Int32))])
    refine X16.step (fun hA hx hq t_ k_ => XS.iconst hA hx rfl (hb hq at_205) k_) ?_
    show OFin _ _ _ _ _ _ T16 (mkF m 206 #[.val (.int p0), .val (.int p1), .val (.int p2), .val (.int p3), .val (.int p4), .val (.int (1 : Int32)), .val (.int ca), .val (.int cb), .val (.int cc), .val (.int cd), .val (.ref b5), .val (.ref b9), .val (.ref kk), .val (.ref b9)] [(.int (3 : Int32)), (.int (1 : Int32))])
    refine X16.step (fun hA hx hq t_ k_ => XS.icmpYes hA hx rfl (pc0 := 206) (pc' := 222) rfl (hb hq at_206) rfl (tlt ((by decide))).1 (by decide) (by decide) k_) ?_
    show OFin _ _ _ _ _ _ T16 (mkF m 222 #[.val (.int p0), .val (.int p1), .val (.int p2), .val (.int p3), .val (.int p4), .val (.int (1 : Int32)), .val (.int ca), .val (.int cb), .val (.int cc), .val (.int cd), .val (.ref b5), .val (.ref b9), .val (.ref kk), .val (.ref b9)] [])
    refine X16.step (fun hA hx hq t_ k_ => XS.iload hA hx rfl (hb hq at_222) rfl k_) ?_
    show OFin _ _ _ _ _ _ T16 (mkF m 224 #[.val (.int p0), .val (.int p1), .val (.int p2), .val (.int p3), .val (.int p4), .val (.int (1 : Int32)), .val (.int ca), .val (.int cb), .val (.int cc), .val (.int cd), .val (.ref b5), .val (.ref b9), .val (.ref kk), .val (.ref b9)] [(.int (1 : Int32))])
    refine X16.step (fun hA hx hq t_ k_ => XS.iconst hA hx rfl (hb hq at_224) k_) ?_
    show OFin _ _ _ _ _ _ T16 (mkF m 225 #[.val (.int p0), .val (.int p1), .val (.int p2), .val (.int p3), .val (.int p4), .val (.int (1 : Int32)), .val (.int ca), .val (.int cb), .val (.int cc), .val (.int cd), .val (.ref b5), .val (.ref b9), .val (.ref kk), .val (.ref b9)] [(.int (4 : Int32)), (.int (1 : Int32))])
    refine X16.step (fun hA hx hq t_ k_ => XS.icmpYes hA hx rfl (pc0 := 225) (pc' := 241) rfl (hb hq at_225) rfl (tlt ((by decide))).1 (by decide) (by decide) k_) ?_
    show OFin _ _ _ _ _ _ T16 (mkF m 241 #[.val (.int p0), .val (.int p1), .val (.int p2), .val (.int p3), .val (.int p4), .val (.int (1 : Int32)), .val (.int ca), .val (.int cb), .val (.int cc), .val (.int cd), .val (.ref b5), .val (.ref b9), .val (.ref kk), .val (.ref b9)] [])
    refine X16.step (fun hA hx hq t_ k_ => XS.aload hA hx rfl (hb hq at_241) rfl rfl k_) ?_
    show OFin _ _ _ _ _ _ T16 (mkF m 243 #[.val (.int p0), .val (.int p1), .val (.int p2), .val (.int p3), .val (.int p4), .val (.int (1 : Int32)), .val (.int ca), .val (.int cb), .val (.int cc), .val (.int cd), .val (.ref b5), .val (.ref b9), .val (.ref kk), .val (.ref b9)] [(.ref b9)])
    refine X16.step (fun hA hx hq t_ k_ => XS.aload hA hx rfl (hb hq at_243) rfl rfl k_) ?_
    show OFin _ _ _ _ _ _ T16 (mkF m 245 #[.val (.int p0), .val (.int p1), .val (.int p2), .val (.int p3), .val (.int p4), .val (.int (1 : Int32)), .val (.int ca), .val (.int cb), .val (.int cc), .val (.int cd), .val (.ref b5), .val (.ref b9), .val (.ref kk), .val (.ref b9)] [(.ref b9), (.ref b9)])
    refine X16.callV (y' := (⟨"java/lang/String", "equals", "(Ljava/lang/Object;)Z"⟩ : MethodName)) (z' := (⟨"java/lang/String", "equals", "(Ljava/lang/Object;)Z"⟩ : MethodName)) (hw _ (List.mem_of_getElem? (i := 98) rfl)) (hw _ (List.mem_of_getElem? (i := 99) rfl)) (X16.notFace (hw _ (List.mem_of_getElem? (i := 101) rfl)) rfl) (hw _ (List.mem_of_getElem? (i := 101) rfl)) (hw _ (List.mem_of_getElem? (i := 100) rfl)) (hw _ (List.mem_of_getElem? (i := 8) rfl)) (hw _ (List.mem_of_getElem? (i := 102) rfl)) (by decide) S13.1 (argsL := [(.ref b9)]) (rest := []) (se1 l Z a0 hw b9 h13 n0) (g := (mkF m 245 #[.val (.int p0), .val (.int p1), .val (.int p2), .val (.int p3), .val (.int p4), .val (.int (1 : Int32)), .val (.int ca), .val (.int cb), .val (.int cc), .val (.int cd), .val (.ref b5), .val (.ref b9), .val (.ref kk), .val (.ref b9)] [(.ref b9), (.ref b9)])) rfl rfl pd_pLjava_lang_Object_r_Z rfl rfl (W := 0) (by show 2 * 0 + _ ≤ _; exact Nat.le_of_eq rfl) at_245 (by decide) (by decide) (by decide) (by decide) ?_
    intro v17 T17 h17 X17 q17
    obtain ⟨rfl, rfl⟩ := q17
    show OFin _ _ _ _ _ _ T17 (mkF m 248 #[.val (.int p0), .val (.int p1), .val (.int p2), .val (.int p3), .val (.int p4), .val (.int (1 : Int32)), .val (.int ca), .val (.int cb), .val (.int cc), .val (.int cd), .val (.ref b5), .val (.ref b9), .val (.ref kk), .val (.ref b9)] [(.int (1 : Int32))])
    exact X17.retN (by simp) at_248 (oW X17 B13 (by decide) (by decide)) (rfl)
  · refine X4.step (fun hA hx hq t_ k_ => XS.icmpYes hA hx rfl (pc0 := 35) (pc' := 51) rfl (hb hq at_35) rfl (feq (k1)).2 (by decide) (by decide) k_) ?_
    show OFin _ _ _ _ _ _ T4 (mkF m 51 #[.val (.int p0), .val (.int p1), .val (.int p2), .val (.int p3), .val (.int p4), .val (.int nn), .val (.int ca), .val (.int cb), .val (.int cc), .val (.int cd), .unset, .unset, .unset, .unset] [])
    refine X4.step (fun hA hx hq t_ k_ => XS.iload hA hx rfl (hb hq at_51) rfl k_) ?_
    show OFin _ _ _ _ _ _ T4 (mkF m 53 #[.val (.int p0), .val (.int p1), .val (.int p2), .val (.int p3), .val (.int p4), .val (.int nn), .val (.int ca), .val (.int cb), .val (.int cc), .val (.int cd), .unset, .unset, .unset, .unset] [(.int nn)])
    refine X4.step (fun hA hx hq t_ k_ => XS.iconst hA hx rfl (hb hq at_53) k_) ?_
    show OFin _ _ _ _ _ _ T4 (mkF m 54 #[.val (.int p0), .val (.int p1), .val (.int p2), .val (.int p3), .val (.int p4), .val (.int nn), .val (.int ca), .val (.int cb), .val (.int cc), .val (.int cd), .unset, .unset, .unset, .unset] [(.int (2 : Int32)), (.int nn)])
    by_cases k2 : nn = (2 : Int32)
    · refine X4.step (fun hA hx hq t_ k_ => XS.icmpNo hA hx rfl (hb hq at_54) rfl (teq (k2)).2 k_) ?_
      show OFin _ _ _ _ _ _ T4 (mkF m 57 #[.val (.int p0), .val (.int p1), .val (.int p2), .val (.int p3), .val (.int p4), .val (.int nn), .val (.int ca), .val (.int cb), .val (.int cc), .val (.int cd), .unset, .unset, .unset, .unset] [])
      subst k2
      show OFin _ _ _ _ _ _ T4 (mkF m 57 #[.val (.int p0), .val (.int p1), .val (.int p2), .val (.int p3), .val (.int p4), .val (.int (2 : Int32)), .val (.int ca), .val (.int cb), .val (.int cc), .val (.int cd), .unset, .unset, .unset, .unset] [])
      refine X4.step (fun hA hx hq t_ k_ => XS.iconst hA hx rfl (hb hq at_57) k_) ?_
      show OFin _ _ _ _ _ _ T4 (mkF m 58 #[.val (.int p0), .val (.int p1), .val (.int p2), .val (.int p3), .val (.int p4), .val (.int (2 : Int32)), .val (.int ca), .val (.int cb), .val (.int cc), .val (.int cd), .unset, .unset, .unset, .unset] [(.int (2 : Int32))])
      refine X4.newP (hw _ (List.mem_of_getElem? (i := 5) rfl)) (g := (mkF m 58 #[.val (.int p0), .val (.int p1), .val (.int p2), .val (.int p3), .val (.int p4), .val (.int (2 : Int32)), .val (.int ca), .val (.int cb), .val (.int cc), .val (.int cd), .unset, .unset, .unset, .unset] [(.int (2 : Int32))])) rfl at_58 rfl (by decide) (cap := 2) (by decide) (by decide) (by decide) (by decide) (ad := "[C") (by first | rfl | decide) ?_
      intro T18 h18 k18 b18 gb18 X18 E18 A18 G18
      have B19 := B0.ext E18
      show OFin _ _ _ _ _ _ T18 (mkF m 60 #[.val (.int p0), .val (.int p1), .val (.int p2), .val (.int p3), .val (.int p4), .val (.int (2 : Int32)), .val (.int ca), .val (.int cb), .val (.int cc), .val (.int cd), .unset, .unset, .unset, .unset] [(.ref b18)])
      have V0 := OArr.new A18
      have hB : n0 ≤ b18 := by rw [gb18]; exact Z0
      refine X18.step (fun hA hx hq t_ k_ => XS.dup hA hx rfl (hb hq at_60) rfl rfl k_) ?_
      show OFin _ _ _ _ _ _ T18 (mkF m 61 #[.val (.int p0), .val (.int p1), .val (.int p2), .val (.int p3), .val (.int p4), .val (.int (2 : Int32)), .val (.int ca), .val (.int cb), .val (.int cc), .val (.int cd), .unset, .unset, .unset, .unset] [(.ref b18), (.ref b18)])
      refine X18.step (fun hA hx hq t_ k_ => XS.iconst hA hx rfl (hb hq at_61) k_) ?_
      show OFin _ _ _ _ _ _ T18 (mkF m 62 #[.val (.int p0), .val (.int p1), .val (.int p2), .val (.int p3), .val (.int p4), .val (.int (2 : Int32)), .val (.int ca), .val (.int cb), .val (.int cc), .val (.int cd), .unset, .unset, .unset, .unset] [(.int (0 : Int32)), (.ref b18), (.ref b18)])
      refine X18.step (fun hA hx hq t_ k_ => XS.iload hA hx rfl (hb hq at_62) rfl k_) ?_
      show OFin _ _ _ _ _ _ T18 (mkF m 64 #[.val (.int p0), .val (.int p1), .val (.int p2), .val (.int p3), .val (.int p4), .val (.int (2 : Int32)), .val (.int ca), .val (.int cb), .val (.int cc), .val (.int cd), .unset, .unset, .unset, .unset] [(.int ca), (.int (0 : Int32)), (.ref b18), (.ref b18)])
      obtain ⟨c0, Ar0, Sr0, Hr0⟩ := id V0
      refine X18.stC Ar0 (by rw [Sr0]; decide) (hB) (g := (mkF m 64 #[.val (.int p0), .val (.int p1), .val (.int p2), .val (.int p3), .val (.int p4), .val (.int (2 : Int32)), .val (.int ca), .val (.int cb), .val (.int cc), .val (.int cd), .unset, .unset, .unset, .unset] [(.int ca), (.int (0 : Int32)), (.ref b18), (.ref b18)])) rfl rfl at_64 ?_
      intro T20 h20 X20 W20
      have B21 := B19.wr W20 safe_nil
      show OFin _ _ _ _ _ _ T20 (mkF m 65 #[.val (.int p0), .val (.int p1), .val (.int p2), .val (.int p3), .val (.int p4), .val (.int (2 : Int32)), .val (.int ca), .val (.int cb), .val (.int cc), .val (.int cd), .unset, .unset, .unset, .unset] [(.ref b18)])
      rw [own_narC _ (by have := okca.1; omega) (by have := okca.2; omega)] at W20
      have V1 := V0.set W20
      refine X20.step (fun hA hx hq t_ k_ => XS.dup hA hx rfl (hb hq at_65) rfl rfl k_) ?_
      show OFin _ _ _ _ _ _ T20 (mkF m 66 #[.val (.int p0), .val (.int p1), .val (.int p2), .val (.int p3), .val (.int p4), .val (.int (2 : Int32)), .val (.int ca), .val (.int cb), .val (.int cc), .val (.int cd), .unset, .unset, .unset, .unset] [(.ref b18), (.ref b18)])
      refine X20.step (fun hA hx hq t_ k_ => XS.iconst hA hx rfl (hb hq at_66) k_) ?_
      show OFin _ _ _ _ _ _ T20 (mkF m 67 #[.val (.int p0), .val (.int p1), .val (.int p2), .val (.int p3), .val (.int p4), .val (.int (2 : Int32)), .val (.int ca), .val (.int cb), .val (.int cc), .val (.int cd), .unset, .unset, .unset, .unset] [(.int (1 : Int32)), (.ref b18), (.ref b18)])
      refine X20.step (fun hA hx hq t_ k_ => XS.iload hA hx rfl (hb hq at_67) rfl k_) ?_
      show OFin _ _ _ _ _ _ T20 (mkF m 69 #[.val (.int p0), .val (.int p1), .val (.int p2), .val (.int p3), .val (.int p4), .val (.int (2 : Int32)), .val (.int ca), .val (.int cb), .val (.int cc), .val (.int cd), .unset, .unset, .unset, .unset] [(.int cb), (.int (1 : Int32)), (.ref b18), (.ref b18)])
      obtain ⟨c1, Ar1, Sr1, Hr1⟩ := id V1
      refine X20.stC Ar1 (by rw [Sr1]; decide) (hB) (g := (mkF m 69 #[.val (.int p0), .val (.int p1), .val (.int p2), .val (.int p3), .val (.int p4), .val (.int (2 : Int32)), .val (.int ca), .val (.int cb), .val (.int cc), .val (.int cd), .unset, .unset, .unset, .unset] [(.int cb), (.int (1 : Int32)), (.ref b18), (.ref b18)])) rfl rfl at_69 ?_
      intro T22 h22 X22 W22
      have B23 := B21.wr W22 safe_nil
      show OFin _ _ _ _ _ _ T22 (mkF m 70 #[.val (.int p0), .val (.int p1), .val (.int p2), .val (.int p3), .val (.int p4), .val (.int (2 : Int32)), .val (.int ca), .val (.int cb), .val (.int cc), .val (.int cd), .unset, .unset, .unset, .unset] [(.ref b18)])
      rw [own_narC _ (by have := okcb.1; omega) (by have := okcb.2; omega)] at W22
      have V2 := V1.set W22
      have VC : OArr Z h22 b18 .char 2 (fun j => .int ((own_f ca cb cc cd) j)) := V2.congr fun j hj => by
        have hj' : j < 2 := hj
        match j, hj' with
        | 0, _ => rfl
        | 1, _ => rfl
      have E0 := E18
      have Kc : Keep h0 h22 [] := ((((Keep.refl h0 []).ext E18).wr W20 (Or.inr (Nat.le_of_eq gb18.symm))).wr W22 (Or.inr (Nat.le_of_eq gb18.symm)))
      refine X22.step (fun hA hx hq t_ k_ => XS.astore hA hx rfl (hb hq at_70) rfl rfl (l' := #[.val (.int p0), .val (.int p1), .val (.int p2), .val (.int p3), .val (.int p4), .val (.int (2 : Int32)), .val (.int ca), .val (.int cb), .val (.int cc), .val (.int cd), .val (.ref b18), .unset, .unset, .unset]) rfl k_) ?_
      show OFin _ _ _ _ _ _ T22 (mkF m 72 #[.val (.int p0), .val (.int p1), .val (.int p2), .val (.int p3), .val (.int p4), .val (.int (2 : Int32)), .val (.int ca), .val (.int cb), .val (.int cc), .val (.int cd), .val (.ref b18), .unset, .unset, .unset] [])
      refine X22.step (fun hA hx hq t_ k_ => XS.goto hA hx rfl (pc0 := 72) (pc' := 129) rfl (hb hq at_72) (by decide) (by decide) k_) ?_
      show OFin _ _ _ _ _ _ T22 (mkF m 129 #[.val (.int p0), .val (.int p1), .val (.int p2), .val (.int p3), .val (.int p4), .val (.int (2 : Int32)), .val (.int ca), .val (.int cb), .val (.int cc), .val (.int cd), .val (.ref b18), .unset, .unset, .unset] [])
      refine X22.newO (hw _ (List.mem_of_getElem? (i := 6) rfl)) (hw _ (List.mem_of_getElem? (i := 7) rfl)) (hw _ (List.mem_of_getElem? (i := 8) rfl)) (g := (mkF m 129 #[.val (.int p0), .val (.int p1), .val (.int p2), .val (.int p3), .val (.int p4), .val (.int (2 : Int32)), .val (.int ca), .val (.int cb), .val (.int cc), .val (.int cd), .val (.ref b18), .unset, .unset, .unset] [])) rfl at_129 (by decide) (by decide) ?_
      intro T24 h24 b24 gb24 X24 E24 A24 D24
      have B25 := B23.ext E24
      show OFin _ _ _ _ _ _ T24 (mkF m 132 #[.val (.int p0), .val (.int p1), .val (.int p2), .val (.int p3), .val (.int p4), .val (.int (2 : Int32)), .val (.int ca), .val (.int cb), .val (.int cc), .val (.int cd), .val (.ref b18), .unset, .unset, .unset] [(.ref b24)])
      have O1 := (O0.keep Kc all0).ext E24
      have Fv : Fld Z h24 b24 "java/lang/String" "value" "[B" .null := D24 (Or.inr (hw _ (List.mem_of_getElem? (i := 34) rfl))) (ty := (.array .byte)) (by decide)
      have Fc : Fld Z h24 b24 "java/lang/String" "coder" "B" (.int (0 : Int32)) := D24 (Or.inr (hw _ (List.mem_of_getElem? (i := 32) rfl))) (ty := .byte) (by decide)
      have hm : n0 ≤ b24 := by rw [gb24]; exact Nat.le_trans Z0 Kc.1
      refine X24.step (fun hA hx hq t_ k_ => XS.dup hA hx rfl (hb hq at_132) rfl rfl k_) ?_
      show OFin _ _ _ _ _ _ T24 (mkF m 133 #[.val (.int p0), .val (.int p1), .val (.int p2), .val (.int p3), .val (.int p4), .val (.int (2 : Int32)), .val (.int ca), .val (.int cb), .val (.int cc), .val (.int cd), .val (.ref b18), .unset, .unset, .unset] [(.ref b24), (.ref b24)])
      refine X24.step (fun hA hx hq t_ k_ => XS.aload hA hx rfl (hb hq at_133) rfl rfl k_) ?_
      show OFin _ _ _ _ _ _ T24 (mkF m 135 #[.val (.int p0), .val (.int p1), .val (.int p2), .val (.int p3), .val (.int p4), .val (.int (2 : Int32)), .val (.int ca), .val (.int cb), .val (.int cc), .val (.int cd), .val (.ref b18), .unset, .unset, .unset] [(.ref b18), (.ref b24), (.ref b24)])
      refine X24.callI (y' := (⟨"java/lang/String", "<init>", "([C)V"⟩ : MethodName)) rfl (hw _ (List.mem_of_getElem? (i := 9) rfl)) (hw _ (List.mem_of_getElem? (i := 10) rfl)) (hw _ (List.mem_of_getElem? (i := 8) rfl)) (hw _ (List.mem_of_getElem? (i := 11) rfl)) (by decide) (a := b24) (argsL := [(.ref b18)]) (rest := [(.ref b24)]) (sm5 l Z a0 hw b24 b18 2 (own_f ca cb cc cd) cs h24 n0 Fv Fc A24 hm (VC.ext E24) (by decide) (by decide) (fun j _ => ⟨by have := ((own_fok okca okcb okcc okcd) j).1; omega, by have := ((own_fok okca okcb okcc okcd) j).2; omega⟩) (Nat.le_trans Z0 (Nat.le_trans Kc.1 E24.1)) (SS.ext O1.2) hcs) (g := (mkF m 135 #[.val (.int p0), .val (.int p1), .val (.int p2), .val (.int p3), .val (.int p4), .val (.int (2 : Int32)), .val (.int ca), .val (.int cb), .val (.int cc), .val (.int cd), .val (.ref b18), .unset, .unset, .unset] [(.ref b18), (.ref b24), (.ref b24)])) rfl rfl pd_pA_Cr_V rfl rfl (W := 1) (by show 2 * 0 + _ ≤ _; exact Nat.le_of_eq rfl) at_135 (by decide) (by decide) (by decide) (by decide) ?_
      intro v26 T26 h26 X26 q26
      obtain ⟨rfl, K26, t, S26, lt26⟩ := q26
      have B27 := B25.keep K26 (sfS safe_nil sf0)
      show OFin _ _ _ _ _ _ T26 (mkF m 138 #[.val (.int p0), .val (.int p1), .val (.int p2), .val (.int p3), .val (.int p4), .val (.int (2 : Int32)), .val (.int ca), .val (.int cb), .val (.int cc), .val (.int cd), .val (.ref b18), .unset, .unset, .unset] [(.ref b24)])
      have O2 := O1.keep K26 (allS hm all0)
      refine X26.step (fun hA hx hq t_ k_ => XS.astore hA hx rfl (hb hq at_138) rfl rfl (l' := #[.val (.int p0), .val (.int p1), .val (.int p2), .val (.int p3), .val (.int p4), .val (.int (2 : Int32)), .val (.int ca), .val (.int cb), .val (.int cc), .val (.int cd), .val (.ref b18), .val (.ref b24), .unset, .unset]) rfl k_) ?_
      show OFin _ _ _ _ _ _ T26 (mkF m 140 #[.val (.int p0), .val (.int p1), .val (.int p2), .val (.int p3), .val (.int p4), .val (.int (2 : Int32)), .val (.int ca), .val (.int cb), .val (.int cc), .val (.int cd), .val (.ref b18), .val (.ref b24), .unset, .unset] [])
      refine X26.step (fun hA hx hq t_ k_ => XS.aload hA hx rfl (hb hq at_140) rfl rfl k_) ?_
      show OFin _ _ _ _ _ _ T26 (mkF m 142 #[.val (.int p0), .val (.int p1), .val (.int p2), .val (.int p3), .val (.int p4), .val (.int (2 : Int32)), .val (.int ca), .val (.int cb), .val (.int cc), .val (.int cd), .val (.ref b18), .val (.ref b24), .unset, .unset] [(.ref b24)])
      refine X26.callSW B27 (y' := (⟨"com/example/libidem/libidem/IdempotencyKey", "of", "(Ljava/lang/String;)Lcom/example/libidem/libidem/IdempotencyKey;"⟩ : MethodName)) (hw _ (List.mem_of_getElem? (i := 35) rfl)) (hw _ (List.mem_of_getElem? (i := 36) rfl)) (hw _ (List.mem_of_getElem? (i := 37) rfl)) (hw _ (List.mem_of_getElem? (i := 38) rfl)) (by decide) (argsL := [(.ref b24)]) (rest := []) (rm5 l Z a0 hw b24 t 2 (own_f ca cb cc cd) cs vf h26 n0 S26 (by decide) (by decide) (fun j => (own_fok okca okcb okcc okcd) j) (SS.ext O2.2) hcs (SP.ext O2.2) rf (Nat.le_trans (Nat.le_of_eq O2.1.symm) O2.2.1)) (g := (mkF m 142 #[.val (.int p0), .val (.int p1), .val (.int p2), .val (.int p3), .val (.int p4), .val (.int (2 : Int32)), .val (.int ca), .val (.int cb), .val (.int cc), .val (.int cd), .val (.ref b18), .val (.ref b24), .unset, .unset] [(.ref b24)])) rfl rfl pd_pLjava_lang_String_r_Lcom_example_libidem_libidem_IdempotencyKey_ rfl rfl (W := 0) (by show 2 * 0 + _ ≤ _; exact Nat.le_of_eq rfl) at_142 (by decide) (by decide) (by decide) (by decide) ?_
      intro v28 T28 h28 vm28 X28 B28 G28 Sf28 q28
      obtain ⟨kk, rfl, Ek, Fk, S28, XX28⟩ := q28
      show OFin _ _ _ _ _ _ T28 (mkF m 145 #[.val (.int p0), .val (.int p1), .val (.int p2), .val (.int p3), .val (.int p4), .val (.int (2 : Int32)), .val (.int ca), .val (.int cb), .val (.int cc), .val (.int cd), .val (.ref b18), .val (.ref b24), .unset, .unset] [(.ref kk)])
      have O3 := O2.ext XX28
      refine X28.step (fun hA hx hq t_ k_ => XS.astore hA hx rfl (hb hq at_145) rfl rfl (l' := #[.val (.int p0), .val (.int p1), .val (.int p2), .val (.int p3), .val (.int p4), .val (.int (2 : Int32)), .val (.int ca), .val (.int cb), .val (.int cc), .val (.int cd), .val (.ref b18), .val (.ref b24), .val (.ref kk), .unset]) rfl k_) ?_
      show OFin _ _ _ _ _ _ T28 (mkF m 147 #[.val (.int p0), .val (.int p1), .val (.int p2), .val (.int p3), .val (.int p4), .val (.int (2 : Int32)), .val (.int ca), .val (.int cb), .val (.int cc), .val (.int cd), .val (.ref b18), .val (.ref b24), .val (.ref kk), .unset] [])
      refine X28.step (fun hA hx hq t_ k_ => XS.aload hA hx rfl (hb hq at_147) rfl rfl k_) ?_
      show OFin _ _ _ _ _ _ T28 (mkF m 149 #[.val (.int p0), .val (.int p1), .val (.int p2), .val (.int p3), .val (.int p4), .val (.int (2 : Int32)), .val (.int ca), .val (.int cb), .val (.int cc), .val (.int cd), .val (.ref b18), .val (.ref b24), .val (.ref kk), .unset] [(.ref kk)])
      refine X28.callV (y' := (⟨"com/example/libidem/libidem/IdempotencyKey", "value", "()Ljava/lang/String;"⟩ : MethodName)) (z' := (⟨"com/example/libidem/libidem/IdempotencyKey", "value", "()Ljava/lang/String;"⟩ : MethodName)) (hw _ (List.mem_of_getElem? (i := 91) rfl)) (hw _ (List.mem_of_getElem? (i := 92) rfl)) (X28.notFace (hw _ (List.mem_of_getElem? (i := 94) rfl)) rfl) (hw _ (List.mem_of_getElem? (i := 94) rfl)) (hw _ (List.mem_of_getElem? (i := 93) rfl)) (hw _ (List.mem_of_getElem? (i := 37) rfl)) (hw _ (List.mem_of_getElem? (i := 95) rfl)) (by decide) Ek (argsL := []) (rest := []) (rm4 l Z a0 hw kk b24 h28 n0 Fk) (g := (mkF m 149 #[.val (.int p0), .val (.int p1), .val (.int p2), .val (.int p3), .val (.int p4), .val (.int (2 : Int32)), .val (.int ca), .val (.int cb), .val (.int cc), .val (.int cd), .val (.ref b18), .val (.ref b24), .val (.ref kk), .unset] [(.ref kk)])) rfl rfl pd_pr_Ljava_lang_String_ rfl rfl (W := 0) (by show 2 * 0 + _ ≤ _; exact Nat.le_of_eq rfl) at_149 (by decide) (by decide) (by decide) (by decide) ?_
      intro v29 T29 h29 X29 q29
      obtain ⟨rfl, rfl⟩ := q29
      show OFin _ _ _ _ _ _ T29 (mkF m 152 #[.val (.int p0), .val (.int p1), .val (.int p2), .val (.int p3), .val (.int p4), .val (.int (2 : Int32)), .val (.int ca), .val (.int cb), .val (.int cc), .val (.int cd), .val (.ref b18), .val (.ref b24), .val (.ref kk), .unset] [(.ref b24)])
      refine X29.step (fun hA hx hq t_ k_ => XS.astore hA hx rfl (hb hq at_152) rfl rfl (l' := #[.val (.int p0), .val (.int p1), .val (.int p2), .val (.int p3), .val (.int p4), .val (.int (2 : Int32)), .val (.int ca), .val (.int cb), .val (.int cc), .val (.int cd), .val (.ref b18), .val (.ref b24), .val (.ref kk), .val (.ref b24)]) rfl k_) ?_
      show OFin _ _ _ _ _ _ T29 (mkF m 154 #[.val (.int p0), .val (.int p1), .val (.int p2), .val (.int p3), .val (.int p4), .val (.int (2 : Int32)), .val (.int ca), .val (.int cb), .val (.int cc), .val (.int cd), .val (.ref b18), .val (.ref b24), .val (.ref kk), .val (.ref b24)] [])
      refine X29.step (fun hA hx hq t_ k_ => XS.aload hA hx rfl (hb hq at_154) rfl rfl k_) ?_
      show OFin _ _ _ _ _ _ T29 (mkF m 156 #[.val (.int p0), .val (.int p1), .val (.int p2), .val (.int p3), .val (.int p4), .val (.int (2 : Int32)), .val (.int ca), .val (.int cb), .val (.int cc), .val (.int cd), .val (.ref b18), .val (.ref b24), .val (.ref kk), .val (.ref b24)] [(.ref b24)])
      refine X29.step (fun hA hx hq t_ k_ => XS.ifnullNo hA hx rfl (hb hq at_156) rfl k_) ?_
      show OFin _ _ _ _ _ _ T29 (mkF m 159 #[.val (.int p0), .val (.int p1), .val (.int p2), .val (.int p3), .val (.int p4), .val (.int (2 : Int32)), .val (.int ca), .val (.int cb), .val (.int cc), .val (.int cd), .val (.ref b18), .val (.ref b24), .val (.ref kk), .val (.ref b24)] [])
      refine X29.step (fun hA hx hq t_ k_ => XS.aload hA hx rfl (hb hq at_159) rfl rfl k_) ?_
      show OFin _ _ _ _ _ _ T29 (mkF m 161 #[.val (.int p0), .val (.int p1), .val (.int p2), .val (.int p3), .val (.int p4), .val (.int (2 : Int32)), .val (.int ca), .val (.int cb), .val (.int cc), .val (.int cd), .val (.ref b18), .val (.ref b24), .val (.ref kk), .val (.ref b24)] [(.ref b24)])
      refine X29.callV (y' := (⟨"java/lang/String", "length", "()I"⟩ : MethodName)) (z' := (⟨"java/lang/String", "length", "()I"⟩ : MethodName)) (hw _ (List.mem_of_getElem? (i := 96) rfl)) (hw _ (List.mem_of_getElem? (i := 52) rfl)) (X29.notFace (hw _ (List.mem_of_getElem? (i := 54) rfl)) rfl) (hw _ (List.mem_of_getElem? (i := 54) rfl)) (hw _ (List.mem_of_getElem? (i := 53) rfl)) (hw _ (List.mem_of_getElem? (i := 8) rfl)) (hw _ (List.mem_of_getElem? (i := 55) rfl)) (by decide) S28.1 (argsL := []) (rest := []) (sl2 l Z a0 hw b24 t 2 (own_f ca cb cc cd) cs h28 n0 S28 (by decide) (SS.ext O3.2) hcs) (g := (mkF m 161 #[.val (.int p0), .val (.int p1), .val (.int p2), .val (.int p3), .val (.int p4), .val (.int (2 : Int32)), .val (.int ca), .val (.int cb), .val (.int cc), .val (.int cd), .val (.ref b18), .val (.ref b24), .val (.ref kk), .val (.ref b24)] [(.ref b24)])) rfl rfl pd_pr_I rfl rfl (W := 0) (by show 2 * 0 + _ ≤ _; exact Nat.le_of_eq rfl) at_161 (by decide) (by decide) (by decide) (by decide) ?_
      intro v30 T30 h30 X30 q30
      obtain ⟨rfl, rfl⟩ := q30
      show OFin _ _ _ _ _ _ T30 (mkF m 164 #[.val (.int p0), .val (.int p1), .val (.int p2), .val (.int p3), .val (.int p4), .val (.int (2 : Int32)), .val (.int ca), .val (.int cb), .val (.int cc), .val (.int cd), .val (.ref b18), .val (.ref b24), .val (.ref kk), .val (.ref b24)] [(.int (Int32.ofNat 2))])
      refine X30.step (fun hA hx hq t_ k_ => XS.iload hA hx rfl (hb hq at_164) rfl k_) ?_
      show OFin _ _ _ _ _ _ T30 (mkF m 166 #[.val (.int p0), .val (.int p1), .val (.int p2), .val (.int p3), .val (.int p4), .val (.int (2 : Int32)), .val (.int ca), .val (.int cb), .val (.int cc), .val (.int cd), .val (.ref b18), .val (.ref b24), .val (.ref kk), .val (.ref b24)] [(.int (2 : Int32)), (.int (Int32.ofNat 2))])
      refine X30.step (fun hA hx hq t_ k_ => XS.icmpYes hA hx rfl (pc0 := 166) (pc' := 171) rfl (hb hq at_166) rfl (teq ((by decide))).1 (by decide) (by decide) k_) ?_
      show OFin _ _ _ _ _ _ T30 (mkF m 171 #[.val (.int p0), .val (.int p1), .val (.int p2), .val (.int p3), .val (.int p4), .val (.int (2 : Int32)), .val (.int ca), .val (.int cb), .val (.int cc), .val (.int cd), .val (.ref b18), .val (.ref b24), .val (.ref kk), .val (.ref b24)] [])
      refine X30.step (fun hA hx hq t_ k_ => XS.aload hA hx rfl (hb hq at_171) rfl rfl k_) ?_
      show OFin _ _ _ _ _ _ T30 (mkF m 173 #[.val (.int p0), .val (.int p1), .val (.int p2), .val (.int p3), .val (.int p4), .val (.int (2 : Int32)), .val (.int ca), .val (.int cb), .val (.int cc), .val (.int cd), .val (.ref b18), .val (.ref b24), .val (.ref kk), .val (.ref b24)] [(.ref b24)])
      refine X30.step (fun hA hx hq t_ k_ => XS.iconst hA hx rfl (hb hq at_173) k_) ?_
      show OFin _ _ _ _ _ _ T30 (mkF m 174 #[.val (.int p0), .val (.int p1), .val (.int p2), .val (.int p3), .val (.int p4), .val (.int (2 : Int32)), .val (.int ca), .val (.int cb), .val (.int cc), .val (.int cd), .val (.ref b18), .val (.ref b24), .val (.ref kk), .val (.ref b24)] [(.int (0 : Int32)), (.ref b24)])
      refine X30.callV (y' := (⟨"java/lang/String", "charAt", "(I)C"⟩ : MethodName)) (z' := (⟨"java/lang/String", "charAt", "(I)C"⟩ : MethodName)) (hw _ (List.mem_of_getElem? (i := 97) rfl)) (hw _ (List.mem_of_getElem? (i := 62) rfl)) (X30.notFace (hw _ (List.mem_of_getElem? (i := 64) rfl)) rfl) (hw _ (List.mem_of_getElem? (i := 64) rfl)) (hw _ (List.mem_of_getElem? (i := 63) rfl)) (hw _ (List.mem_of_getElem? (i := 8) rfl)) (hw _ (List.mem_of_getElem? (i := 65) rfl)) (by decide) S28.1 (argsL := [(.int (0 : Int32))]) (rest := []) (sc5 l Z a0 hw b24 t 2 (own_f ca cb cc cd) 0 cs vf h28 n0 S28 (by decide) (by decide) ⟨by have := ((own_fok okca okcb okcc okcd) 0).1; omega, by have := ((own_fok okca okcb okcc okcd) 0).2; omega⟩ (SS.ext O3.2) hcs (SP.ext O3.2) rf) (g := (mkF m 174 #[.val (.int p0), .val (.int p1), .val (.int p2), .val (.int p3), .val (.int p4), .val (.int (2 : Int32)), .val (.int ca), .val (.int cb), .val (.int cc), .val (.int cd), .val (.ref b18), .val (.ref b24), .val (.ref kk), .val (.ref b24)] [(.int (0 : Int32)), (.ref b24)])) rfl rfl pd_pIr_C rfl rfl (W := 0) (by show 2 * 0 + _ ≤ _; exact Nat.le_of_eq rfl) at_174 (by decide) (by decide) (by decide) (by decide) ?_
      intro v31 T31 h31 X31 q31
      obtain ⟨rfl, rfl⟩ := q31
      show OFin _ _ _ _ _ _ T31 (mkF m 177 #[.val (.int p0), .val (.int p1), .val (.int p2), .val (.int p3), .val (.int p4), .val (.int (2 : Int32)), .val (.int ca), .val (.int cb), .val (.int cc), .val (.int cd), .val (.ref b18), .val (.ref b24), .val (.ref kk), .val (.ref b24)] [(.int ((own_f ca cb cc cd) 0))])
      refine X31.step (fun hA hx hq t_ k_ => XS.iload hA hx rfl (hb hq at_177) rfl k_) ?_
      show OFin _ _ _ _ _ _ T31 (mkF m 179 #[.val (.int p0), .val (.int p1), .val (.int p2), .val (.int p3), .val (.int p4), .val (.int (2 : Int32)), .val (.int ca), .val (.int cb), .val (.int cc), .val (.int cd), .val (.ref b18), .val (.ref b24), .val (.ref kk), .val (.ref b24)] [(.int ca), (.int ((own_f ca cb cc cd) 0))])
      refine X31.step (fun hA hx hq t_ k_ => XS.icmpYes hA hx rfl (pc0 := 179) (pc' := 184) rfl (hb hq at_179) rfl (teq ((rfl : (own_f ca cb cc cd) 0 = ca))).1 (by decide) (by decide) k_) ?_
      show OFin _ _ _ _ _ _ T31 (mkF m 184 #[.val (.int p0), .val (.int p1), .val (.int p2), .val (.int p3), .val (.int p4), .val (.int (2 : Int32)), .val (.int ca), .val (.int cb), .val (.int cc), .val (.int cd), .val (.ref b18), .val (.ref b24), .val (.ref kk), .val (.ref b24)] [])
      refine X31.step (fun hA hx hq t_ k_ => XS.iload hA hx rfl (hb hq at_184) rfl k_) ?_
      show OFin _ _ _ _ _ _ T31 (mkF m 186 #[.val (.int p0), .val (.int p1), .val (.int p2), .val (.int p3), .val (.int p4), .val (.int (2 : Int32)), .val (.int ca), .val (.int cb), .val (.int cc), .val (.int cd), .val (.ref b18), .val (.ref b24), .val (.ref kk), .val (.ref b24)] [(.int (2 : Int32))])
      refine X31.step (fun hA hx hq t_ k_ => XS.iconst hA hx rfl (hb hq at_186) k_) ?_
      show OFin _ _ _ _ _ _ T31 (mkF m 187 #[.val (.int p0), .val (.int p1), .val (.int p2), .val (.int p3), .val (.int p4), .val (.int (2 : Int32)), .val (.int ca), .val (.int cb), .val (.int cc), .val (.int cd), .val (.ref b18), .val (.ref b24), .val (.ref kk), .val (.ref b24)] [(.int (2 : Int32)), (.int (2 : Int32))])
      refine X31.step (fun hA hx hq t_ k_ => XS.icmpNo hA hx rfl (hb hq at_187) rfl (flt ((by decide))).1 k_) ?_
      show OFin _ _ _ _ _ _ T31 (mkF m 190 #[.val (.int p0), .val (.int p1), .val (.int p2), .val (.int p3), .val (.int p4), .val (.int (2 : Int32)), .val (.int ca), .val (.int cb), .val (.int cc), .val (.int cd), .val (.ref b18), .val (.ref b24), .val (.ref kk), .val (.ref b24)] [])
      refine X31.step (fun hA hx hq t_ k_ => XS.aload hA hx rfl (hb hq at_190) rfl rfl k_) ?_
      show OFin _ _ _ _ _ _ T31 (mkF m 192 #[.val (.int p0), .val (.int p1), .val (.int p2), .val (.int p3), .val (.int p4), .val (.int (2 : Int32)), .val (.int ca), .val (.int cb), .val (.int cc), .val (.int cd), .val (.ref b18), .val (.ref b24), .val (.ref kk), .val (.ref b24)] [(.ref b24)])
      refine X31.step (fun hA hx hq t_ k_ => XS.iconst hA hx rfl (hb hq at_192) k_) ?_
      show OFin _ _ _ _ _ _ T31 (mkF m 193 #[.val (.int p0), .val (.int p1), .val (.int p2), .val (.int p3), .val (.int p4), .val (.int (2 : Int32)), .val (.int ca), .val (.int cb), .val (.int cc), .val (.int cd), .val (.ref b18), .val (.ref b24), .val (.ref kk), .val (.ref b24)] [(.int (1 : Int32)), (.ref b24)])
      refine X31.callV (y' := (⟨"java/lang/String", "charAt", "(I)C"⟩ : MethodName)) (z' := (⟨"java/lang/String", "charAt", "(I)C"⟩ : MethodName)) (hw _ (List.mem_of_getElem? (i := 97) rfl)) (hw _ (List.mem_of_getElem? (i := 62) rfl)) (X31.notFace (hw _ (List.mem_of_getElem? (i := 64) rfl)) rfl) (hw _ (List.mem_of_getElem? (i := 64) rfl)) (hw _ (List.mem_of_getElem? (i := 63) rfl)) (hw _ (List.mem_of_getElem? (i := 8) rfl)) (hw _ (List.mem_of_getElem? (i := 65) rfl)) (by decide) S28.1 (argsL := [(.int (1 : Int32))]) (rest := []) (sc5 l Z a0 hw b24 t 2 (own_f ca cb cc cd) 1 cs vf h28 n0 S28 (by decide) (by decide) ⟨by have := ((own_fok okca okcb okcc okcd) 1).1; omega, by have := ((own_fok okca okcb okcc okcd) 1).2; omega⟩ (SS.ext O3.2) hcs (SP.ext O3.2) rf) (g := (mkF m 193 #[.val (.int p0), .val (.int p1), .val (.int p2), .val (.int p3), .val (.int p4), .val (.int (2 : Int32)), .val (.int ca), .val (.int cb), .val (.int cc), .val (.int cd), .val (.ref b18), .val (.ref b24), .val (.ref kk), .val (.ref b24)] [(.int (1 : Int32)), (.ref b24)])) rfl rfl pd_pIr_C rfl rfl (W := 0) (by show 2 * 0 + _ ≤ _; exact Nat.le_of_eq rfl) at_193 (by decide) (by decide) (by decide) (by decide) ?_
      intro v32 T32 h32 X32 q32
      obtain ⟨rfl, rfl⟩ := q32
      show OFin _ _ _ _ _ _ T32 (mkF m 196 #[.val (.int p0), .val (.int p1), .val (.int p2), .val (.int p3), .val (.int p4), .val (.int (2 : Int32)), .val (.int ca), .val (.int cb), .val (.int cc), .val (.int cd), .val (.ref b18), .val (.ref b24), .val (.ref kk), .val (.ref b24)] [(.int ((own_f ca cb cc cd) 1))])
      refine X32.step (fun hA hx hq t_ k_ => XS.iload hA hx rfl (hb hq at_196) rfl k_) ?_
      show OFin _ _ _ _ _ _ T32 (mkF m 198 #[.val (.int p0), .val (.int p1), .val (.int p2), .val (.int p3), .val (.int p4), .val (.int (2 : Int32)), .val (.int ca), .val (.int cb), .val (.int cc), .val (.int cd), .val (.ref b18), .val (.ref b24), .val (.ref kk), .val (.ref b24)] [(.int cb), (.int ((own_f ca cb cc cd) 1))])
      refine X32.step (fun hA hx hq t_ k_ => XS.icmpYes hA hx rfl (pc0 := 198) (pc' := 203) rfl (hb hq at_198) rfl (teq ((rfl : (own_f ca cb cc cd) 1 = cb))).1 (by decide) (by decide) k_) ?_
      show OFin _ _ _ _ _ _ T32 (mkF m 203 #[.val (.int p0), .val (.int p1), .val (.int p2), .val (.int p3), .val (.int p4), .val (.int (2 : Int32)), .val (.int ca), .val (.int cb), .val (.int cc), .val (.int cd), .val (.ref b18), .val (.ref b24), .val (.ref kk), .val (.ref b24)] [])
      refine X32.step (fun hA hx hq t_ k_ => XS.iload hA hx rfl (hb hq at_203) rfl k_) ?_
      show OFin _ _ _ _ _ _ T32 (mkF m 205 #[.val (.int p0), .val (.int p1), .val (.int p2), .val (.int p3), .val (.int p4), .val (.int (2 : Int32)), .val (.int ca), .val (.int cb), .val (.int cc), .val (.int cd), .val (.ref b18), .val (.ref b24), .val (.ref kk), .val (.ref b24)] [(.int (2 : Int32))])
      refine X32.step (fun hA hx hq t_ k_ => XS.iconst hA hx rfl (hb hq at_205) k_) ?_
      show OFin _ _ _ _ _ _ T32 (mkF m 206 #[.val (.int p0), .val (.int p1), .val (.int p2), .val (.int p3), .val (.int p4), .val (.int (2 : Int32)), .val (.int ca), .val (.int cb), .val (.int cc), .val (.int cd), .val (.ref b18), .val (.ref b24), .val (.ref kk), .val (.ref b24)] [(.int (3 : Int32)), (.int (2 : Int32))])
      refine X32.step (fun hA hx hq t_ k_ => XS.icmpYes hA hx rfl (pc0 := 206) (pc' := 222) rfl (hb hq at_206) rfl (tlt ((by decide))).1 (by decide) (by decide) k_) ?_
      show OFin _ _ _ _ _ _ T32 (mkF m 222 #[.val (.int p0), .val (.int p1), .val (.int p2), .val (.int p3), .val (.int p4), .val (.int (2 : Int32)), .val (.int ca), .val (.int cb), .val (.int cc), .val (.int cd), .val (.ref b18), .val (.ref b24), .val (.ref kk), .val (.ref b24)] [])
      refine X32.step (fun hA hx hq t_ k_ => XS.iload hA hx rfl (hb hq at_222) rfl k_) ?_
      show OFin _ _ _ _ _ _ T32 (mkF m 224 #[.val (.int p0), .val (.int p1), .val (.int p2), .val (.int p3), .val (.int p4), .val (.int (2 : Int32)), .val (.int ca), .val (.int cb), .val (.int cc), .val (.int cd), .val (.ref b18), .val (.ref b24), .val (.ref kk), .val (.ref b24)] [(.int (2 : Int32))])
      refine X32.step (fun hA hx hq t_ k_ => XS.iconst hA hx rfl (hb hq at_224) k_) ?_
      show OFin _ _ _ _ _ _ T32 (mkF m 225 #[.val (.int p0), .val (.int p1), .val (.int p2), .val (.int p3), .val (.int p4), .val (.int (2 : Int32)), .val (.int ca), .val (.int cb), .val (.int cc), .val (.int cd), .val (.ref b18), .val (.ref b24), .val (.ref kk), .val (.ref b24)] [(.int (4 : Int32)), (.int (2 : Int32))])
      refine X32.step (fun hA hx hq t_ k_ => XS.icmpYes hA hx rfl (pc0 := 225) (pc' := 241) rfl (hb hq at_225) rfl (tlt ((by decide))).1 (by decide) (by decide) k_) ?_
      show OFin _ _ _ _ _ _ T32 (mkF m 241 #[.val (.int p0), .val (.int p1), .val (.int p2), .val (.int p3), .val (.int p4), .val (.int (2 : Int32)), .val (.int ca), .val (.int cb), .val (.int cc), .val (.int cd), .val (.ref b18), .val (.ref b24), .val (.ref kk), .val (.ref b24)] [])
      refine X32.step (fun hA hx hq t_ k_ => XS.aload hA hx rfl (hb hq at_241) rfl rfl k_) ?_
      show OFin _ _ _ _ _ _ T32 (mkF m 243 #[.val (.int p0), .val (.int p1), .val (.int p2), .val (.int p3), .val (.int p4), .val (.int (2 : Int32)), .val (.int ca), .val (.int cb), .val (.int cc), .val (.int cd), .val (.ref b18), .val (.ref b24), .val (.ref kk), .val (.ref b24)] [(.ref b24)])
      refine X32.step (fun hA hx hq t_ k_ => XS.aload hA hx rfl (hb hq at_243) rfl rfl k_) ?_
      show OFin _ _ _ _ _ _ T32 (mkF m 245 #[.val (.int p0), .val (.int p1), .val (.int p2), .val (.int p3), .val (.int p4), .val (.int (2 : Int32)), .val (.int ca), .val (.int cb), .val (.int cc), .val (.int cd), .val (.ref b18), .val (.ref b24), .val (.ref kk), .val (.ref b24)] [(.ref b24), (.ref b24)])
      refine X32.callV (y' := (⟨"java/lang/String", "equals", "(Ljava/lang/Object;)Z"⟩ : MethodName)) (z' := (⟨"java/lang/String", "equals", "(Ljava/lang/Object;)Z"⟩ : MethodName)) (hw _ (List.mem_of_getElem? (i := 98) rfl)) (hw _ (List.mem_of_getElem? (i := 99) rfl)) (X32.notFace (hw _ (List.mem_of_getElem? (i := 101) rfl)) rfl) (hw _ (List.mem_of_getElem? (i := 101) rfl)) (hw _ (List.mem_of_getElem? (i := 100) rfl)) (hw _ (List.mem_of_getElem? (i := 8) rfl)) (hw _ (List.mem_of_getElem? (i := 102) rfl)) (by decide) S28.1 (argsL := [(.ref b24)]) (rest := []) (se1 l Z a0 hw b24 h28 n0) (g := (mkF m 245 #[.val (.int p0), .val (.int p1), .val (.int p2), .val (.int p3), .val (.int p4), .val (.int (2 : Int32)), .val (.int ca), .val (.int cb), .val (.int cc), .val (.int cd), .val (.ref b18), .val (.ref b24), .val (.ref kk), .val (.ref b24)] [(.ref b24), (.ref b24)])) rfl rfl pd_pLjava_lang_Object_r_Z rfl rfl (W := 0) (by show 2 * 0 + _ ≤ _; exact Nat.le_of_eq rfl) at_245 (by decide) (by decide) (by decide) (by decide) ?_
      intro v33 T33 h33 X33 q33
      obtain ⟨rfl, rfl⟩ := q33
      show OFin _ _ _ _ _ _ T33 (mkF m 248 #[.val (.int p0), .val (.int p1), .val (.int p2), .val (.int p3), .val (.int p4), .val (.int (2 : Int32)), .val (.int ca), .val (.int cb), .val (.int cc), .val (.int cd), .val (.ref b18), .val (.ref b24), .val (.ref kk), .val (.ref b24)] [(.int (1 : Int32))])
      exact X33.retN (by simp) at_248 (oW X33 B28 (by decide) (by decide)) (rfl)
    · refine X4.step (fun hA hx hq t_ k_ => XS.icmpYes hA hx rfl (pc0 := 54) (pc' := 75) rfl (hb hq at_54) rfl (feq (k2)).2 (by decide) (by decide) k_) ?_
      show OFin _ _ _ _ _ _ T4 (mkF m 75 #[.val (.int p0), .val (.int p1), .val (.int p2), .val (.int p3), .val (.int p4), .val (.int nn), .val (.int ca), .val (.int cb), .val (.int cc), .val (.int cd), .unset, .unset, .unset, .unset] [])
      refine X4.step (fun hA hx hq t_ k_ => XS.iload hA hx rfl (hb hq at_75) rfl k_) ?_
      show OFin _ _ _ _ _ _ T4 (mkF m 77 #[.val (.int p0), .val (.int p1), .val (.int p2), .val (.int p3), .val (.int p4), .val (.int nn), .val (.int ca), .val (.int cb), .val (.int cc), .val (.int cd), .unset, .unset, .unset, .unset] [(.int nn)])
      refine X4.step (fun hA hx hq t_ k_ => XS.iconst hA hx rfl (hb hq at_77) k_) ?_
      show OFin _ _ _ _ _ _ T4 (mkF m 78 #[.val (.int p0), .val (.int p1), .val (.int p2), .val (.int p3), .val (.int p4), .val (.int nn), .val (.int ca), .val (.int cb), .val (.int cc), .val (.int cd), .unset, .unset, .unset, .unset] [(.int (3 : Int32)), (.int nn)])
      by_cases k3 : nn = (3 : Int32)
      · refine X4.step (fun hA hx hq t_ k_ => XS.icmpNo hA hx rfl (hb hq at_78) rfl (teq (k3)).2 k_) ?_
        show OFin _ _ _ _ _ _ T4 (mkF m 81 #[.val (.int p0), .val (.int p1), .val (.int p2), .val (.int p3), .val (.int p4), .val (.int nn), .val (.int ca), .val (.int cb), .val (.int cc), .val (.int cd), .unset, .unset, .unset, .unset] [])
        subst k3
        show OFin _ _ _ _ _ _ T4 (mkF m 81 #[.val (.int p0), .val (.int p1), .val (.int p2), .val (.int p3), .val (.int p4), .val (.int (3 : Int32)), .val (.int ca), .val (.int cb), .val (.int cc), .val (.int cd), .unset, .unset, .unset, .unset] [])
        refine X4.step (fun hA hx hq t_ k_ => XS.iconst hA hx rfl (hb hq at_81) k_) ?_
        show OFin _ _ _ _ _ _ T4 (mkF m 82 #[.val (.int p0), .val (.int p1), .val (.int p2), .val (.int p3), .val (.int p4), .val (.int (3 : Int32)), .val (.int ca), .val (.int cb), .val (.int cc), .val (.int cd), .unset, .unset, .unset, .unset] [(.int (3 : Int32))])
        refine X4.newP (hw _ (List.mem_of_getElem? (i := 5) rfl)) (g := (mkF m 82 #[.val (.int p0), .val (.int p1), .val (.int p2), .val (.int p3), .val (.int p4), .val (.int (3 : Int32)), .val (.int ca), .val (.int cb), .val (.int cc), .val (.int cd), .unset, .unset, .unset, .unset] [(.int (3 : Int32))])) rfl at_82 rfl (by decide) (cap := 3) (by decide) (by decide) (by decide) (by decide) (ad := "[C") (by first | rfl | decide) ?_
        intro T34 h34 k34 b34 gb34 X34 E34 A34 G34
        have B35 := B0.ext E34
        show OFin _ _ _ _ _ _ T34 (mkF m 84 #[.val (.int p0), .val (.int p1), .val (.int p2), .val (.int p3), .val (.int p4), .val (.int (3 : Int32)), .val (.int ca), .val (.int cb), .val (.int cc), .val (.int cd), .unset, .unset, .unset, .unset] [(.ref b34)])
        have V0 := OArr.new A34
        have hB : n0 ≤ b34 := by rw [gb34]; exact Z0
        refine X34.step (fun hA hx hq t_ k_ => XS.dup hA hx rfl (hb hq at_84) rfl rfl k_) ?_
        show OFin _ _ _ _ _ _ T34 (mkF m 85 #[.val (.int p0), .val (.int p1), .val (.int p2), .val (.int p3), .val (.int p4), .val (.int (3 : Int32)), .val (.int ca), .val (.int cb), .val (.int cc), .val (.int cd), .unset, .unset, .unset, .unset] [(.ref b34), (.ref b34)])
        refine X34.step (fun hA hx hq t_ k_ => XS.iconst hA hx rfl (hb hq at_85) k_) ?_
        show OFin _ _ _ _ _ _ T34 (mkF m 86 #[.val (.int p0), .val (.int p1), .val (.int p2), .val (.int p3), .val (.int p4), .val (.int (3 : Int32)), .val (.int ca), .val (.int cb), .val (.int cc), .val (.int cd), .unset, .unset, .unset, .unset] [(.int (0 : Int32)), (.ref b34), (.ref b34)])
        refine X34.step (fun hA hx hq t_ k_ => XS.iload hA hx rfl (hb hq at_86) rfl k_) ?_
        show OFin _ _ _ _ _ _ T34 (mkF m 88 #[.val (.int p0), .val (.int p1), .val (.int p2), .val (.int p3), .val (.int p4), .val (.int (3 : Int32)), .val (.int ca), .val (.int cb), .val (.int cc), .val (.int cd), .unset, .unset, .unset, .unset] [(.int ca), (.int (0 : Int32)), (.ref b34), (.ref b34)])
        obtain ⟨c0, Ar0, Sr0, Hr0⟩ := id V0
        refine X34.stC Ar0 (by rw [Sr0]; decide) (hB) (g := (mkF m 88 #[.val (.int p0), .val (.int p1), .val (.int p2), .val (.int p3), .val (.int p4), .val (.int (3 : Int32)), .val (.int ca), .val (.int cb), .val (.int cc), .val (.int cd), .unset, .unset, .unset, .unset] [(.int ca), (.int (0 : Int32)), (.ref b34), (.ref b34)])) rfl rfl at_88 ?_
        intro T36 h36 X36 W36
        have B37 := B35.wr W36 safe_nil
        show OFin _ _ _ _ _ _ T36 (mkF m 89 #[.val (.int p0), .val (.int p1), .val (.int p2), .val (.int p3), .val (.int p4), .val (.int (3 : Int32)), .val (.int ca), .val (.int cb), .val (.int cc), .val (.int cd), .unset, .unset, .unset, .unset] [(.ref b34)])
        rw [own_narC _ (by have := okca.1; omega) (by have := okca.2; omega)] at W36
        have V1 := V0.set W36
        refine X36.step (fun hA hx hq t_ k_ => XS.dup hA hx rfl (hb hq at_89) rfl rfl k_) ?_
        show OFin _ _ _ _ _ _ T36 (mkF m 90 #[.val (.int p0), .val (.int p1), .val (.int p2), .val (.int p3), .val (.int p4), .val (.int (3 : Int32)), .val (.int ca), .val (.int cb), .val (.int cc), .val (.int cd), .unset, .unset, .unset, .unset] [(.ref b34), (.ref b34)])
        refine X36.step (fun hA hx hq t_ k_ => XS.iconst hA hx rfl (hb hq at_90) k_) ?_
        show OFin _ _ _ _ _ _ T36 (mkF m 91 #[.val (.int p0), .val (.int p1), .val (.int p2), .val (.int p3), .val (.int p4), .val (.int (3 : Int32)), .val (.int ca), .val (.int cb), .val (.int cc), .val (.int cd), .unset, .unset, .unset, .unset] [(.int (1 : Int32)), (.ref b34), (.ref b34)])
        refine X36.step (fun hA hx hq t_ k_ => XS.iload hA hx rfl (hb hq at_91) rfl k_) ?_
        show OFin _ _ _ _ _ _ T36 (mkF m 93 #[.val (.int p0), .val (.int p1), .val (.int p2), .val (.int p3), .val (.int p4), .val (.int (3 : Int32)), .val (.int ca), .val (.int cb), .val (.int cc), .val (.int cd), .unset, .unset, .unset, .unset] [(.int cb), (.int (1 : Int32)), (.ref b34), (.ref b34)])
        obtain ⟨c1, Ar1, Sr1, Hr1⟩ := id V1
        refine X36.stC Ar1 (by rw [Sr1]; decide) (hB) (g := (mkF m 93 #[.val (.int p0), .val (.int p1), .val (.int p2), .val (.int p3), .val (.int p4), .val (.int (3 : Int32)), .val (.int ca), .val (.int cb), .val (.int cc), .val (.int cd), .unset, .unset, .unset, .unset] [(.int cb), (.int (1 : Int32)), (.ref b34), (.ref b34)])) rfl rfl at_93 ?_
        intro T38 h38 X38 W38
        have B39 := B37.wr W38 safe_nil
        show OFin _ _ _ _ _ _ T38 (mkF m 94 #[.val (.int p0), .val (.int p1), .val (.int p2), .val (.int p3), .val (.int p4), .val (.int (3 : Int32)), .val (.int ca), .val (.int cb), .val (.int cc), .val (.int cd), .unset, .unset, .unset, .unset] [(.ref b34)])
        rw [own_narC _ (by have := okcb.1; omega) (by have := okcb.2; omega)] at W38
        have V2 := V1.set W38
        refine X38.step (fun hA hx hq t_ k_ => XS.dup hA hx rfl (hb hq at_94) rfl rfl k_) ?_
        show OFin _ _ _ _ _ _ T38 (mkF m 95 #[.val (.int p0), .val (.int p1), .val (.int p2), .val (.int p3), .val (.int p4), .val (.int (3 : Int32)), .val (.int ca), .val (.int cb), .val (.int cc), .val (.int cd), .unset, .unset, .unset, .unset] [(.ref b34), (.ref b34)])
        refine X38.step (fun hA hx hq t_ k_ => XS.iconst hA hx rfl (hb hq at_95) k_) ?_
        show OFin _ _ _ _ _ _ T38 (mkF m 96 #[.val (.int p0), .val (.int p1), .val (.int p2), .val (.int p3), .val (.int p4), .val (.int (3 : Int32)), .val (.int ca), .val (.int cb), .val (.int cc), .val (.int cd), .unset, .unset, .unset, .unset] [(.int (2 : Int32)), (.ref b34), (.ref b34)])
        refine X38.step (fun hA hx hq t_ k_ => XS.iload hA hx rfl (hb hq at_96) rfl k_) ?_
        show OFin _ _ _ _ _ _ T38 (mkF m 98 #[.val (.int p0), .val (.int p1), .val (.int p2), .val (.int p3), .val (.int p4), .val (.int (3 : Int32)), .val (.int ca), .val (.int cb), .val (.int cc), .val (.int cd), .unset, .unset, .unset, .unset] [(.int cc), (.int (2 : Int32)), (.ref b34), (.ref b34)])
        obtain ⟨c2, Ar2, Sr2, Hr2⟩ := id V2
        refine X38.stC Ar2 (by rw [Sr2]; decide) (hB) (g := (mkF m 98 #[.val (.int p0), .val (.int p1), .val (.int p2), .val (.int p3), .val (.int p4), .val (.int (3 : Int32)), .val (.int ca), .val (.int cb), .val (.int cc), .val (.int cd), .unset, .unset, .unset, .unset] [(.int cc), (.int (2 : Int32)), (.ref b34), (.ref b34)])) rfl rfl at_98 ?_
        intro T40 h40 X40 W40
        have B41 := B39.wr W40 safe_nil
        show OFin _ _ _ _ _ _ T40 (mkF m 99 #[.val (.int p0), .val (.int p1), .val (.int p2), .val (.int p3), .val (.int p4), .val (.int (3 : Int32)), .val (.int ca), .val (.int cb), .val (.int cc), .val (.int cd), .unset, .unset, .unset, .unset] [(.ref b34)])
        rw [own_narC _ (by have := okcc.1; omega) (by have := okcc.2; omega)] at W40
        have V3 := V2.set W40
        have VC : OArr Z h40 b34 .char 3 (fun j => .int ((own_f ca cb cc cd) j)) := V3.congr fun j hj => by
          have hj' : j < 3 := hj
          match j, hj' with
          | 0, _ => rfl
          | 1, _ => rfl
          | 2, _ => rfl
        have E0 := E34
        have Kc : Keep h0 h40 [] := (((((Keep.refl h0 []).ext E34).wr W36 (Or.inr (Nat.le_of_eq gb34.symm))).wr W38 (Or.inr (Nat.le_of_eq gb34.symm))).wr W40 (Or.inr (Nat.le_of_eq gb34.symm)))
        refine X40.step (fun hA hx hq t_ k_ => XS.astore hA hx rfl (hb hq at_99) rfl rfl (l' := #[.val (.int p0), .val (.int p1), .val (.int p2), .val (.int p3), .val (.int p4), .val (.int (3 : Int32)), .val (.int ca), .val (.int cb), .val (.int cc), .val (.int cd), .val (.ref b34), .unset, .unset, .unset]) rfl k_) ?_
        show OFin _ _ _ _ _ _ T40 (mkF m 101 #[.val (.int p0), .val (.int p1), .val (.int p2), .val (.int p3), .val (.int p4), .val (.int (3 : Int32)), .val (.int ca), .val (.int cb), .val (.int cc), .val (.int cd), .val (.ref b34), .unset, .unset, .unset] [])
        refine X40.step (fun hA hx hq t_ k_ => XS.goto hA hx rfl (pc0 := 101) (pc' := 129) rfl (hb hq at_101) (by decide) (by decide) k_) ?_
        show OFin _ _ _ _ _ _ T40 (mkF m 129 #[.val (.int p0), .val (.int p1), .val (.int p2), .val (.int p3), .val (.int p4), .val (.int (3 : Int32)), .val (.int ca), .val (.int cb), .val (.int cc), .val (.int cd), .val (.ref b34), .unset, .unset, .unset] [])
        refine X40.newO (hw _ (List.mem_of_getElem? (i := 6) rfl)) (hw _ (List.mem_of_getElem? (i := 7) rfl)) (hw _ (List.mem_of_getElem? (i := 8) rfl)) (g := (mkF m 129 #[.val (.int p0), .val (.int p1), .val (.int p2), .val (.int p3), .val (.int p4), .val (.int (3 : Int32)), .val (.int ca), .val (.int cb), .val (.int cc), .val (.int cd), .val (.ref b34), .unset, .unset, .unset] [])) rfl at_129 (by decide) (by decide) ?_
        intro T42 h42 b42 gb42 X42 E42 A42 D42
        have B43 := B41.ext E42
        show OFin _ _ _ _ _ _ T42 (mkF m 132 #[.val (.int p0), .val (.int p1), .val (.int p2), .val (.int p3), .val (.int p4), .val (.int (3 : Int32)), .val (.int ca), .val (.int cb), .val (.int cc), .val (.int cd), .val (.ref b34), .unset, .unset, .unset] [(.ref b42)])
        have O1 := (O0.keep Kc all0).ext E42
        have Fv : Fld Z h42 b42 "java/lang/String" "value" "[B" .null := D42 (Or.inr (hw _ (List.mem_of_getElem? (i := 34) rfl))) (ty := (.array .byte)) (by decide)
        have Fc : Fld Z h42 b42 "java/lang/String" "coder" "B" (.int (0 : Int32)) := D42 (Or.inr (hw _ (List.mem_of_getElem? (i := 32) rfl))) (ty := .byte) (by decide)
        have hm : n0 ≤ b42 := by rw [gb42]; exact Nat.le_trans Z0 Kc.1
        refine X42.step (fun hA hx hq t_ k_ => XS.dup hA hx rfl (hb hq at_132) rfl rfl k_) ?_
        show OFin _ _ _ _ _ _ T42 (mkF m 133 #[.val (.int p0), .val (.int p1), .val (.int p2), .val (.int p3), .val (.int p4), .val (.int (3 : Int32)), .val (.int ca), .val (.int cb), .val (.int cc), .val (.int cd), .val (.ref b34), .unset, .unset, .unset] [(.ref b42), (.ref b42)])
        refine X42.step (fun hA hx hq t_ k_ => XS.aload hA hx rfl (hb hq at_133) rfl rfl k_) ?_
        show OFin _ _ _ _ _ _ T42 (mkF m 135 #[.val (.int p0), .val (.int p1), .val (.int p2), .val (.int p3), .val (.int p4), .val (.int (3 : Int32)), .val (.int ca), .val (.int cb), .val (.int cc), .val (.int cd), .val (.ref b34), .unset, .unset, .unset] [(.ref b34), (.ref b42), (.ref b42)])
        refine X42.callI (y' := (⟨"java/lang/String", "<init>", "([C)V"⟩ : MethodName)) rfl (hw _ (List.mem_of_getElem? (i := 9) rfl)) (hw _ (List.mem_of_getElem? (i := 10) rfl)) (hw _ (List.mem_of_getElem? (i := 8) rfl)) (hw _ (List.mem_of_getElem? (i := 11) rfl)) (by decide) (a := b42) (argsL := [(.ref b34)]) (rest := [(.ref b42)]) (sm5 l Z a0 hw b42 b34 3 (own_f ca cb cc cd) cs h42 n0 Fv Fc A42 hm (VC.ext E42) (by decide) (by decide) (fun j _ => ⟨by have := ((own_fok okca okcb okcc okcd) j).1; omega, by have := ((own_fok okca okcb okcc okcd) j).2; omega⟩) (Nat.le_trans Z0 (Nat.le_trans Kc.1 E42.1)) (SS.ext O1.2) hcs) (g := (mkF m 135 #[.val (.int p0), .val (.int p1), .val (.int p2), .val (.int p3), .val (.int p4), .val (.int (3 : Int32)), .val (.int ca), .val (.int cb), .val (.int cc), .val (.int cd), .val (.ref b34), .unset, .unset, .unset] [(.ref b34), (.ref b42), (.ref b42)])) rfl rfl pd_pA_Cr_V rfl rfl (W := 1) (by show 2 * 0 + _ ≤ _; exact Nat.le_of_eq rfl) at_135 (by decide) (by decide) (by decide) (by decide) ?_
        intro v44 T44 h44 X44 q44
        obtain ⟨rfl, K44, t, S44, lt44⟩ := q44
        have B45 := B43.keep K44 (sfS safe_nil sf0)
        show OFin _ _ _ _ _ _ T44 (mkF m 138 #[.val (.int p0), .val (.int p1), .val (.int p2), .val (.int p3), .val (.int p4), .val (.int (3 : Int32)), .val (.int ca), .val (.int cb), .val (.int cc), .val (.int cd), .val (.ref b34), .unset, .unset, .unset] [(.ref b42)])
        have O2 := O1.keep K44 (allS hm all0)
        refine X44.step (fun hA hx hq t_ k_ => XS.astore hA hx rfl (hb hq at_138) rfl rfl (l' := #[.val (.int p0), .val (.int p1), .val (.int p2), .val (.int p3), .val (.int p4), .val (.int (3 : Int32)), .val (.int ca), .val (.int cb), .val (.int cc), .val (.int cd), .val (.ref b34), .val (.ref b42), .unset, .unset]) rfl k_) ?_
        show OFin _ _ _ _ _ _ T44 (mkF m 140 #[.val (.int p0), .val (.int p1), .val (.int p2), .val (.int p3), .val (.int p4), .val (.int (3 : Int32)), .val (.int ca), .val (.int cb), .val (.int cc), .val (.int cd), .val (.ref b34), .val (.ref b42), .unset, .unset] [])
        refine X44.step (fun hA hx hq t_ k_ => XS.aload hA hx rfl (hb hq at_140) rfl rfl k_) ?_
        show OFin _ _ _ _ _ _ T44 (mkF m 142 #[.val (.int p0), .val (.int p1), .val (.int p2), .val (.int p3), .val (.int p4), .val (.int (3 : Int32)), .val (.int ca), .val (.int cb), .val (.int cc), .val (.int cd), .val (.ref b34), .val (.ref b42), .unset, .unset] [(.ref b42)])
        refine X44.callSW B45 (y' := (⟨"com/example/libidem/libidem/IdempotencyKey", "of", "(Ljava/lang/String;)Lcom/example/libidem/libidem/IdempotencyKey;"⟩ : MethodName)) (hw _ (List.mem_of_getElem? (i := 35) rfl)) (hw _ (List.mem_of_getElem? (i := 36) rfl)) (hw _ (List.mem_of_getElem? (i := 37) rfl)) (hw _ (List.mem_of_getElem? (i := 38) rfl)) (by decide) (argsL := [(.ref b42)]) (rest := []) (rm5 l Z a0 hw b42 t 3 (own_f ca cb cc cd) cs vf h44 n0 S44 (by decide) (by decide) (fun j => (own_fok okca okcb okcc okcd) j) (SS.ext O2.2) hcs (SP.ext O2.2) rf (Nat.le_trans (Nat.le_of_eq O2.1.symm) O2.2.1)) (g := (mkF m 142 #[.val (.int p0), .val (.int p1), .val (.int p2), .val (.int p3), .val (.int p4), .val (.int (3 : Int32)), .val (.int ca), .val (.int cb), .val (.int cc), .val (.int cd), .val (.ref b34), .val (.ref b42), .unset, .unset] [(.ref b42)])) rfl rfl pd_pLjava_lang_String_r_Lcom_example_libidem_libidem_IdempotencyKey_ rfl rfl (W := 0) (by show 2 * 0 + _ ≤ _; exact Nat.le_of_eq rfl) at_142 (by decide) (by decide) (by decide) (by decide) ?_
        intro v46 T46 h46 vm46 X46 B46 G46 Sf46 q46
        obtain ⟨kk, rfl, Ek, Fk, S46, XX46⟩ := q46
        show OFin _ _ _ _ _ _ T46 (mkF m 145 #[.val (.int p0), .val (.int p1), .val (.int p2), .val (.int p3), .val (.int p4), .val (.int (3 : Int32)), .val (.int ca), .val (.int cb), .val (.int cc), .val (.int cd), .val (.ref b34), .val (.ref b42), .unset, .unset] [(.ref kk)])
        have O3 := O2.ext XX46
        refine X46.step (fun hA hx hq t_ k_ => XS.astore hA hx rfl (hb hq at_145) rfl rfl (l' := #[.val (.int p0), .val (.int p1), .val (.int p2), .val (.int p3), .val (.int p4), .val (.int (3 : Int32)), .val (.int ca), .val (.int cb), .val (.int cc), .val (.int cd), .val (.ref b34), .val (.ref b42), .val (.ref kk), .unset]) rfl k_) ?_
        show OFin _ _ _ _ _ _ T46 (mkF m 147 #[.val (.int p0), .val (.int p1), .val (.int p2), .val (.int p3), .val (.int p4), .val (.int (3 : Int32)), .val (.int ca), .val (.int cb), .val (.int cc), .val (.int cd), .val (.ref b34), .val (.ref b42), .val (.ref kk), .unset] [])
        refine X46.step (fun hA hx hq t_ k_ => XS.aload hA hx rfl (hb hq at_147) rfl rfl k_) ?_
        show OFin _ _ _ _ _ _ T46 (mkF m 149 #[.val (.int p0), .val (.int p1), .val (.int p2), .val (.int p3), .val (.int p4), .val (.int (3 : Int32)), .val (.int ca), .val (.int cb), .val (.int cc), .val (.int cd), .val (.ref b34), .val (.ref b42), .val (.ref kk), .unset] [(.ref kk)])
        refine X46.callV (y' := (⟨"com/example/libidem/libidem/IdempotencyKey", "value", "()Ljava/lang/String;"⟩ : MethodName)) (z' := (⟨"com/example/libidem/libidem/IdempotencyKey", "value", "()Ljava/lang/String;"⟩ : MethodName)) (hw _ (List.mem_of_getElem? (i := 91) rfl)) (hw _ (List.mem_of_getElem? (i := 92) rfl)) (X46.notFace (hw _ (List.mem_of_getElem? (i := 94) rfl)) rfl) (hw _ (List.mem_of_getElem? (i := 94) rfl)) (hw _ (List.mem_of_getElem? (i := 93) rfl)) (hw _ (List.mem_of_getElem? (i := 37) rfl)) (hw _ (List.mem_of_getElem? (i := 95) rfl)) (by decide) Ek (argsL := []) (rest := []) (rm4 l Z a0 hw kk b42 h46 n0 Fk) (g := (mkF m 149 #[.val (.int p0), .val (.int p1), .val (.int p2), .val (.int p3), .val (.int p4), .val (.int (3 : Int32)), .val (.int ca), .val (.int cb), .val (.int cc), .val (.int cd), .val (.ref b34), .val (.ref b42), .val (.ref kk), .unset] [(.ref kk)])) rfl rfl pd_pr_Ljava_lang_String_ rfl rfl (W := 0) (by show 2 * 0 + _ ≤ _; exact Nat.le_of_eq rfl) at_149 (by decide) (by decide) (by decide) (by decide) ?_
        intro v47 T47 h47 X47 q47
        obtain ⟨rfl, rfl⟩ := q47
        show OFin _ _ _ _ _ _ T47 (mkF m 152 #[.val (.int p0), .val (.int p1), .val (.int p2), .val (.int p3), .val (.int p4), .val (.int (3 : Int32)), .val (.int ca), .val (.int cb), .val (.int cc), .val (.int cd), .val (.ref b34), .val (.ref b42), .val (.ref kk), .unset] [(.ref b42)])
        refine X47.step (fun hA hx hq t_ k_ => XS.astore hA hx rfl (hb hq at_152) rfl rfl (l' := #[.val (.int p0), .val (.int p1), .val (.int p2), .val (.int p3), .val (.int p4), .val (.int (3 : Int32)), .val (.int ca), .val (.int cb), .val (.int cc), .val (.int cd), .val (.ref b34), .val (.ref b42), .val (.ref kk), .val (.ref b42)]) rfl k_) ?_
        show OFin _ _ _ _ _ _ T47 (mkF m 154 #[.val (.int p0), .val (.int p1), .val (.int p2), .val (.int p3), .val (.int p4), .val (.int (3 : Int32)), .val (.int ca), .val (.int cb), .val (.int cc), .val (.int cd), .val (.ref b34), .val (.ref b42), .val (.ref kk), .val (.ref b42)] [])
        refine X47.step (fun hA hx hq t_ k_ => XS.aload hA hx rfl (hb hq at_154) rfl rfl k_) ?_
        show OFin _ _ _ _ _ _ T47 (mkF m 156 #[.val (.int p0), .val (.int p1), .val (.int p2), .val (.int p3), .val (.int p4), .val (.int (3 : Int32)), .val (.int ca), .val (.int cb), .val (.int cc), .val (.int cd), .val (.ref b34), .val (.ref b42), .val (.ref kk), .val (.ref b42)] [(.ref b42)])
        refine X47.step (fun hA hx hq t_ k_ => XS.ifnullNo hA hx rfl (hb hq at_156) rfl k_) ?_
        show OFin _ _ _ _ _ _ T47 (mkF m 159 #[.val (.int p0), .val (.int p1), .val (.int p2), .val (.int p3), .val (.int p4), .val (.int (3 : Int32)), .val (.int ca), .val (.int cb), .val (.int cc), .val (.int cd), .val (.ref b34), .val (.ref b42), .val (.ref kk), .val (.ref b42)] [])
        refine X47.step (fun hA hx hq t_ k_ => XS.aload hA hx rfl (hb hq at_159) rfl rfl k_) ?_
        show OFin _ _ _ _ _ _ T47 (mkF m 161 #[.val (.int p0), .val (.int p1), .val (.int p2), .val (.int p3), .val (.int p4), .val (.int (3 : Int32)), .val (.int ca), .val (.int cb), .val (.int cc), .val (.int cd), .val (.ref b34), .val (.ref b42), .val (.ref kk), .val (.ref b42)] [(.ref b42)])
        refine X47.callV (y' := (⟨"java/lang/String", "length", "()I"⟩ : MethodName)) (z' := (⟨"java/lang/String", "length", "()I"⟩ : MethodName)) (hw _ (List.mem_of_getElem? (i := 96) rfl)) (hw _ (List.mem_of_getElem? (i := 52) rfl)) (X47.notFace (hw _ (List.mem_of_getElem? (i := 54) rfl)) rfl) (hw _ (List.mem_of_getElem? (i := 54) rfl)) (hw _ (List.mem_of_getElem? (i := 53) rfl)) (hw _ (List.mem_of_getElem? (i := 8) rfl)) (hw _ (List.mem_of_getElem? (i := 55) rfl)) (by decide) S46.1 (argsL := []) (rest := []) (sl2 l Z a0 hw b42 t 3 (own_f ca cb cc cd) cs h46 n0 S46 (by decide) (SS.ext O3.2) hcs) (g := (mkF m 161 #[.val (.int p0), .val (.int p1), .val (.int p2), .val (.int p3), .val (.int p4), .val (.int (3 : Int32)), .val (.int ca), .val (.int cb), .val (.int cc), .val (.int cd), .val (.ref b34), .val (.ref b42), .val (.ref kk), .val (.ref b42)] [(.ref b42)])) rfl rfl pd_pr_I rfl rfl (W := 0) (by show 2 * 0 + _ ≤ _; exact Nat.le_of_eq rfl) at_161 (by decide) (by decide) (by decide) (by decide) ?_
        intro v48 T48 h48 X48 q48
        obtain ⟨rfl, rfl⟩ := q48
        show OFin _ _ _ _ _ _ T48 (mkF m 164 #[.val (.int p0), .val (.int p1), .val (.int p2), .val (.int p3), .val (.int p4), .val (.int (3 : Int32)), .val (.int ca), .val (.int cb), .val (.int cc), .val (.int cd), .val (.ref b34), .val (.ref b42), .val (.ref kk), .val (.ref b42)] [(.int (Int32.ofNat 3))])
        refine X48.step (fun hA hx hq t_ k_ => XS.iload hA hx rfl (hb hq at_164) rfl k_) ?_
        show OFin _ _ _ _ _ _ T48 (mkF m 166 #[.val (.int p0), .val (.int p1), .val (.int p2), .val (.int p3), .val (.int p4), .val (.int (3 : Int32)), .val (.int ca), .val (.int cb), .val (.int cc), .val (.int cd), .val (.ref b34), .val (.ref b42), .val (.ref kk), .val (.ref b42)] [(.int (3 : Int32)), (.int (Int32.ofNat 3))])
        refine X48.step (fun hA hx hq t_ k_ => XS.icmpYes hA hx rfl (pc0 := 166) (pc' := 171) rfl (hb hq at_166) rfl (teq ((by decide))).1 (by decide) (by decide) k_) ?_
        show OFin _ _ _ _ _ _ T48 (mkF m 171 #[.val (.int p0), .val (.int p1), .val (.int p2), .val (.int p3), .val (.int p4), .val (.int (3 : Int32)), .val (.int ca), .val (.int cb), .val (.int cc), .val (.int cd), .val (.ref b34), .val (.ref b42), .val (.ref kk), .val (.ref b42)] [])
        refine X48.step (fun hA hx hq t_ k_ => XS.aload hA hx rfl (hb hq at_171) rfl rfl k_) ?_
        show OFin _ _ _ _ _ _ T48 (mkF m 173 #[.val (.int p0), .val (.int p1), .val (.int p2), .val (.int p3), .val (.int p4), .val (.int (3 : Int32)), .val (.int ca), .val (.int cb), .val (.int cc), .val (.int cd), .val (.ref b34), .val (.ref b42), .val (.ref kk), .val (.ref b42)] [(.ref b42)])
        refine X48.step (fun hA hx hq t_ k_ => XS.iconst hA hx rfl (hb hq at_173) k_) ?_
        show OFin _ _ _ _ _ _ T48 (mkF m 174 #[.val (.int p0), .val (.int p1), .val (.int p2), .val (.int p3), .val (.int p4), .val (.int (3 : Int32)), .val (.int ca), .val (.int cb), .val (.int cc), .val (.int cd), .val (.ref b34), .val (.ref b42), .val (.ref kk), .val (.ref b42)] [(.int (0 : Int32)), (.ref b42)])
        refine X48.callV (y' := (⟨"java/lang/String", "charAt", "(I)C"⟩ : MethodName)) (z' := (⟨"java/lang/String", "charAt", "(I)C"⟩ : MethodName)) (hw _ (List.mem_of_getElem? (i := 97) rfl)) (hw _ (List.mem_of_getElem? (i := 62) rfl)) (X48.notFace (hw _ (List.mem_of_getElem? (i := 64) rfl)) rfl) (hw _ (List.mem_of_getElem? (i := 64) rfl)) (hw _ (List.mem_of_getElem? (i := 63) rfl)) (hw _ (List.mem_of_getElem? (i := 8) rfl)) (hw _ (List.mem_of_getElem? (i := 65) rfl)) (by decide) S46.1 (argsL := [(.int (0 : Int32))]) (rest := []) (sc5 l Z a0 hw b42 t 3 (own_f ca cb cc cd) 0 cs vf h46 n0 S46 (by decide) (by decide) ⟨by have := ((own_fok okca okcb okcc okcd) 0).1; omega, by have := ((own_fok okca okcb okcc okcd) 0).2; omega⟩ (SS.ext O3.2) hcs (SP.ext O3.2) rf) (g := (mkF m 174 #[.val (.int p0), .val (.int p1), .val (.int p2), .val (.int p3), .val (.int p4), .val (.int (3 : Int32)), .val (.int ca), .val (.int cb), .val (.int cc), .val (.int cd), .val (.ref b34), .val (.ref b42), .val (.ref kk), .val (.ref b42)] [(.int (0 : Int32)), (.ref b42)])) rfl rfl pd_pIr_C rfl rfl (W := 0) (by show 2 * 0 + _ ≤ _; exact Nat.le_of_eq rfl) at_174 (by decide) (by decide) (by decide) (by decide) ?_
        intro v49 T49 h49 X49 q49
        obtain ⟨rfl, rfl⟩ := q49
        show OFin _ _ _ _ _ _ T49 (mkF m 177 #[.val (.int p0), .val (.int p1), .val (.int p2), .val (.int p3), .val (.int p4), .val (.int (3 : Int32)), .val (.int ca), .val (.int cb), .val (.int cc), .val (.int cd), .val (.ref b34), .val (.ref b42), .val (.ref kk), .val (.ref b42)] [(.int ((own_f ca cb cc cd) 0))])
        refine X49.step (fun hA hx hq t_ k_ => XS.iload hA hx rfl (hb hq at_177) rfl k_) ?_
        show OFin _ _ _ _ _ _ T49 (mkF m 179 #[.val (.int p0), .val (.int p1), .val (.int p2), .val (.int p3), .val (.int p4), .val (.int (3 : Int32)), .val (.int ca), .val (.int cb), .val (.int cc), .val (.int cd), .val (.ref b34), .val (.ref b42), .val (.ref kk), .val (.ref b42)] [(.int ca), (.int ((own_f ca cb cc cd) 0))])
        refine X49.step (fun hA hx hq t_ k_ => XS.icmpYes hA hx rfl (pc0 := 179) (pc' := 184) rfl (hb hq at_179) rfl (teq ((rfl : (own_f ca cb cc cd) 0 = ca))).1 (by decide) (by decide) k_) ?_
        show OFin _ _ _ _ _ _ T49 (mkF m 184 #[.val (.int p0), .val (.int p1), .val (.int p2), .val (.int p3), .val (.int p4), .val (.int (3 : Int32)), .val (.int ca), .val (.int cb), .val (.int cc), .val (.int cd), .val (.ref b34), .val (.ref b42), .val (.ref kk), .val (.ref b42)] [])
        refine X49.step (fun hA hx hq t_ k_ => XS.iload hA hx rfl (hb hq at_184) rfl k_) ?_
        show OFin _ _ _ _ _ _ T49 (mkF m 186 #[.val (.int p0), .val (.int p1), .val (.int p2), .val (.int p3), .val (.int p4), .val (.int (3 : Int32)), .val (.int ca), .val (.int cb), .val (.int cc), .val (.int cd), .val (.ref b34), .val (.ref b42), .val (.ref kk), .val (.ref b42)] [(.int (3 : Int32))])
        refine X49.step (fun hA hx hq t_ k_ => XS.iconst hA hx rfl (hb hq at_186) k_) ?_
        show OFin _ _ _ _ _ _ T49 (mkF m 187 #[.val (.int p0), .val (.int p1), .val (.int p2), .val (.int p3), .val (.int p4), .val (.int (3 : Int32)), .val (.int ca), .val (.int cb), .val (.int cc), .val (.int cd), .val (.ref b34), .val (.ref b42), .val (.ref kk), .val (.ref b42)] [(.int (2 : Int32)), (.int (3 : Int32))])
        refine X49.step (fun hA hx hq t_ k_ => XS.icmpNo hA hx rfl (hb hq at_187) rfl (flt ((by decide))).1 k_) ?_
        show OFin _ _ _ _ _ _ T49 (mkF m 190 #[.val (.int p0), .val (.int p1), .val (.int p2), .val (.int p3), .val (.int p4), .val (.int (3 : Int32)), .val (.int ca), .val (.int cb), .val (.int cc), .val (.int cd), .val (.ref b34), .val (.ref b42), .val (.ref kk), .val (.ref b42)] [])
        refine X49.step (fun hA hx hq t_ k_ => XS.aload hA hx rfl (hb hq at_190) rfl rfl k_) ?_
        show OFin _ _ _ _ _ _ T49 (mkF m 192 #[.val (.int p0), .val (.int p1), .val (.int p2), .val (.int p3), .val (.int p4), .val (.int (3 : Int32)), .val (.int ca), .val (.int cb), .val (.int cc), .val (.int cd), .val (.ref b34), .val (.ref b42), .val (.ref kk), .val (.ref b42)] [(.ref b42)])
        refine X49.step (fun hA hx hq t_ k_ => XS.iconst hA hx rfl (hb hq at_192) k_) ?_
        show OFin _ _ _ _ _ _ T49 (mkF m 193 #[.val (.int p0), .val (.int p1), .val (.int p2), .val (.int p3), .val (.int p4), .val (.int (3 : Int32)), .val (.int ca), .val (.int cb), .val (.int cc), .val (.int cd), .val (.ref b34), .val (.ref b42), .val (.ref kk), .val (.ref b42)] [(.int (1 : Int32)), (.ref b42)])
        refine X49.callV (y' := (⟨"java/lang/String", "charAt", "(I)C"⟩ : MethodName)) (z' := (⟨"java/lang/String", "charAt", "(I)C"⟩ : MethodName)) (hw _ (List.mem_of_getElem? (i := 97) rfl)) (hw _ (List.mem_of_getElem? (i := 62) rfl)) (X49.notFace (hw _ (List.mem_of_getElem? (i := 64) rfl)) rfl) (hw _ (List.mem_of_getElem? (i := 64) rfl)) (hw _ (List.mem_of_getElem? (i := 63) rfl)) (hw _ (List.mem_of_getElem? (i := 8) rfl)) (hw _ (List.mem_of_getElem? (i := 65) rfl)) (by decide) S46.1 (argsL := [(.int (1 : Int32))]) (rest := []) (sc5 l Z a0 hw b42 t 3 (own_f ca cb cc cd) 1 cs vf h46 n0 S46 (by decide) (by decide) ⟨by have := ((own_fok okca okcb okcc okcd) 1).1; omega, by have := ((own_fok okca okcb okcc okcd) 1).2; omega⟩ (SS.ext O3.2) hcs (SP.ext O3.2) rf) (g := (mkF m 193 #[.val (.int p0), .val (.int p1), .val (.int p2), .val (.int p3), .val (.int p4), .val (.int (3 : Int32)), .val (.int ca), .val (.int cb), .val (.int cc), .val (.int cd), .val (.ref b34), .val (.ref b42), .val (.ref kk), .val (.ref b42)] [(.int (1 : Int32)), (.ref b42)])) rfl rfl pd_pIr_C rfl rfl (W := 0) (by show 2 * 0 + _ ≤ _; exact Nat.le_of_eq rfl) at_193 (by decide) (by decide) (by decide) (by decide) ?_
        intro v50 T50 h50 X50 q50
        obtain ⟨rfl, rfl⟩ := q50
        show OFin _ _ _ _ _ _ T50 (mkF m 196 #[.val (.int p0), .val (.int p1), .val (.int p2), .val (.int p3), .val (.int p4), .val (.int (3 : Int32)), .val (.int ca), .val (.int cb), .val (.int cc), .val (.int cd), .val (.ref b34), .val (.ref b42), .val (.ref kk), .val (.ref b42)] [(.int ((own_f ca cb cc cd) 1))])
        refine X50.step (fun hA hx hq t_ k_ => XS.iload hA hx rfl (hb hq at_196) rfl k_) ?_
        show OFin _ _ _ _ _ _ T50 (mkF m 198 #[.val (.int p0), .val (.int p1), .val (.int p2), .val (.int p3), .val (.int p4), .val (.int (3 : Int32)), .val (.int ca), .val (.int cb), .val (.int cc), .val (.int cd), .val (.ref b34), .val (.ref b42), .val (.ref kk), .val (.ref b42)] [(.int cb), (.int ((own_f ca cb cc cd) 1))])
        refine X50.step (fun hA hx hq t_ k_ => XS.icmpYes hA hx rfl (pc0 := 198) (pc' := 203) rfl (hb hq at_198) rfl (teq ((rfl : (own_f ca cb cc cd) 1 = cb))).1 (by decide) (by decide) k_) ?_
        show OFin _ _ _ _ _ _ T50 (mkF m 203 #[.val (.int p0), .val (.int p1), .val (.int p2), .val (.int p3), .val (.int p4), .val (.int (3 : Int32)), .val (.int ca), .val (.int cb), .val (.int cc), .val (.int cd), .val (.ref b34), .val (.ref b42), .val (.ref kk), .val (.ref b42)] [])
        refine X50.step (fun hA hx hq t_ k_ => XS.iload hA hx rfl (hb hq at_203) rfl k_) ?_
        show OFin _ _ _ _ _ _ T50 (mkF m 205 #[.val (.int p0), .val (.int p1), .val (.int p2), .val (.int p3), .val (.int p4), .val (.int (3 : Int32)), .val (.int ca), .val (.int cb), .val (.int cc), .val (.int cd), .val (.ref b34), .val (.ref b42), .val (.ref kk), .val (.ref b42)] [(.int (3 : Int32))])
        refine X50.step (fun hA hx hq t_ k_ => XS.iconst hA hx rfl (hb hq at_205) k_) ?_
        show OFin _ _ _ _ _ _ T50 (mkF m 206 #[.val (.int p0), .val (.int p1), .val (.int p2), .val (.int p3), .val (.int p4), .val (.int (3 : Int32)), .val (.int ca), .val (.int cb), .val (.int cc), .val (.int cd), .val (.ref b34), .val (.ref b42), .val (.ref kk), .val (.ref b42)] [(.int (3 : Int32)), (.int (3 : Int32))])
        refine X50.step (fun hA hx hq t_ k_ => XS.icmpNo hA hx rfl (hb hq at_206) rfl (flt ((by decide))).1 k_) ?_
        show OFin _ _ _ _ _ _ T50 (mkF m 209 #[.val (.int p0), .val (.int p1), .val (.int p2), .val (.int p3), .val (.int p4), .val (.int (3 : Int32)), .val (.int ca), .val (.int cb), .val (.int cc), .val (.int cd), .val (.ref b34), .val (.ref b42), .val (.ref kk), .val (.ref b42)] [])
        refine X50.step (fun hA hx hq t_ k_ => XS.aload hA hx rfl (hb hq at_209) rfl rfl k_) ?_
        show OFin _ _ _ _ _ _ T50 (mkF m 211 #[.val (.int p0), .val (.int p1), .val (.int p2), .val (.int p3), .val (.int p4), .val (.int (3 : Int32)), .val (.int ca), .val (.int cb), .val (.int cc), .val (.int cd), .val (.ref b34), .val (.ref b42), .val (.ref kk), .val (.ref b42)] [(.ref b42)])
        refine X50.step (fun hA hx hq t_ k_ => XS.iconst hA hx rfl (hb hq at_211) k_) ?_
        show OFin _ _ _ _ _ _ T50 (mkF m 212 #[.val (.int p0), .val (.int p1), .val (.int p2), .val (.int p3), .val (.int p4), .val (.int (3 : Int32)), .val (.int ca), .val (.int cb), .val (.int cc), .val (.int cd), .val (.ref b34), .val (.ref b42), .val (.ref kk), .val (.ref b42)] [(.int (2 : Int32)), (.ref b42)])
        refine X50.callV (y' := (⟨"java/lang/String", "charAt", "(I)C"⟩ : MethodName)) (z' := (⟨"java/lang/String", "charAt", "(I)C"⟩ : MethodName)) (hw _ (List.mem_of_getElem? (i := 97) rfl)) (hw _ (List.mem_of_getElem? (i := 62) rfl)) (X50.notFace (hw _ (List.mem_of_getElem? (i := 64) rfl)) rfl) (hw _ (List.mem_of_getElem? (i := 64) rfl)) (hw _ (List.mem_of_getElem? (i := 63) rfl)) (hw _ (List.mem_of_getElem? (i := 8) rfl)) (hw _ (List.mem_of_getElem? (i := 65) rfl)) (by decide) S46.1 (argsL := [(.int (2 : Int32))]) (rest := []) (sc5 l Z a0 hw b42 t 3 (own_f ca cb cc cd) 2 cs vf h46 n0 S46 (by decide) (by decide) ⟨by have := ((own_fok okca okcb okcc okcd) 2).1; omega, by have := ((own_fok okca okcb okcc okcd) 2).2; omega⟩ (SS.ext O3.2) hcs (SP.ext O3.2) rf) (g := (mkF m 212 #[.val (.int p0), .val (.int p1), .val (.int p2), .val (.int p3), .val (.int p4), .val (.int (3 : Int32)), .val (.int ca), .val (.int cb), .val (.int cc), .val (.int cd), .val (.ref b34), .val (.ref b42), .val (.ref kk), .val (.ref b42)] [(.int (2 : Int32)), (.ref b42)])) rfl rfl pd_pIr_C rfl rfl (W := 0) (by show 2 * 0 + _ ≤ _; exact Nat.le_of_eq rfl) at_212 (by decide) (by decide) (by decide) (by decide) ?_
        intro v51 T51 h51 X51 q51
        obtain ⟨rfl, rfl⟩ := q51
        show OFin _ _ _ _ _ _ T51 (mkF m 215 #[.val (.int p0), .val (.int p1), .val (.int p2), .val (.int p3), .val (.int p4), .val (.int (3 : Int32)), .val (.int ca), .val (.int cb), .val (.int cc), .val (.int cd), .val (.ref b34), .val (.ref b42), .val (.ref kk), .val (.ref b42)] [(.int ((own_f ca cb cc cd) 2))])
        refine X51.step (fun hA hx hq t_ k_ => XS.iload hA hx rfl (hb hq at_215) rfl k_) ?_
        show OFin _ _ _ _ _ _ T51 (mkF m 217 #[.val (.int p0), .val (.int p1), .val (.int p2), .val (.int p3), .val (.int p4), .val (.int (3 : Int32)), .val (.int ca), .val (.int cb), .val (.int cc), .val (.int cd), .val (.ref b34), .val (.ref b42), .val (.ref kk), .val (.ref b42)] [(.int cc), (.int ((own_f ca cb cc cd) 2))])
        refine X51.step (fun hA hx hq t_ k_ => XS.icmpYes hA hx rfl (pc0 := 217) (pc' := 222) rfl (hb hq at_217) rfl (teq ((rfl : (own_f ca cb cc cd) 2 = cc))).1 (by decide) (by decide) k_) ?_
        show OFin _ _ _ _ _ _ T51 (mkF m 222 #[.val (.int p0), .val (.int p1), .val (.int p2), .val (.int p3), .val (.int p4), .val (.int (3 : Int32)), .val (.int ca), .val (.int cb), .val (.int cc), .val (.int cd), .val (.ref b34), .val (.ref b42), .val (.ref kk), .val (.ref b42)] [])
        refine X51.step (fun hA hx hq t_ k_ => XS.iload hA hx rfl (hb hq at_222) rfl k_) ?_
        show OFin _ _ _ _ _ _ T51 (mkF m 224 #[.val (.int p0), .val (.int p1), .val (.int p2), .val (.int p3), .val (.int p4), .val (.int (3 : Int32)), .val (.int ca), .val (.int cb), .val (.int cc), .val (.int cd), .val (.ref b34), .val (.ref b42), .val (.ref kk), .val (.ref b42)] [(.int (3 : Int32))])
        refine X51.step (fun hA hx hq t_ k_ => XS.iconst hA hx rfl (hb hq at_224) k_) ?_
        show OFin _ _ _ _ _ _ T51 (mkF m 225 #[.val (.int p0), .val (.int p1), .val (.int p2), .val (.int p3), .val (.int p4), .val (.int (3 : Int32)), .val (.int ca), .val (.int cb), .val (.int cc), .val (.int cd), .val (.ref b34), .val (.ref b42), .val (.ref kk), .val (.ref b42)] [(.int (4 : Int32)), (.int (3 : Int32))])
        refine X51.step (fun hA hx hq t_ k_ => XS.icmpYes hA hx rfl (pc0 := 225) (pc' := 241) rfl (hb hq at_225) rfl (tlt ((by decide))).1 (by decide) (by decide) k_) ?_
        show OFin _ _ _ _ _ _ T51 (mkF m 241 #[.val (.int p0), .val (.int p1), .val (.int p2), .val (.int p3), .val (.int p4), .val (.int (3 : Int32)), .val (.int ca), .val (.int cb), .val (.int cc), .val (.int cd), .val (.ref b34), .val (.ref b42), .val (.ref kk), .val (.ref b42)] [])
        refine X51.step (fun hA hx hq t_ k_ => XS.aload hA hx rfl (hb hq at_241) rfl rfl k_) ?_
        show OFin _ _ _ _ _ _ T51 (mkF m 243 #[.val (.int p0), .val (.int p1), .val (.int p2), .val (.int p3), .val (.int p4), .val (.int (3 : Int32)), .val (.int ca), .val (.int cb), .val (.int cc), .val (.int cd), .val (.ref b34), .val (.ref b42), .val (.ref kk), .val (.ref b42)] [(.ref b42)])
        refine X51.step (fun hA hx hq t_ k_ => XS.aload hA hx rfl (hb hq at_243) rfl rfl k_) ?_
        show OFin _ _ _ _ _ _ T51 (mkF m 245 #[.val (.int p0), .val (.int p1), .val (.int p2), .val (.int p3), .val (.int p4), .val (.int (3 : Int32)), .val (.int ca), .val (.int cb), .val (.int cc), .val (.int cd), .val (.ref b34), .val (.ref b42), .val (.ref kk), .val (.ref b42)] [(.ref b42), (.ref b42)])
        refine X51.callV (y' := (⟨"java/lang/String", "equals", "(Ljava/lang/Object;)Z"⟩ : MethodName)) (z' := (⟨"java/lang/String", "equals", "(Ljava/lang/Object;)Z"⟩ : MethodName)) (hw _ (List.mem_of_getElem? (i := 98) rfl)) (hw _ (List.mem_of_getElem? (i := 99) rfl)) (X51.notFace (hw _ (List.mem_of_getElem? (i := 101) rfl)) rfl) (hw _ (List.mem_of_getElem? (i := 101) rfl)) (hw _ (List.mem_of_getElem? (i := 100) rfl)) (hw _ (List.mem_of_getElem? (i := 8) rfl)) (hw _ (List.mem_of_getElem? (i := 102) rfl)) (by decide) S46.1 (argsL := [(.ref b42)]) (rest := []) (se1 l Z a0 hw b42 h46 n0) (g := (mkF m 245 #[.val (.int p0), .val (.int p1), .val (.int p2), .val (.int p3), .val (.int p4), .val (.int (3 : Int32)), .val (.int ca), .val (.int cb), .val (.int cc), .val (.int cd), .val (.ref b34), .val (.ref b42), .val (.ref kk), .val (.ref b42)] [(.ref b42), (.ref b42)])) rfl rfl pd_pLjava_lang_Object_r_Z rfl rfl (W := 0) (by show 2 * 0 + _ ≤ _; exact Nat.le_of_eq rfl) at_245 (by decide) (by decide) (by decide) (by decide) ?_
        intro v52 T52 h52 X52 q52
        obtain ⟨rfl, rfl⟩ := q52
        show OFin _ _ _ _ _ _ T52 (mkF m 248 #[.val (.int p0), .val (.int p1), .val (.int p2), .val (.int p3), .val (.int p4), .val (.int (3 : Int32)), .val (.int ca), .val (.int cb), .val (.int cc), .val (.int cd), .val (.ref b34), .val (.ref b42), .val (.ref kk), .val (.ref b42)] [(.int (1 : Int32))])
        exact X52.retN (by simp) at_248 (oW X52 B46 (by decide) (by decide)) (rfl)
      · refine X4.step (fun hA hx hq t_ k_ => XS.icmpYes hA hx rfl (pc0 := 78) (pc' := 104) rfl (hb hq at_78) rfl (feq (k3)).2 (by decide) (by decide) k_) ?_
        show OFin _ _ _ _ _ _ T4 (mkF m 104 #[.val (.int p0), .val (.int p1), .val (.int p2), .val (.int p3), .val (.int p4), .val (.int nn), .val (.int ca), .val (.int cb), .val (.int cc), .val (.int cd), .unset, .unset, .unset, .unset] [])
        have k4 : nn = 4 := by
          apply Int32.toInt_inj.mp
          have t4 : (4 : Int32).toInt = 4 := by decide
          have q1 : nn.toInt ≠ 1 := fun q => k1 (Int32.toInt_inj.mp (q.trans (by decide)))
          have q2 : nn.toInt ≠ 2 := fun q => k2 (Int32.toInt_inj.mp (q.trans (by decide)))
          have q3 : nn.toInt ≠ 3 := fun q => k3 (Int32.toInt_inj.mp (q.trans (by decide)))
          omega
        subst k4
        show OFin _ _ _ _ _ _ T4 (mkF m 104 #[.val (.int p0), .val (.int p1), .val (.int p2), .val (.int p3), .val (.int p4), .val (.int (4 : Int32)), .val (.int ca), .val (.int cb), .val (.int cc), .val (.int cd), .unset, .unset, .unset, .unset] [])
        refine X4.step (fun hA hx hq t_ k_ => XS.iconst hA hx rfl (hb hq at_104) k_) ?_
        show OFin _ _ _ _ _ _ T4 (mkF m 105 #[.val (.int p0), .val (.int p1), .val (.int p2), .val (.int p3), .val (.int p4), .val (.int (4 : Int32)), .val (.int ca), .val (.int cb), .val (.int cc), .val (.int cd), .unset, .unset, .unset, .unset] [(.int (4 : Int32))])
        refine X4.newP (hw _ (List.mem_of_getElem? (i := 5) rfl)) (g := (mkF m 105 #[.val (.int p0), .val (.int p1), .val (.int p2), .val (.int p3), .val (.int p4), .val (.int (4 : Int32)), .val (.int ca), .val (.int cb), .val (.int cc), .val (.int cd), .unset, .unset, .unset, .unset] [(.int (4 : Int32))])) rfl at_105 rfl (by decide) (cap := 4) (by decide) (by decide) (by decide) (by decide) (ad := "[C") (by first | rfl | decide) ?_
        intro T53 h53 k53 b53 gb53 X53 E53 A53 G53
        have B54 := B0.ext E53
        show OFin _ _ _ _ _ _ T53 (mkF m 107 #[.val (.int p0), .val (.int p1), .val (.int p2), .val (.int p3), .val (.int p4), .val (.int (4 : Int32)), .val (.int ca), .val (.int cb), .val (.int cc), .val (.int cd), .unset, .unset, .unset, .unset] [(.ref b53)])
        have V0 := OArr.new A53
        have hB : n0 ≤ b53 := by rw [gb53]; exact Z0
        refine X53.step (fun hA hx hq t_ k_ => XS.dup hA hx rfl (hb hq at_107) rfl rfl k_) ?_
        show OFin _ _ _ _ _ _ T53 (mkF m 108 #[.val (.int p0), .val (.int p1), .val (.int p2), .val (.int p3), .val (.int p4), .val (.int (4 : Int32)), .val (.int ca), .val (.int cb), .val (.int cc), .val (.int cd), .unset, .unset, .unset, .unset] [(.ref b53), (.ref b53)])
        refine X53.step (fun hA hx hq t_ k_ => XS.iconst hA hx rfl (hb hq at_108) k_) ?_
        show OFin _ _ _ _ _ _ T53 (mkF m 109 #[.val (.int p0), .val (.int p1), .val (.int p2), .val (.int p3), .val (.int p4), .val (.int (4 : Int32)), .val (.int ca), .val (.int cb), .val (.int cc), .val (.int cd), .unset, .unset, .unset, .unset] [(.int (0 : Int32)), (.ref b53), (.ref b53)])
        refine X53.step (fun hA hx hq t_ k_ => XS.iload hA hx rfl (hb hq at_109) rfl k_) ?_
        show OFin _ _ _ _ _ _ T53 (mkF m 111 #[.val (.int p0), .val (.int p1), .val (.int p2), .val (.int p3), .val (.int p4), .val (.int (4 : Int32)), .val (.int ca), .val (.int cb), .val (.int cc), .val (.int cd), .unset, .unset, .unset, .unset] [(.int ca), (.int (0 : Int32)), (.ref b53), (.ref b53)])
        obtain ⟨c0, Ar0, Sr0, Hr0⟩ := id V0
        refine X53.stC Ar0 (by rw [Sr0]; decide) (hB) (g := (mkF m 111 #[.val (.int p0), .val (.int p1), .val (.int p2), .val (.int p3), .val (.int p4), .val (.int (4 : Int32)), .val (.int ca), .val (.int cb), .val (.int cc), .val (.int cd), .unset, .unset, .unset, .unset] [(.int ca), (.int (0 : Int32)), (.ref b53), (.ref b53)])) rfl rfl at_111 ?_
        intro T55 h55 X55 W55
        have B56 := B54.wr W55 safe_nil
        show OFin _ _ _ _ _ _ T55 (mkF m 112 #[.val (.int p0), .val (.int p1), .val (.int p2), .val (.int p3), .val (.int p4), .val (.int (4 : Int32)), .val (.int ca), .val (.int cb), .val (.int cc), .val (.int cd), .unset, .unset, .unset, .unset] [(.ref b53)])
        rw [own_narC _ (by have := okca.1; omega) (by have := okca.2; omega)] at W55
        have V1 := V0.set W55
        refine X55.step (fun hA hx hq t_ k_ => XS.dup hA hx rfl (hb hq at_112) rfl rfl k_) ?_
        show OFin _ _ _ _ _ _ T55 (mkF m 113 #[.val (.int p0), .val (.int p1), .val (.int p2), .val (.int p3), .val (.int p4), .val (.int (4 : Int32)), .val (.int ca), .val (.int cb), .val (.int cc), .val (.int cd), .unset, .unset, .unset, .unset] [(.ref b53), (.ref b53)])
        refine X55.step (fun hA hx hq t_ k_ => XS.iconst hA hx rfl (hb hq at_113) k_) ?_
        show OFin _ _ _ _ _ _ T55 (mkF m 114 #[.val (.int p0), .val (.int p1), .val (.int p2), .val (.int p3), .val (.int p4), .val (.int (4 : Int32)), .val (.int ca), .val (.int cb), .val (.int cc), .val (.int cd), .unset, .unset, .unset, .unset] [(.int (1 : Int32)), (.ref b53), (.ref b53)])
        refine X55.step (fun hA hx hq t_ k_ => XS.iload hA hx rfl (hb hq at_114) rfl k_) ?_
        show OFin _ _ _ _ _ _ T55 (mkF m 116 #[.val (.int p0), .val (.int p1), .val (.int p2), .val (.int p3), .val (.int p4), .val (.int (4 : Int32)), .val (.int ca), .val (.int cb), .val (.int cc), .val (.int cd), .unset, .unset, .unset, .unset] [(.int cb), (.int (1 : Int32)), (.ref b53), (.ref b53)])
        obtain ⟨c1, Ar1, Sr1, Hr1⟩ := id V1
        refine X55.stC Ar1 (by rw [Sr1]; decide) (hB) (g := (mkF m 116 #[.val (.int p0), .val (.int p1), .val (.int p2), .val (.int p3), .val (.int p4), .val (.int (4 : Int32)), .val (.int ca), .val (.int cb), .val (.int cc), .val (.int cd), .unset, .unset, .unset, .unset] [(.int cb), (.int (1 : Int32)), (.ref b53), (.ref b53)])) rfl rfl at_116 ?_
        intro T57 h57 X57 W57
        have B58 := B56.wr W57 safe_nil
        show OFin _ _ _ _ _ _ T57 (mkF m 117 #[.val (.int p0), .val (.int p1), .val (.int p2), .val (.int p3), .val (.int p4), .val (.int (4 : Int32)), .val (.int ca), .val (.int cb), .val (.int cc), .val (.int cd), .unset, .unset, .unset, .unset] [(.ref b53)])
        rw [own_narC _ (by have := okcb.1; omega) (by have := okcb.2; omega)] at W57
        have V2 := V1.set W57
        refine X57.step (fun hA hx hq t_ k_ => XS.dup hA hx rfl (hb hq at_117) rfl rfl k_) ?_
        show OFin _ _ _ _ _ _ T57 (mkF m 118 #[.val (.int p0), .val (.int p1), .val (.int p2), .val (.int p3), .val (.int p4), .val (.int (4 : Int32)), .val (.int ca), .val (.int cb), .val (.int cc), .val (.int cd), .unset, .unset, .unset, .unset] [(.ref b53), (.ref b53)])
        refine X57.step (fun hA hx hq t_ k_ => XS.iconst hA hx rfl (hb hq at_118) k_) ?_
        show OFin _ _ _ _ _ _ T57 (mkF m 119 #[.val (.int p0), .val (.int p1), .val (.int p2), .val (.int p3), .val (.int p4), .val (.int (4 : Int32)), .val (.int ca), .val (.int cb), .val (.int cc), .val (.int cd), .unset, .unset, .unset, .unset] [(.int (2 : Int32)), (.ref b53), (.ref b53)])
        refine X57.step (fun hA hx hq t_ k_ => XS.iload hA hx rfl (hb hq at_119) rfl k_) ?_
        show OFin _ _ _ _ _ _ T57 (mkF m 121 #[.val (.int p0), .val (.int p1), .val (.int p2), .val (.int p3), .val (.int p4), .val (.int (4 : Int32)), .val (.int ca), .val (.int cb), .val (.int cc), .val (.int cd), .unset, .unset, .unset, .unset] [(.int cc), (.int (2 : Int32)), (.ref b53), (.ref b53)])
        obtain ⟨c2, Ar2, Sr2, Hr2⟩ := id V2
        refine X57.stC Ar2 (by rw [Sr2]; decide) (hB) (g := (mkF m 121 #[.val (.int p0), .val (.int p1), .val (.int p2), .val (.int p3), .val (.int p4), .val (.int (4 : Int32)), .val (.int ca), .val (.int cb), .val (.int cc), .val (.int cd), .unset, .unset, .unset, .unset] [(.int cc), (.int (2 : Int32)), (.ref b53), (.ref b53)])) rfl rfl at_121 ?_
        intro T59 h59 X59 W59
        have B60 := B58.wr W59 safe_nil
        show OFin _ _ _ _ _ _ T59 (mkF m 122 #[.val (.int p0), .val (.int p1), .val (.int p2), .val (.int p3), .val (.int p4), .val (.int (4 : Int32)), .val (.int ca), .val (.int cb), .val (.int cc), .val (.int cd), .unset, .unset, .unset, .unset] [(.ref b53)])
        rw [own_narC _ (by have := okcc.1; omega) (by have := okcc.2; omega)] at W59
        have V3 := V2.set W59
        refine X59.step (fun hA hx hq t_ k_ => XS.dup hA hx rfl (hb hq at_122) rfl rfl k_) ?_
        show OFin _ _ _ _ _ _ T59 (mkF m 123 #[.val (.int p0), .val (.int p1), .val (.int p2), .val (.int p3), .val (.int p4), .val (.int (4 : Int32)), .val (.int ca), .val (.int cb), .val (.int cc), .val (.int cd), .unset, .unset, .unset, .unset] [(.ref b53), (.ref b53)])
        refine X59.step (fun hA hx hq t_ k_ => XS.iconst hA hx rfl (hb hq at_123) k_) ?_
        show OFin _ _ _ _ _ _ T59 (mkF m 124 #[.val (.int p0), .val (.int p1), .val (.int p2), .val (.int p3), .val (.int p4), .val (.int (4 : Int32)), .val (.int ca), .val (.int cb), .val (.int cc), .val (.int cd), .unset, .unset, .unset, .unset] [(.int (3 : Int32)), (.ref b53), (.ref b53)])
        refine X59.step (fun hA hx hq t_ k_ => XS.iload hA hx rfl (hb hq at_124) rfl k_) ?_
        show OFin _ _ _ _ _ _ T59 (mkF m 126 #[.val (.int p0), .val (.int p1), .val (.int p2), .val (.int p3), .val (.int p4), .val (.int (4 : Int32)), .val (.int ca), .val (.int cb), .val (.int cc), .val (.int cd), .unset, .unset, .unset, .unset] [(.int cd), (.int (3 : Int32)), (.ref b53), (.ref b53)])
        obtain ⟨c3, Ar3, Sr3, Hr3⟩ := id V3
        refine X59.stC Ar3 (by rw [Sr3]; decide) (hB) (g := (mkF m 126 #[.val (.int p0), .val (.int p1), .val (.int p2), .val (.int p3), .val (.int p4), .val (.int (4 : Int32)), .val (.int ca), .val (.int cb), .val (.int cc), .val (.int cd), .unset, .unset, .unset, .unset] [(.int cd), (.int (3 : Int32)), (.ref b53), (.ref b53)])) rfl rfl at_126 ?_
        intro T61 h61 X61 W61
        have B62 := B60.wr W61 safe_nil
        show OFin _ _ _ _ _ _ T61 (mkF m 127 #[.val (.int p0), .val (.int p1), .val (.int p2), .val (.int p3), .val (.int p4), .val (.int (4 : Int32)), .val (.int ca), .val (.int cb), .val (.int cc), .val (.int cd), .unset, .unset, .unset, .unset] [(.ref b53)])
        rw [own_narC _ (by have := okcd.1; omega) (by have := okcd.2; omega)] at W61
        have V4 := V3.set W61
        have VC : OArr Z h61 b53 .char 4 (fun j => .int ((own_f ca cb cc cd) j)) := V4.congr fun j hj => by
          have hj' : j < 4 := hj
          match j, hj' with
          | 0, _ => rfl
          | 1, _ => rfl
          | 2, _ => rfl
          | 3, _ => rfl
        have E0 := E53
        have Kc : Keep h0 h61 [] := ((((((Keep.refl h0 []).ext E53).wr W55 (Or.inr (Nat.le_of_eq gb53.symm))).wr W57 (Or.inr (Nat.le_of_eq gb53.symm))).wr W59 (Or.inr (Nat.le_of_eq gb53.symm))).wr W61 (Or.inr (Nat.le_of_eq gb53.symm)))
        refine X61.step (fun hA hx hq t_ k_ => XS.astore hA hx rfl (hb hq at_127) rfl rfl (l' := #[.val (.int p0), .val (.int p1), .val (.int p2), .val (.int p3), .val (.int p4), .val (.int (4 : Int32)), .val (.int ca), .val (.int cb), .val (.int cc), .val (.int cd), .val (.ref b53), .unset, .unset, .unset]) rfl k_) ?_
        show OFin _ _ _ _ _ _ T61 (mkF m 129 #[.val (.int p0), .val (.int p1), .val (.int p2), .val (.int p3), .val (.int p4), .val (.int (4 : Int32)), .val (.int ca), .val (.int cb), .val (.int cc), .val (.int cd), .val (.ref b53), .unset, .unset, .unset] [])
        refine X61.newO (hw _ (List.mem_of_getElem? (i := 6) rfl)) (hw _ (List.mem_of_getElem? (i := 7) rfl)) (hw _ (List.mem_of_getElem? (i := 8) rfl)) (g := (mkF m 129 #[.val (.int p0), .val (.int p1), .val (.int p2), .val (.int p3), .val (.int p4), .val (.int (4 : Int32)), .val (.int ca), .val (.int cb), .val (.int cc), .val (.int cd), .val (.ref b53), .unset, .unset, .unset] [])) rfl at_129 (by decide) (by decide) ?_
        intro T63 h63 b63 gb63 X63 E63 A63 D63
        have B64 := B62.ext E63
        show OFin _ _ _ _ _ _ T63 (mkF m 132 #[.val (.int p0), .val (.int p1), .val (.int p2), .val (.int p3), .val (.int p4), .val (.int (4 : Int32)), .val (.int ca), .val (.int cb), .val (.int cc), .val (.int cd), .val (.ref b53), .unset, .unset, .unset] [(.ref b63)])
        have O1 := (O0.keep Kc all0).ext E63
        have Fv : Fld Z h63 b63 "java/lang/String" "value" "[B" .null := D63 (Or.inr (hw _ (List.mem_of_getElem? (i := 34) rfl))) (ty := (.array .byte)) (by decide)
        have Fc : Fld Z h63 b63 "java/lang/String" "coder" "B" (.int (0 : Int32)) := D63 (Or.inr (hw _ (List.mem_of_getElem? (i := 32) rfl))) (ty := .byte) (by decide)
        have hm : n0 ≤ b63 := by rw [gb63]; exact Nat.le_trans Z0 Kc.1
        refine X63.step (fun hA hx hq t_ k_ => XS.dup hA hx rfl (hb hq at_132) rfl rfl k_) ?_
        show OFin _ _ _ _ _ _ T63 (mkF m 133 #[.val (.int p0), .val (.int p1), .val (.int p2), .val (.int p3), .val (.int p4), .val (.int (4 : Int32)), .val (.int ca), .val (.int cb), .val (.int cc), .val (.int cd), .val (.ref b53), .unset, .unset, .unset] [(.ref b63), (.ref b63)])
        refine X63.step (fun hA hx hq t_ k_ => XS.aload hA hx rfl (hb hq at_133) rfl rfl k_) ?_
        show OFin _ _ _ _ _ _ T63 (mkF m 135 #[.val (.int p0), .val (.int p1), .val (.int p2), .val (.int p3), .val (.int p4), .val (.int (4 : Int32)), .val (.int ca), .val (.int cb), .val (.int cc), .val (.int cd), .val (.ref b53), .unset, .unset, .unset] [(.ref b53), (.ref b63), (.ref b63)])
        refine X63.callI (y' := (⟨"java/lang/String", "<init>", "([C)V"⟩ : MethodName)) rfl (hw _ (List.mem_of_getElem? (i := 9) rfl)) (hw _ (List.mem_of_getElem? (i := 10) rfl)) (hw _ (List.mem_of_getElem? (i := 8) rfl)) (hw _ (List.mem_of_getElem? (i := 11) rfl)) (by decide) (a := b63) (argsL := [(.ref b53)]) (rest := [(.ref b63)]) (sm5 l Z a0 hw b63 b53 4 (own_f ca cb cc cd) cs h63 n0 Fv Fc A63 hm (VC.ext E63) (by decide) (by decide) (fun j _ => ⟨by have := ((own_fok okca okcb okcc okcd) j).1; omega, by have := ((own_fok okca okcb okcc okcd) j).2; omega⟩) (Nat.le_trans Z0 (Nat.le_trans Kc.1 E63.1)) (SS.ext O1.2) hcs) (g := (mkF m 135 #[.val (.int p0), .val (.int p1), .val (.int p2), .val (.int p3), .val (.int p4), .val (.int (4 : Int32)), .val (.int ca), .val (.int cb), .val (.int cc), .val (.int cd), .val (.ref b53), .unset, .unset, .unset] [(.ref b53), (.ref b63), (.ref b63)])) rfl rfl pd_pA_Cr_V rfl rfl (W := 1) (by show 2 * 0 + _ ≤ _; exact Nat.le_of_eq rfl) at_135 (by decide) (by decide) (by decide) (by decide) ?_
        intro v65 T65 h65 X65 q65
        obtain ⟨rfl, K65, t, S65, lt65⟩ := q65
        have B66 := B64.keep K65 (sfS safe_nil sf0)
        show OFin _ _ _ _ _ _ T65 (mkF m 138 #[.val (.int p0), .val (.int p1), .val (.int p2), .val (.int p3), .val (.int p4), .val (.int (4 : Int32)), .val (.int ca), .val (.int cb), .val (.int cc), .val (.int cd), .val (.ref b53), .unset, .unset, .unset] [(.ref b63)])
        have O2 := O1.keep K65 (allS hm all0)
        refine X65.step (fun hA hx hq t_ k_ => XS.astore hA hx rfl (hb hq at_138) rfl rfl (l' := #[.val (.int p0), .val (.int p1), .val (.int p2), .val (.int p3), .val (.int p4), .val (.int (4 : Int32)), .val (.int ca), .val (.int cb), .val (.int cc), .val (.int cd), .val (.ref b53), .val (.ref b63), .unset, .unset]) rfl k_) ?_
        show OFin _ _ _ _ _ _ T65 (mkF m 140 #[.val (.int p0), .val (.int p1), .val (.int p2), .val (.int p3), .val (.int p4), .val (.int (4 : Int32)), .val (.int ca), .val (.int cb), .val (.int cc), .val (.int cd), .val (.ref b53), .val (.ref b63), .unset, .unset] [])
        refine X65.step (fun hA hx hq t_ k_ => XS.aload hA hx rfl (hb hq at_140) rfl rfl k_) ?_
        show OFin _ _ _ _ _ _ T65 (mkF m 142 #[.val (.int p0), .val (.int p1), .val (.int p2), .val (.int p3), .val (.int p4), .val (.int (4 : Int32)), .val (.int ca), .val (.int cb), .val (.int cc), .val (.int cd), .val (.ref b53), .val (.ref b63), .unset, .unset] [(.ref b63)])
        refine X65.callSW B66 (y' := (⟨"com/example/libidem/libidem/IdempotencyKey", "of", "(Ljava/lang/String;)Lcom/example/libidem/libidem/IdempotencyKey;"⟩ : MethodName)) (hw _ (List.mem_of_getElem? (i := 35) rfl)) (hw _ (List.mem_of_getElem? (i := 36) rfl)) (hw _ (List.mem_of_getElem? (i := 37) rfl)) (hw _ (List.mem_of_getElem? (i := 38) rfl)) (by decide) (argsL := [(.ref b63)]) (rest := []) (rm5 l Z a0 hw b63 t 4 (own_f ca cb cc cd) cs vf h65 n0 S65 (by decide) (by decide) (fun j => (own_fok okca okcb okcc okcd) j) (SS.ext O2.2) hcs (SP.ext O2.2) rf (Nat.le_trans (Nat.le_of_eq O2.1.symm) O2.2.1)) (g := (mkF m 142 #[.val (.int p0), .val (.int p1), .val (.int p2), .val (.int p3), .val (.int p4), .val (.int (4 : Int32)), .val (.int ca), .val (.int cb), .val (.int cc), .val (.int cd), .val (.ref b53), .val (.ref b63), .unset, .unset] [(.ref b63)])) rfl rfl pd_pLjava_lang_String_r_Lcom_example_libidem_libidem_IdempotencyKey_ rfl rfl (W := 0) (by show 2 * 0 + _ ≤ _; exact Nat.le_of_eq rfl) at_142 (by decide) (by decide) (by decide) (by decide) ?_
        intro v67 T67 h67 vm67 X67 B67 G67 Sf67 q67
        obtain ⟨kk, rfl, Ek, Fk, S67, XX67⟩ := q67
        show OFin _ _ _ _ _ _ T67 (mkF m 145 #[.val (.int p0), .val (.int p1), .val (.int p2), .val (.int p3), .val (.int p4), .val (.int (4 : Int32)), .val (.int ca), .val (.int cb), .val (.int cc), .val (.int cd), .val (.ref b53), .val (.ref b63), .unset, .unset] [(.ref kk)])
        have O3 := O2.ext XX67
        refine X67.step (fun hA hx hq t_ k_ => XS.astore hA hx rfl (hb hq at_145) rfl rfl (l' := #[.val (.int p0), .val (.int p1), .val (.int p2), .val (.int p3), .val (.int p4), .val (.int (4 : Int32)), .val (.int ca), .val (.int cb), .val (.int cc), .val (.int cd), .val (.ref b53), .val (.ref b63), .val (.ref kk), .unset]) rfl k_) ?_
        show OFin _ _ _ _ _ _ T67 (mkF m 147 #[.val (.int p0), .val (.int p1), .val (.int p2), .val (.int p3), .val (.int p4), .val (.int (4 : Int32)), .val (.int ca), .val (.int cb), .val (.int cc), .val (.int cd), .val (.ref b53), .val (.ref b63), .val (.ref kk), .unset] [])
        refine X67.step (fun hA hx hq t_ k_ => XS.aload hA hx rfl (hb hq at_147) rfl rfl k_) ?_
        show OFin _ _ _ _ _ _ T67 (mkF m 149 #[.val (.int p0), .val (.int p1), .val (.int p2), .val (.int p3), .val (.int p4), .val (.int (4 : Int32)), .val (.int ca), .val (.int cb), .val (.int cc), .val (.int cd), .val (.ref b53), .val (.ref b63), .val (.ref kk), .unset] [(.ref kk)])
        refine X67.callV (y' := (⟨"com/example/libidem/libidem/IdempotencyKey", "value", "()Ljava/lang/String;"⟩ : MethodName)) (z' := (⟨"com/example/libidem/libidem/IdempotencyKey", "value", "()Ljava/lang/String;"⟩ : MethodName)) (hw _ (List.mem_of_getElem? (i := 91) rfl)) (hw _ (List.mem_of_getElem? (i := 92) rfl)) (X67.notFace (hw _ (List.mem_of_getElem? (i := 94) rfl)) rfl) (hw _ (List.mem_of_getElem? (i := 94) rfl)) (hw _ (List.mem_of_getElem? (i := 93) rfl)) (hw _ (List.mem_of_getElem? (i := 37) rfl)) (hw _ (List.mem_of_getElem? (i := 95) rfl)) (by decide) Ek (argsL := []) (rest := []) (rm4 l Z a0 hw kk b63 h67 n0 Fk) (g := (mkF m 149 #[.val (.int p0), .val (.int p1), .val (.int p2), .val (.int p3), .val (.int p4), .val (.int (4 : Int32)), .val (.int ca), .val (.int cb), .val (.int cc), .val (.int cd), .val (.ref b53), .val (.ref b63), .val (.ref kk), .unset] [(.ref kk)])) rfl rfl pd_pr_Ljava_lang_String_ rfl rfl (W := 0) (by show 2 * 0 + _ ≤ _; exact Nat.le_of_eq rfl) at_149 (by decide) (by decide) (by decide) (by decide) ?_
        intro v68 T68 h68 X68 q68
        obtain ⟨rfl, rfl⟩ := q68
        show OFin _ _ _ _ _ _ T68 (mkF m 152 #[.val (.int p0), .val (.int p1), .val (.int p2), .val (.int p3), .val (.int p4), .val (.int (4 : Int32)), .val (.int ca), .val (.int cb), .val (.int cc), .val (.int cd), .val (.ref b53), .val (.ref b63), .val (.ref kk), .unset] [(.ref b63)])
        refine X68.step (fun hA hx hq t_ k_ => XS.astore hA hx rfl (hb hq at_152) rfl rfl (l' := #[.val (.int p0), .val (.int p1), .val (.int p2), .val (.int p3), .val (.int p4), .val (.int (4 : Int32)), .val (.int ca), .val (.int cb), .val (.int cc), .val (.int cd), .val (.ref b53), .val (.ref b63), .val (.ref kk), .val (.ref b63)]) rfl k_) ?_
        show OFin _ _ _ _ _ _ T68 (mkF m 154 #[.val (.int p0), .val (.int p1), .val (.int p2), .val (.int p3), .val (.int p4), .val (.int (4 : Int32)), .val (.int ca), .val (.int cb), .val (.int cc), .val (.int cd), .val (.ref b53), .val (.ref b63), .val (.ref kk), .val (.ref b63)] [])
        refine X68.step (fun hA hx hq t_ k_ => XS.aload hA hx rfl (hb hq at_154) rfl rfl k_) ?_
        show OFin _ _ _ _ _ _ T68 (mkF m 156 #[.val (.int p0), .val (.int p1), .val (.int p2), .val (.int p3), .val (.int p4), .val (.int (4 : Int32)), .val (.int ca), .val (.int cb), .val (.int cc), .val (.int cd), .val (.ref b53), .val (.ref b63), .val (.ref kk), .val (.ref b63)] [(.ref b63)])
        refine X68.step (fun hA hx hq t_ k_ => XS.ifnullNo hA hx rfl (hb hq at_156) rfl k_) ?_
        show OFin _ _ _ _ _ _ T68 (mkF m 159 #[.val (.int p0), .val (.int p1), .val (.int p2), .val (.int p3), .val (.int p4), .val (.int (4 : Int32)), .val (.int ca), .val (.int cb), .val (.int cc), .val (.int cd), .val (.ref b53), .val (.ref b63), .val (.ref kk), .val (.ref b63)] [])
        refine X68.step (fun hA hx hq t_ k_ => XS.aload hA hx rfl (hb hq at_159) rfl rfl k_) ?_
        show OFin _ _ _ _ _ _ T68 (mkF m 161 #[.val (.int p0), .val (.int p1), .val (.int p2), .val (.int p3), .val (.int p4), .val (.int (4 : Int32)), .val (.int ca), .val (.int cb), .val (.int cc), .val (.int cd), .val (.ref b53), .val (.ref b63), .val (.ref kk), .val (.ref b63)] [(.ref b63)])
        refine X68.callV (y' := (⟨"java/lang/String", "length", "()I"⟩ : MethodName)) (z' := (⟨"java/lang/String", "length", "()I"⟩ : MethodName)) (hw _ (List.mem_of_getElem? (i := 96) rfl)) (hw _ (List.mem_of_getElem? (i := 52) rfl)) (X68.notFace (hw _ (List.mem_of_getElem? (i := 54) rfl)) rfl) (hw _ (List.mem_of_getElem? (i := 54) rfl)) (hw _ (List.mem_of_getElem? (i := 53) rfl)) (hw _ (List.mem_of_getElem? (i := 8) rfl)) (hw _ (List.mem_of_getElem? (i := 55) rfl)) (by decide) S67.1 (argsL := []) (rest := []) (sl2 l Z a0 hw b63 t 4 (own_f ca cb cc cd) cs h67 n0 S67 (by decide) (SS.ext O3.2) hcs) (g := (mkF m 161 #[.val (.int p0), .val (.int p1), .val (.int p2), .val (.int p3), .val (.int p4), .val (.int (4 : Int32)), .val (.int ca), .val (.int cb), .val (.int cc), .val (.int cd), .val (.ref b53), .val (.ref b63), .val (.ref kk), .val (.ref b63)] [(.ref b63)])) rfl rfl pd_pr_I rfl rfl (W := 0) (by show 2 * 0 + _ ≤ _; exact Nat.le_of_eq rfl) at_161 (by decide) (by decide) (by decide) (by decide) ?_
        intro v69 T69 h69 X69 q69
        obtain ⟨rfl, rfl⟩ := q69
        show OFin _ _ _ _ _ _ T69 (mkF m 164 #[.val (.int p0), .val (.int p1), .val (.int p2), .val (.int p3), .val (.int p4), .val (.int (4 : Int32)), .val (.int ca), .val (.int cb), .val (.int cc), .val (.int cd), .val (.ref b53), .val (.ref b63), .val (.ref kk), .val (.ref b63)] [(.int (Int32.ofNat 4))])
        refine X69.step (fun hA hx hq t_ k_ => XS.iload hA hx rfl (hb hq at_164) rfl k_) ?_
        show OFin _ _ _ _ _ _ T69 (mkF m 166 #[.val (.int p0), .val (.int p1), .val (.int p2), .val (.int p3), .val (.int p4), .val (.int (4 : Int32)), .val (.int ca), .val (.int cb), .val (.int cc), .val (.int cd), .val (.ref b53), .val (.ref b63), .val (.ref kk), .val (.ref b63)] [(.int (4 : Int32)), (.int (Int32.ofNat 4))])
        refine X69.step (fun hA hx hq t_ k_ => XS.icmpYes hA hx rfl (pc0 := 166) (pc' := 171) rfl (hb hq at_166) rfl (teq ((by decide))).1 (by decide) (by decide) k_) ?_
        show OFin _ _ _ _ _ _ T69 (mkF m 171 #[.val (.int p0), .val (.int p1), .val (.int p2), .val (.int p3), .val (.int p4), .val (.int (4 : Int32)), .val (.int ca), .val (.int cb), .val (.int cc), .val (.int cd), .val (.ref b53), .val (.ref b63), .val (.ref kk), .val (.ref b63)] [])
        refine X69.step (fun hA hx hq t_ k_ => XS.aload hA hx rfl (hb hq at_171) rfl rfl k_) ?_
        show OFin _ _ _ _ _ _ T69 (mkF m 173 #[.val (.int p0), .val (.int p1), .val (.int p2), .val (.int p3), .val (.int p4), .val (.int (4 : Int32)), .val (.int ca), .val (.int cb), .val (.int cc), .val (.int cd), .val (.ref b53), .val (.ref b63), .val (.ref kk), .val (.ref b63)] [(.ref b63)])
        refine X69.step (fun hA hx hq t_ k_ => XS.iconst hA hx rfl (hb hq at_173) k_) ?_
        show OFin _ _ _ _ _ _ T69 (mkF m 174 #[.val (.int p0), .val (.int p1), .val (.int p2), .val (.int p3), .val (.int p4), .val (.int (4 : Int32)), .val (.int ca), .val (.int cb), .val (.int cc), .val (.int cd), .val (.ref b53), .val (.ref b63), .val (.ref kk), .val (.ref b63)] [(.int (0 : Int32)), (.ref b63)])
        refine X69.callV (y' := (⟨"java/lang/String", "charAt", "(I)C"⟩ : MethodName)) (z' := (⟨"java/lang/String", "charAt", "(I)C"⟩ : MethodName)) (hw _ (List.mem_of_getElem? (i := 97) rfl)) (hw _ (List.mem_of_getElem? (i := 62) rfl)) (X69.notFace (hw _ (List.mem_of_getElem? (i := 64) rfl)) rfl) (hw _ (List.mem_of_getElem? (i := 64) rfl)) (hw _ (List.mem_of_getElem? (i := 63) rfl)) (hw _ (List.mem_of_getElem? (i := 8) rfl)) (hw _ (List.mem_of_getElem? (i := 65) rfl)) (by decide) S67.1 (argsL := [(.int (0 : Int32))]) (rest := []) (sc5 l Z a0 hw b63 t 4 (own_f ca cb cc cd) 0 cs vf h67 n0 S67 (by decide) (by decide) ⟨by have := ((own_fok okca okcb okcc okcd) 0).1; omega, by have := ((own_fok okca okcb okcc okcd) 0).2; omega⟩ (SS.ext O3.2) hcs (SP.ext O3.2) rf) (g := (mkF m 174 #[.val (.int p0), .val (.int p1), .val (.int p2), .val (.int p3), .val (.int p4), .val (.int (4 : Int32)), .val (.int ca), .val (.int cb), .val (.int cc), .val (.int cd), .val (.ref b53), .val (.ref b63), .val (.ref kk), .val (.ref b63)] [(.int (0 : Int32)), (.ref b63)])) rfl rfl pd_pIr_C rfl rfl (W := 0) (by show 2 * 0 + _ ≤ _; exact Nat.le_of_eq rfl) at_174 (by decide) (by decide) (by decide) (by decide) ?_
        intro v70 T70 h70 X70 q70
        obtain ⟨rfl, rfl⟩ := q70
        show OFin _ _ _ _ _ _ T70 (mkF m 177 #[.val (.int p0), .val (.int p1), .val (.int p2), .val (.int p3), .val (.int p4), .val (.int (4 : Int32)), .val (.int ca), .val (.int cb), .val (.int cc), .val (.int cd), .val (.ref b53), .val (.ref b63), .val (.ref kk), .val (.ref b63)] [(.int ((own_f ca cb cc cd) 0))])
        refine X70.step (fun hA hx hq t_ k_ => XS.iload hA hx rfl (hb hq at_177) rfl k_) ?_
        show OFin _ _ _ _ _ _ T70 (mkF m 179 #[.val (.int p0), .val (.int p1), .val (.int p2), .val (.int p3), .val (.int p4), .val (.int (4 : Int32)), .val (.int ca), .val (.int cb), .val (.int cc), .val (.int cd), .val (.ref b53), .val (.ref b63), .val (.ref kk), .val (.ref b63)] [(.int ca), (.int ((own_f ca cb cc cd) 0))])
        refine X70.step (fun hA hx hq t_ k_ => XS.icmpYes hA hx rfl (pc0 := 179) (pc' := 184) rfl (hb hq at_179) rfl (teq ((rfl : (own_f ca cb cc cd) 0 = ca))).1 (by decide) (by decide) k_) ?_
        show OFin _ _ _ _ _ _ T70 (mkF m 184 #[.val (.int p0), .val (.int p1), .val (.int p2), .val (.int p3), .val (.int p4), .val (.int (4 : Int32)), .val (.int ca), .val (.int cb), .val (.int cc), .val (.int cd), .val (.ref b53), .val (.ref b63), .val (.ref kk), .val (.ref b63)] [])
        refine X70.step (fun hA hx hq t_ k_ => XS.iload hA hx rfl (hb hq at_184) rfl k_) ?_
        show OFin _ _ _ _ _ _ T70 (mkF m 186 #[.val (.int p0), .val (.int p1), .val (.int p2), .val (.int p3), .val (.int p4), .val (.int (4 : Int32)), .val (.int ca), .val (.int cb), .val (.int cc), .val (.int cd), .val (.ref b53), .val (.ref b63), .val (.ref kk), .val (.ref b63)] [(.int (4 : Int32))])
        refine X70.step (fun hA hx hq t_ k_ => XS.iconst hA hx rfl (hb hq at_186) k_) ?_
        show OFin _ _ _ _ _ _ T70 (mkF m 187 #[.val (.int p0), .val (.int p1), .val (.int p2), .val (.int p3), .val (.int p4), .val (.int (4 : Int32)), .val (.int ca), .val (.int cb), .val (.int cc), .val (.int cd), .val (.ref b53), .val (.ref b63), .val (.ref kk), .val (.ref b63)] [(.int (2 : Int32)), (.int (4 : Int32))])
        refine X70.step (fun hA hx hq t_ k_ => XS.icmpNo hA hx rfl (hb hq at_187) rfl (flt ((by decide))).1 k_) ?_
        show OFin _ _ _ _ _ _ T70 (mkF m 190 #[.val (.int p0), .val (.int p1), .val (.int p2), .val (.int p3), .val (.int p4), .val (.int (4 : Int32)), .val (.int ca), .val (.int cb), .val (.int cc), .val (.int cd), .val (.ref b53), .val (.ref b63), .val (.ref kk), .val (.ref b63)] [])
        refine X70.step (fun hA hx hq t_ k_ => XS.aload hA hx rfl (hb hq at_190) rfl rfl k_) ?_
        show OFin _ _ _ _ _ _ T70 (mkF m 192 #[.val (.int p0), .val (.int p1), .val (.int p2), .val (.int p3), .val (.int p4), .val (.int (4 : Int32)), .val (.int ca), .val (.int cb), .val (.int cc), .val (.int cd), .val (.ref b53), .val (.ref b63), .val (.ref kk), .val (.ref b63)] [(.ref b63)])
        refine X70.step (fun hA hx hq t_ k_ => XS.iconst hA hx rfl (hb hq at_192) k_) ?_
        show OFin _ _ _ _ _ _ T70 (mkF m 193 #[.val (.int p0), .val (.int p1), .val (.int p2), .val (.int p3), .val (.int p4), .val (.int (4 : Int32)), .val (.int ca), .val (.int cb), .val (.int cc), .val (.int cd), .val (.ref b53), .val (.ref b63), .val (.ref kk), .val (.ref b63)] [(.int (1 : Int32)), (.ref b63)])
        refine X70.callV (y' := (⟨"java/lang/String", "charAt", "(I)C"⟩ : MethodName)) (z' := (⟨"java/lang/String", "charAt", "(I)C"⟩ : MethodName)) (hw _ (List.mem_of_getElem? (i := 97) rfl)) (hw _ (List.mem_of_getElem? (i := 62) rfl)) (X70.notFace (hw _ (List.mem_of_getElem? (i := 64) rfl)) rfl) (hw _ (List.mem_of_getElem? (i := 64) rfl)) (hw _ (List.mem_of_getElem? (i := 63) rfl)) (hw _ (List.mem_of_getElem? (i := 8) rfl)) (hw _ (List.mem_of_getElem? (i := 65) rfl)) (by decide) S67.1 (argsL := [(.int (1 : Int32))]) (rest := []) (sc5 l Z a0 hw b63 t 4 (own_f ca cb cc cd) 1 cs vf h67 n0 S67 (by decide) (by decide) ⟨by have := ((own_fok okca okcb okcc okcd) 1).1; omega, by have := ((own_fok okca okcb okcc okcd) 1).2; omega⟩ (SS.ext O3.2) hcs (SP.ext O3.2) rf) (g := (mkF m 193 #[.val (.int p0), .val (.int p1), .val (.int p2), .val (.int p3), .val (.int p4), .val (.int (4 : Int32)), .val (.int ca), .val (.int cb), .val (.int cc), .val (.int cd), .val (.ref b53), .val (.ref b63), .val (.ref kk), .val (.ref b63)] [(.int (1 : Int32)), (.ref b63)])) rfl rfl pd_pIr_C rfl rfl (W := 0) (by show 2 * 0 + _ ≤ _; exact Nat.le_of_eq rfl) at_193 (by decide) (by decide) (by decide) (by decide) ?_
        intro v71 T71 h71 X71 q71
        obtain ⟨rfl, rfl⟩ := q71
        show OFin _ _ _ _ _ _ T71 (mkF m 196 #[.val (.int p0), .val (.int p1), .val (.int p2), .val (.int p3), .val (.int p4), .val (.int (4 : Int32)), .val (.int ca), .val (.int cb), .val (.int cc), .val (.int cd), .val (.ref b53), .val (.ref b63), .val (.ref kk), .val (.ref b63)] [(.int ((own_f ca cb cc cd) 1))])
        refine X71.step (fun hA hx hq t_ k_ => XS.iload hA hx rfl (hb hq at_196) rfl k_) ?_
        show OFin _ _ _ _ _ _ T71 (mkF m 198 #[.val (.int p0), .val (.int p1), .val (.int p2), .val (.int p3), .val (.int p4), .val (.int (4 : Int32)), .val (.int ca), .val (.int cb), .val (.int cc), .val (.int cd), .val (.ref b53), .val (.ref b63), .val (.ref kk), .val (.ref b63)] [(.int cb), (.int ((own_f ca cb cc cd) 1))])
        refine X71.step (fun hA hx hq t_ k_ => XS.icmpYes hA hx rfl (pc0 := 198) (pc' := 203) rfl (hb hq at_198) rfl (teq ((rfl : (own_f ca cb cc cd) 1 = cb))).1 (by decide) (by decide) k_) ?_
        show OFin _ _ _ _ _ _ T71 (mkF m 203 #[.val (.int p0), .val (.int p1), .val (.int p2), .val (.int p3), .val (.int p4), .val (.int (4 : Int32)), .val (.int ca), .val (.int cb), .val (.int cc), .val (.int cd), .val (.ref b53), .val (.ref b63), .val (.ref kk), .val (.ref b63)] [])
        refine X71.step (fun hA hx hq t_ k_ => XS.iload hA hx rfl (hb hq at_203) rfl k_) ?_
        show OFin _ _ _ _ _ _ T71 (mkF m 205 #[.val (.int p0), .val (.int p1), .val (.int p2), .val (.int p3), .val (.int p4), .val (.int (4 : Int32)), .val (.int ca), .val (.int cb), .val (.int cc), .val (.int cd), .val (.ref b53), .val (.ref b63), .val (.ref kk), .val (.ref b63)] [(.int (4 : Int32))])
        refine X71.step (fun hA hx hq t_ k_ => XS.iconst hA hx rfl (hb hq at_205) k_) ?_
        show OFin _ _ _ _ _ _ T71 (mkF m 206 #[.val (.int p0), .val (.int p1), .val (.int p2), .val (.int p3), .val (.int p4), .val (.int (4 : Int32)), .val (.int ca), .val (.int cb), .val (.int cc), .val (.int cd), .val (.ref b53), .val (.ref b63), .val (.ref kk), .val (.ref b63)] [(.int (3 : Int32)), (.int (4 : Int32))])
        refine X71.step (fun hA hx hq t_ k_ => XS.icmpNo hA hx rfl (hb hq at_206) rfl (flt ((by decide))).1 k_) ?_
        show OFin _ _ _ _ _ _ T71 (mkF m 209 #[.val (.int p0), .val (.int p1), .val (.int p2), .val (.int p3), .val (.int p4), .val (.int (4 : Int32)), .val (.int ca), .val (.int cb), .val (.int cc), .val (.int cd), .val (.ref b53), .val (.ref b63), .val (.ref kk), .val (.ref b63)] [])
        refine X71.step (fun hA hx hq t_ k_ => XS.aload hA hx rfl (hb hq at_209) rfl rfl k_) ?_
        show OFin _ _ _ _ _ _ T71 (mkF m 211 #[.val (.int p0), .val (.int p1), .val (.int p2), .val (.int p3), .val (.int p4), .val (.int (4 : Int32)), .val (.int ca), .val (.int cb), .val (.int cc), .val (.int cd), .val (.ref b53), .val (.ref b63), .val (.ref kk), .val (.ref b63)] [(.ref b63)])
        refine X71.step (fun hA hx hq t_ k_ => XS.iconst hA hx rfl (hb hq at_211) k_) ?_
        show OFin _ _ _ _ _ _ T71 (mkF m 212 #[.val (.int p0), .val (.int p1), .val (.int p2), .val (.int p3), .val (.int p4), .val (.int (4 : Int32)), .val (.int ca), .val (.int cb), .val (.int cc), .val (.int cd), .val (.ref b53), .val (.ref b63), .val (.ref kk), .val (.ref b63)] [(.int (2 : Int32)), (.ref b63)])
        refine X71.callV (y' := (⟨"java/lang/String", "charAt", "(I)C"⟩ : MethodName)) (z' := (⟨"java/lang/String", "charAt", "(I)C"⟩ : MethodName)) (hw _ (List.mem_of_getElem? (i := 97) rfl)) (hw _ (List.mem_of_getElem? (i := 62) rfl)) (X71.notFace (hw _ (List.mem_of_getElem? (i := 64) rfl)) rfl) (hw _ (List.mem_of_getElem? (i := 64) rfl)) (hw _ (List.mem_of_getElem? (i := 63) rfl)) (hw _ (List.mem_of_getElem? (i := 8) rfl)) (hw _ (List.mem_of_getElem? (i := 65) rfl)) (by decide) S67.1 (argsL := [(.int (2 : Int32))]) (rest := []) (sc5 l Z a0 hw b63 t 4 (own_f ca cb cc cd) 2 cs vf h67 n0 S67 (by decide) (by decide) ⟨by have := ((own_fok okca okcb okcc okcd) 2).1; omega, by have := ((own_fok okca okcb okcc okcd) 2).2; omega⟩ (SS.ext O3.2) hcs (SP.ext O3.2) rf) (g := (mkF m 212 #[.val (.int p0), .val (.int p1), .val (.int p2), .val (.int p3), .val (.int p4), .val (.int (4 : Int32)), .val (.int ca), .val (.int cb), .val (.int cc), .val (.int cd), .val (.ref b53), .val (.ref b63), .val (.ref kk), .val (.ref b63)] [(.int (2 : Int32)), (.ref b63)])) rfl rfl pd_pIr_C rfl rfl (W := 0) (by show 2 * 0 + _ ≤ _; exact Nat.le_of_eq rfl) at_212 (by decide) (by decide) (by decide) (by decide) ?_
        intro v72 T72 h72 X72 q72
        obtain ⟨rfl, rfl⟩ := q72
        show OFin _ _ _ _ _ _ T72 (mkF m 215 #[.val (.int p0), .val (.int p1), .val (.int p2), .val (.int p3), .val (.int p4), .val (.int (4 : Int32)), .val (.int ca), .val (.int cb), .val (.int cc), .val (.int cd), .val (.ref b53), .val (.ref b63), .val (.ref kk), .val (.ref b63)] [(.int ((own_f ca cb cc cd) 2))])
        refine X72.step (fun hA hx hq t_ k_ => XS.iload hA hx rfl (hb hq at_215) rfl k_) ?_
        show OFin _ _ _ _ _ _ T72 (mkF m 217 #[.val (.int p0), .val (.int p1), .val (.int p2), .val (.int p3), .val (.int p4), .val (.int (4 : Int32)), .val (.int ca), .val (.int cb), .val (.int cc), .val (.int cd), .val (.ref b53), .val (.ref b63), .val (.ref kk), .val (.ref b63)] [(.int cc), (.int ((own_f ca cb cc cd) 2))])
        refine X72.step (fun hA hx hq t_ k_ => XS.icmpYes hA hx rfl (pc0 := 217) (pc' := 222) rfl (hb hq at_217) rfl (teq ((rfl : (own_f ca cb cc cd) 2 = cc))).1 (by decide) (by decide) k_) ?_
        show OFin _ _ _ _ _ _ T72 (mkF m 222 #[.val (.int p0), .val (.int p1), .val (.int p2), .val (.int p3), .val (.int p4), .val (.int (4 : Int32)), .val (.int ca), .val (.int cb), .val (.int cc), .val (.int cd), .val (.ref b53), .val (.ref b63), .val (.ref kk), .val (.ref b63)] [])
        refine X72.step (fun hA hx hq t_ k_ => XS.iload hA hx rfl (hb hq at_222) rfl k_) ?_
        show OFin _ _ _ _ _ _ T72 (mkF m 224 #[.val (.int p0), .val (.int p1), .val (.int p2), .val (.int p3), .val (.int p4), .val (.int (4 : Int32)), .val (.int ca), .val (.int cb), .val (.int cc), .val (.int cd), .val (.ref b53), .val (.ref b63), .val (.ref kk), .val (.ref b63)] [(.int (4 : Int32))])
        refine X72.step (fun hA hx hq t_ k_ => XS.iconst hA hx rfl (hb hq at_224) k_) ?_
        show OFin _ _ _ _ _ _ T72 (mkF m 225 #[.val (.int p0), .val (.int p1), .val (.int p2), .val (.int p3), .val (.int p4), .val (.int (4 : Int32)), .val (.int ca), .val (.int cb), .val (.int cc), .val (.int cd), .val (.ref b53), .val (.ref b63), .val (.ref kk), .val (.ref b63)] [(.int (4 : Int32)), (.int (4 : Int32))])
        refine X72.step (fun hA hx hq t_ k_ => XS.icmpNo hA hx rfl (hb hq at_225) rfl (flt ((by decide))).1 k_) ?_
        show OFin _ _ _ _ _ _ T72 (mkF m 228 #[.val (.int p0), .val (.int p1), .val (.int p2), .val (.int p3), .val (.int p4), .val (.int (4 : Int32)), .val (.int ca), .val (.int cb), .val (.int cc), .val (.int cd), .val (.ref b53), .val (.ref b63), .val (.ref kk), .val (.ref b63)] [])
        refine X72.step (fun hA hx hq t_ k_ => XS.aload hA hx rfl (hb hq at_228) rfl rfl k_) ?_
        show OFin _ _ _ _ _ _ T72 (mkF m 230 #[.val (.int p0), .val (.int p1), .val (.int p2), .val (.int p3), .val (.int p4), .val (.int (4 : Int32)), .val (.int ca), .val (.int cb), .val (.int cc), .val (.int cd), .val (.ref b53), .val (.ref b63), .val (.ref kk), .val (.ref b63)] [(.ref b63)])
        refine X72.step (fun hA hx hq t_ k_ => XS.iconst hA hx rfl (hb hq at_230) k_) ?_
        show OFin _ _ _ _ _ _ T72 (mkF m 231 #[.val (.int p0), .val (.int p1), .val (.int p2), .val (.int p3), .val (.int p4), .val (.int (4 : Int32)), .val (.int ca), .val (.int cb), .val (.int cc), .val (.int cd), .val (.ref b53), .val (.ref b63), .val (.ref kk), .val (.ref b63)] [(.int (3 : Int32)), (.ref b63)])
        refine X72.callV (y' := (⟨"java/lang/String", "charAt", "(I)C"⟩ : MethodName)) (z' := (⟨"java/lang/String", "charAt", "(I)C"⟩ : MethodName)) (hw _ (List.mem_of_getElem? (i := 97) rfl)) (hw _ (List.mem_of_getElem? (i := 62) rfl)) (X72.notFace (hw _ (List.mem_of_getElem? (i := 64) rfl)) rfl) (hw _ (List.mem_of_getElem? (i := 64) rfl)) (hw _ (List.mem_of_getElem? (i := 63) rfl)) (hw _ (List.mem_of_getElem? (i := 8) rfl)) (hw _ (List.mem_of_getElem? (i := 65) rfl)) (by decide) S67.1 (argsL := [(.int (3 : Int32))]) (rest := []) (sc5 l Z a0 hw b63 t 4 (own_f ca cb cc cd) 3 cs vf h67 n0 S67 (by decide) (by decide) ⟨by have := ((own_fok okca okcb okcc okcd) 3).1; omega, by have := ((own_fok okca okcb okcc okcd) 3).2; omega⟩ (SS.ext O3.2) hcs (SP.ext O3.2) rf) (g := (mkF m 231 #[.val (.int p0), .val (.int p1), .val (.int p2), .val (.int p3), .val (.int p4), .val (.int (4 : Int32)), .val (.int ca), .val (.int cb), .val (.int cc), .val (.int cd), .val (.ref b53), .val (.ref b63), .val (.ref kk), .val (.ref b63)] [(.int (3 : Int32)), (.ref b63)])) rfl rfl pd_pIr_C rfl rfl (W := 0) (by show 2 * 0 + _ ≤ _; exact Nat.le_of_eq rfl) at_231 (by decide) (by decide) (by decide) (by decide) ?_
        intro v73 T73 h73 X73 q73
        obtain ⟨rfl, rfl⟩ := q73
        show OFin _ _ _ _ _ _ T73 (mkF m 234 #[.val (.int p0), .val (.int p1), .val (.int p2), .val (.int p3), .val (.int p4), .val (.int (4 : Int32)), .val (.int ca), .val (.int cb), .val (.int cc), .val (.int cd), .val (.ref b53), .val (.ref b63), .val (.ref kk), .val (.ref b63)] [(.int ((own_f ca cb cc cd) 3))])
        refine X73.step (fun hA hx hq t_ k_ => XS.iload hA hx rfl (hb hq at_234) rfl k_) ?_
        show OFin _ _ _ _ _ _ T73 (mkF m 236 #[.val (.int p0), .val (.int p1), .val (.int p2), .val (.int p3), .val (.int p4), .val (.int (4 : Int32)), .val (.int ca), .val (.int cb), .val (.int cc), .val (.int cd), .val (.ref b53), .val (.ref b63), .val (.ref kk), .val (.ref b63)] [(.int cd), (.int ((own_f ca cb cc cd) 3))])
        refine X73.step (fun hA hx hq t_ k_ => XS.icmpYes hA hx rfl (pc0 := 236) (pc' := 241) rfl (hb hq at_236) rfl (teq ((rfl : (own_f ca cb cc cd) 3 = cd))).1 (by decide) (by decide) k_) ?_
        show OFin _ _ _ _ _ _ T73 (mkF m 241 #[.val (.int p0), .val (.int p1), .val (.int p2), .val (.int p3), .val (.int p4), .val (.int (4 : Int32)), .val (.int ca), .val (.int cb), .val (.int cc), .val (.int cd), .val (.ref b53), .val (.ref b63), .val (.ref kk), .val (.ref b63)] [])
        refine X73.step (fun hA hx hq t_ k_ => XS.aload hA hx rfl (hb hq at_241) rfl rfl k_) ?_
        show OFin _ _ _ _ _ _ T73 (mkF m 243 #[.val (.int p0), .val (.int p1), .val (.int p2), .val (.int p3), .val (.int p4), .val (.int (4 : Int32)), .val (.int ca), .val (.int cb), .val (.int cc), .val (.int cd), .val (.ref b53), .val (.ref b63), .val (.ref kk), .val (.ref b63)] [(.ref b63)])
        refine X73.step (fun hA hx hq t_ k_ => XS.aload hA hx rfl (hb hq at_243) rfl rfl k_) ?_
        show OFin _ _ _ _ _ _ T73 (mkF m 245 #[.val (.int p0), .val (.int p1), .val (.int p2), .val (.int p3), .val (.int p4), .val (.int (4 : Int32)), .val (.int ca), .val (.int cb), .val (.int cc), .val (.int cd), .val (.ref b53), .val (.ref b63), .val (.ref kk), .val (.ref b63)] [(.ref b63), (.ref b63)])
        refine X73.callV (y' := (⟨"java/lang/String", "equals", "(Ljava/lang/Object;)Z"⟩ : MethodName)) (z' := (⟨"java/lang/String", "equals", "(Ljava/lang/Object;)Z"⟩ : MethodName)) (hw _ (List.mem_of_getElem? (i := 98) rfl)) (hw _ (List.mem_of_getElem? (i := 99) rfl)) (X73.notFace (hw _ (List.mem_of_getElem? (i := 101) rfl)) rfl) (hw _ (List.mem_of_getElem? (i := 101) rfl)) (hw _ (List.mem_of_getElem? (i := 100) rfl)) (hw _ (List.mem_of_getElem? (i := 8) rfl)) (hw _ (List.mem_of_getElem? (i := 102) rfl)) (by decide) S67.1 (argsL := [(.ref b63)]) (rest := []) (se1 l Z a0 hw b63 h67 n0) (g := (mkF m 245 #[.val (.int p0), .val (.int p1), .val (.int p2), .val (.int p3), .val (.int p4), .val (.int (4 : Int32)), .val (.int ca), .val (.int cb), .val (.int cc), .val (.int cd), .val (.ref b53), .val (.ref b63), .val (.ref kk), .val (.ref b63)] [(.ref b63), (.ref b63)])) rfl rfl pd_pLjava_lang_Object_r_Z rfl rfl (W := 0) (by show 2 * 0 + _ ≤ _; exact Nat.le_of_eq rfl) at_245 (by decide) (by decide) (by decide) (by decide) ?_
        intro v74 T74 h74 X74 q74
        obtain ⟨rfl, rfl⟩ := q74
        show OFin _ _ _ _ _ _ T74 (mkF m 248 #[.val (.int p0), .val (.int p1), .val (.int p2), .val (.int p3), .val (.int p4), .val (.int (4 : Int32)), .val (.int ca), .val (.int cb), .val (.int cc), .val (.int cd), .val (.ref b53), .val (.ref b63), .val (.ref kk), .val (.ref b63)] [(.int (1 : Int32))])
        exact X74.retN (by simp) at_248 (oW X74 B67 (by decide) (by decide)) (rfl)
set_option maxRecDepth 65536 in
set_option maxHeartbeats 40000000 in
theorem comes_1 {Post : Tables → Env → Array Value → State → Outcome → State → Prop} (hpost : ∀ tb e args s v u, (limb_1_1.after args s (.returned v) u = true ∧ limb_1_2.after args s (.returned v) u = true ∧ True) → ReturnedEndW s (.returned v) u (Jvm.fieldLocs frame_1_writes args s ++ Jvm.arrayLocs frame_1_arrays args s ++ Jvm.staticLocs frame_1_statics s) 24 1152 → Post tb e args s (.returned v) u) :
    ArmFor flags0 classFile x code maxLocals ret World_1 tables_1 room_1 Calls_1 rest_1 Pre_1 Post := by
  intro l hfl _ _ p e ha hc hk s m args below hf hA hF happ hP
  obtain ⟨hcalls, hrest, hpre⟩ := hP
  obtain ⟨-, -, -, hnamed, -, -, -, hat⟩ := (Spec.applies_iff hf).mp happ
  obtain ⟨hg, hn⟩ := and_e (Cond.before_iff.mp (show (Jvm.Cond.and given_1 narrow_1).before args s = true from hpre))
  obtain ⟨hcount, hg0⟩ := and_e hg
  obtain ⟨w0, w1, w2, w3, w4, rfl⟩ : ∃ w0 w1 w2 w3 w4 : Value, args = #[w0, w1, w2, w3, w4] := by
    have hs : args.size = 5 := by simpa [Cond.value, given_1] using hcount
    obtain ⟨L⟩ := args
    match L, hs with
    | [w0, w1, w2, w3, w4], _ => exact ⟨w0, w1, w2, w3, w4, rfl⟩
  have hw := fun d (hd : d ∈ tables_1) => atoms_spec (ws := Jvm.Cond.code x code maxLocals ret :: tables_1) hat d (List.mem_cons_of_mem _ hd)
  have hfit : Fit s := fun {y c} hc i hi => by
    obtain ⟨ha, rfl⟩ := Array.getElem?_eq_some_iff.mp hc
    have q := List.all_eq_true.mp ((Array.all_eq_true_iff_forall_mem.mp hF) _ (Array.getElem_mem ha)) i (List.mem_range.mpr hi)
    simpa [Array.getElem?_eq_getElem hi] using q
  obtain ⟨ha0, hg1⟩ := and_e hg0
  obtain ⟨i0, ei0⟩ := is_v ha0
  obtain rfl : w0 = (.int i0) := Option.some.inj ei0
  obtain ⟨ha1, hg2⟩ := and_e hg1
  obtain ⟨i1, ei1⟩ := is_v ha1
  obtain rfl : w1 = (.int i1) := Option.some.inj ei1
  obtain ⟨ha2, hg3⟩ := and_e hg2
  obtain ⟨i2, ei2⟩ := is_v ha2
  obtain rfl : w2 = (.int i2) := Option.some.inj ei2
  obtain ⟨ha3, hg4⟩ := and_e hg3
  obtain ⟨i3, ei3⟩ := is_v ha3
  obtain rfl : w3 = (.int i3) := Option.some.inj ei3
  obtain ⟨i4, ei4⟩ := is_v hg4
  obtain rfl : w4 = (.int i4) := Option.some.inj ei4
  obtain ⟨hsets, hown0⟩ := atoms_of _ (rest_1_c_eq ▸ (show rest_1_c.before _ s = true from hrest))
  have n5 := not_v (Cond.before_iff.mp (hsets _ (List.mem_of_getElem? (i := 2) rfl)))
  obtain ⟨cs, ecs⟩ := is_v (Cond.before_iff.mp (hsets _ (List.mem_of_getElem? (i := 1) rfl)))
  have SS : Sta s s.heap "java/lang/String" "COMPACT_STRINGS" "Z" (.int cs) := Sta.start ecs (Or.inl (hsets _ (List.mem_of_getElem? (i := 0) rfl)))
  have hcs : ¬ (cs = (0 : Int32)) := gotF (Cond.eq_ints ecs (Term.int_eval (0))) n5
  obtain ⟨vf, evf, rf⟩ := isR_v (Cond.before_iff.mp (hsets _ (List.mem_of_getElem? (i := 8) rfl)))
  have SP : Sta s s.heap "jdk/internal/util/Preconditions" "SIOOBE_FORMATTER" "Ljava/util/function/BiFunction;" vf := Sta.start evf (Or.inl (hsets _ (List.mem_of_getElem? (i := 7) rfl)))
  obtain ⟨n, o, h1, h2, h3, _, L, rfl, ⟨rfl, N⟩, -, hq⟩ := rm0 l s _ hw tables_1 i0 i1 i2 i3 i4 cs vf s.heap s.heap.size (Old.start s) SS hcs SP rf p e ha hc hk s m _ below hf ((Spec.applies_iff_loose hf).mp happ).1 ⟨rfl, State.Warmed39.refl s, rfl, fun p hp => by cases hp⟩ trivial
  refine ⟨n, _, h1, h2, h3, hpost _ _ _ _ _ _ ⟨Cond.after_iff.mpr rfl, Cond.after_iff.mpr (eq_i res_at (Term.int_eval (1)) rfl), trivial⟩ ⟨hq.1, hq.2.1, hq.2.2.1, (hq.2.2.2.sift fun y hy => Or.inr (N y hy)).mono (by decide) (by decide)⟩⟩
theorem main_1_1 : Claimed_1_1 := comes_1 fun _ _ _ _ _ _ h hF => ⟨h.1, hF⟩
theorem main_1_2 : Claimed_1_2 := comes_1 fun _ _ _ _ _ _ h hF => ⟨h.2.1, hF⟩
end Jvm.Pilot.@@N@@
namespace Jvm.Pilot.@@N@@
open Jvm Jvm.ClassFile Sem Op Lib Jvm.Free Jvm.Stand Jvm.Pilot.@@N@@.Jvm.D
/-! MADE BY PROGRAM (witnessworld.py) out of the Statement's table words and the real class files: 21 classes; the members and pool entries that the words name. The judged class is class 1, her method 2. -/
namespace start1
open Jvm.ClassFile
def u (s : String) : CpInfo := .utf8 (stringToUtf16 s)
/-- a pool by its gaps: so many unusable entries, then the entry; so many at the end -/
def gap : Nat → List CpInfo → List CpInfo
  | 0, r => r
  | n + 1, r => .unusable :: gap n r
def poolList (es : List (Nat × CpInfo)) (last : Nat) : List CpInfo := es.foldr (fun e r => gap e.1 (e.2 :: r)) (gap last [])
def pool (es : List (Nat × CpInfo)) (last : Nat) : Array CpInfo := ⟨poolList es last⟩
def fileOf (pool : Array CpInfo) (this : Nat) (attrs : Array Attribute := #[]) (ms : Array MethodInfo := #[]) (fl : Nat := 33) (sup : Nat := 0) (ifs : Array Nat := #[]) (fds : Array FieldInfo := #[]) : ClassFile where
  minorVersion := 0
  majorVersion := 65
  constantPool := pool
  accessFlags := fl
  thisClass := this
  superClass := sup
  interfaces := ifs
  fields := fds
  methods := ms
  attributes := attrs
def plain (name : String) (sup : Option ClassId) : Class where
  name := name
  kind := .ordinary
  loader := none
  accessFlags := 33
  super := sup
  interfaces := #[]
  cf := none
  fields := #[]
  methods := #[]
  instanceTypes := #[]
  staticTypes := #[]
  resolved := #[]
  callSites := []
  init := .initialized
  statics := none
  mirror := none

def pool0 : Array CpInfo := pool [(5, u "<init>"), (0, u "()V"), (1, .class_ 10), (1, u "java/lang/Object")] 113

def k0c0 : Code := { maxStack := 0, maxLocals := 1, code := object_method_1_code, exceptionTable := #[], attributes := #[] }
def k0m0 : Method := { name := "<init>", desc := "()V", sig := { parameters := [], returnType := none }, accessFlags := 1, code := some k0c0 }
/-- java/lang/Object -/
def k0 : Class := { plain "java/lang/Object" none with
  accessFlags := 33
  interfaces := #[]
  cf := some (fileOf pool0 8 #[] #[{ accessFlags := 1, nameIndex := 5, descriptorIndex := 6, attributes := #[] }] 33 0 #[] #[])
  fields := #[]
  methods := #[k0m0]
  instanceTypes := #[]
  staticTypes := #[]
  resolved := Array.replicate 124 none
  statics := none }

def pool1 : Array CpInfo := pool [(2, .class_ 4), (1, u "java/lang/Object"), (0, u "<init>"), (0, u "()V"), (0, .integer 2147483647), (0, .methodref 9 10), (0, .class_ 11), (0, .nameAndType 12 13), (0, u "com/example/libidem/libidem/IdempotencyKeyOfPinLaw"), (0, u "visible"), (0, u "(I)C"), (0, .class_ 15), (0, u "java/lang/String"), (0, .methodref 14 17), (0, .nameAndType 5 18), (0, u "([C)V"), (0, .methodref 20 21), (0, .class_ 22), (0, .nameAndType 23 24), (0, u "com/example/libidem/libidem/IdempotencyKey"), (0, u "of"), (0, u "(Ljava/lang/String;)Lcom/example/libidem/libidem/IdempotencyKey;"), (0, .methodref 20 26), (0, .nameAndType 27 28), (0, u "value"), (0, u "()Ljava/lang/String;"), (0, .methodref 14 30), (0, .nameAndType 31 32), (0, u "length"), (0, u "()I"), (0, .methodref 14 34), (0, .nameAndType 35 13), (0, u "charAt"), (0, .methodref 14 37), (0, .nameAndType 38 39), (0, u "equals"), (0, u "(Ljava/lang/Object;)Z"), (2, u "law"), (0, u "(IIIII)Z")] 5

def k1m0 : Method := { name := "<init>", desc := "()V", sig := { parameters := [], returnType := none }, accessFlags := 1, code := none }
def k1c1 : Code := { maxStack := 3, maxLocals := 1, code := method_2_code, exceptionTable := #[], attributes := #[] }
def k1m1 : Method := { name := "visible", desc := "(I)C", sig := { parameters := [.int], returnType := some .char }, accessFlags := 10, code := some k1c1 }
def k1c2 : Code := { maxStack := 4, maxLocals := 14, code := code, exceptionTable := #[], attributes := #[] }
def k1m2 : Method := { name := "law", desc := "(IIIII)Z", sig := { parameters := [.int, .int, .int, .int, .int], returnType := some .boolean }, accessFlags := 9, code := some k1c2 }
/-- com/example/libidem/libidem/IdempotencyKeyOfPinLaw -/
def k1 : Class := { plain "com/example/libidem/libidem/IdempotencyKeyOfPinLaw" (some 0) with
  accessFlags := 49
  interfaces := #[]
  cf := some (fileOf pool1 9 #[] #[{ accessFlags := 1, nameIndex := 5, descriptorIndex := 6, attributes := #[] }, { accessFlags := 10, nameIndex := 12, descriptorIndex := 13, attributes := #[] }, { accessFlags := 9, nameIndex := 42, descriptorIndex := 43, attributes := #[] }] 49 2 #[] #[])
  fields := #[]
  methods := #[k1m0, k1m1, k1m2]
  instanceTypes := #[]
  staticTypes := #[]
  resolved := Array.replicate 49 none
  statics := none }

def pool2 : Array CpInfo := pool [(1, .class_ 2), (0, u "java/io/Serializable"), (0, .class_ 4), (0, u "java/lang/Object")] 2

/-- java/io/Serializable -/
def k2 : Class := { plain "java/io/Serializable" (some 0) with
  accessFlags := 1537
  interfaces := #[]
  cf := some (fileOf pool2 1 #[] #[] 1537 3 #[] #[])
  fields := #[]
  methods := #[]
  instanceTypes := #[]
  staticTypes := #[]
  resolved := Array.replicate 7 none
  statics := none }

def pool3 : Array CpInfo := pool [(1, .class_ 2), (0, u "java/lang/Comparable"), (0, .class_ 4), (0, u "java/lang/Object")] 7

/-- java/lang/Comparable -/
def k3 : Class := { plain "java/lang/Comparable" (some 0) with
  accessFlags := 1537
  interfaces := #[]
  cf := some (fileOf pool3 1 #[] #[] 1537 3 #[] #[])
  fields := #[]
  methods := #[]
  instanceTypes := #[]
  staticTypes := #[]
  resolved := Array.replicate 12 none
  statics := none }

def pool4 : Array CpInfo := pool [(2, .class_ 4), (1, u "java/lang/CharSequence"), (42, .class_ 48), (0, u "java/lang/CharSequence$1CodePointIterator"), (10, .class_ 60), (0, u "java/lang/CharSequence$1CharIterator"), (5, .class_ 67), (0, u "java/lang/Object")] 63

/-- java/lang/CharSequence -/
def k4 : Class := { plain "java/lang/CharSequence" (some 0) with
  accessFlags := 1537
  interfaces := #[]
  cf := some (fileOf pool4 2 #[.nestMembers #[47, 59]] #[] 1537 66 #[] #[])
  fields := #[]
  methods := #[]
  instanceTypes := #[]
  staticTypes := #[]
  resolved := Array.replicate 131 none
  statics := none }

def pool5 : Array CpInfo := pool [(1, .class_ 2), (0, u "java/lang/constant/Constable"), (0, .class_ 4), (0, u "java/lang/Object")] 6

/-- java/lang/constant/Constable -/
def k5 : Class := { plain "java/lang/constant/Constable" (some 0) with
  accessFlags := 1537
  interfaces := #[]
  cf := some (fileOf pool5 1 #[] #[] 1537 3 #[] #[])
  fields := #[]
  methods := #[]
  instanceTypes := #[]
  staticTypes := #[]
  resolved := Array.replicate 11 none
  statics := none }

def pool6 : Array CpInfo := pool [(1, .class_ 2), (0, u "java/lang/constant/ConstantDesc"), (0, .class_ 4), (0, u "java/lang/Object")] 32

/-- java/lang/constant/ConstantDesc -/
def k6 : Class := { plain "java/lang/constant/ConstantDesc" (some 0) with
  accessFlags := 1537
  interfaces := #[]
  cf := some (fileOf pool6 1 #[] #[] 1537 3 #[] #[])
  fields := #[]
  methods := #[]
  instanceTypes := #[]
  staticTypes := #[]
  resolved := Array.replicate 37 none
  statics := none }

def pool7 : Array CpInfo := pool [(1, .methodref 2 3), (0, .class_ 4), (0, .nameAndType 5 6), (0, u "java/lang/Object"), (0, u "<init>"), (0, u "()V"), (2, .fieldref 10 11), (0, .class_ 12), (0, .nameAndType 13 14), (0, u "java/lang/String"), (0, u "value"), (0, u "[B"), (0, .fieldref 10 16), (0, .nameAndType 17 18), (0, u "coder"), (0, u "B"), (2, u "hash"), (0, u "I"), (2, u "hashIsZero"), (0, u "Z"), (0, .methodref 10 28), (0, .nameAndType 5 29), (0, u "([CIILjava/lang/Void;)V"), (8, .fieldref 10 39), (0, .nameAndType 40 26), (0, u "COMPACT_STRINGS"), (1, .class_ 44), (1, u "java/lang/StringUTF16"), (0, u "compress"), (1, .methodref 42 48), (0, .nameAndType 49 50), (0, u "coderFromArrayLen"), (0, u "([BI)B"), (56, .class_ 109), (1, u "java/lang/StringLatin1"), (32, u "()Z"), (34, .methodref 42 178), (0, .nameAndType 45 179), (0, u "([CII)[B"), (154, u "()I"), (0, .methodref 10 336), (0, .nameAndType 17 337), (0, u "()B"), (25, u "([BI)C"), (27, u "(II)V"), (35, u "(I)C"), (64, .methodref 10 493), (0, .nameAndType 494 142), (0, u "isLatin1"), (0, .methodref 107 496), (0, .nameAndType 497 363), (0, u "charAt"), (3, u "checkIndex"), (5, u "length"), (35, u "equals"), (29, u "(Ljava/lang/Object;)Z"), (1, .class_ 576), (0, u "java/lang/CharSequence"), (22, u "CASE_INSENSITIVE_ORDER"), (0, u "Ljava/util/Comparator;"), (91, u "isEmpty"), (317, u "([C)V"), (42, .fieldref 1054 1055), (0, .class_ 1056), (0, .nameAndType 1057 1058), (0, u "jdk/internal/util/Preconditions"), (0, u "SIOOBE_FORMATTER"), (0, u "Ljava/util/function/BiFunction;"), (0, .methodref 1054 1060), (0, .nameAndType 501 1061), (0, u "(IILjava/util/function/BiFunction;)I"), (39, u "serialPersistentFields"), (0, u "[Ljava/io/ObjectStreamField;"), (0, .class_ 1104), (0, u "java/lang/String$CaseInsensitiveComparator"), (1, .class_ 1107), (0, u "java/io/Serializable"), (0, .class_ 1109), (0, u "java/lang/Comparable"), (0, .class_ 1111), (0, u "java/lang/constant/Constable"), (0, .class_ 1113), (0, u "java/lang/constant/ConstantDesc"), (2, u "serialVersionUID"), (0, u "J"), (3, u "REPL"), (0, u "C"), (2, u "LATIN1"), (1, u "UTF16")] 323

def k7m0 : Method := { name := "<init>", desc := "()V", sig := { parameters := [], returnType := none }, accessFlags := 1, code := none }
def k7c1 : Code := { maxStack := 5, maxLocals := 2, code := jdk_42_method_3_code, exceptionTable := #[], attributes := #[] }
def k7m1 : Method := { name := "<init>", desc := "([C)V", sig := { parameters := [(.array .char)], returnType := none }, accessFlags := 1, code := some k7c1 }
def k7c2 : Code := { maxStack := 2, maxLocals := 1, code := jdk_42_method_54_code, exceptionTable := #[], attributes := #[] }
def k7m2 : Method := { name := "length", desc := "()I", sig := { parameters := [], returnType := some .int }, accessFlags := 1, code := some k7c2 }
def k7c3 : Code := { maxStack := 1, maxLocals := 1, code := jdk_42_method_55_code, exceptionTable := #[], attributes := #[] }
def k7m3 : Method := { name := "isEmpty", desc := "()Z", sig := { parameters := [], returnType := some .boolean }, accessFlags := 1, code := some k7c3 }
def k7c4 : Code := { maxStack := 2, maxLocals := 2, code := jdk_42_method_56_code, exceptionTable := #[], attributes := #[] }
def k7m4 : Method := { name := "charAt", desc := "(I)C", sig := { parameters := [.int], returnType := some .char }, accessFlags := 1, code := some k7c4 }
def k7c5 : Code := { maxStack := 2, maxLocals := 3, code := jdk_42_method_66_code, exceptionTable := #[], attributes := #[] }
def k7m5 : Method := { name := "equals", desc := "(Ljava/lang/Object;)Z", sig := { parameters := [(.object "java/lang/Object")], returnType := some .boolean }, accessFlags := 1, code := some k7c5 }
def k7c6 : Code := { maxStack := 4, maxLocals := 6, code := jdk_42_method_149_code, exceptionTable := #[], attributes := #[] }
def k7m6 : Method := { name := "<init>", desc := "([CIILjava/lang/Void;)V", sig := { parameters := [(.array .char), .int, .int, (.object "java/lang/Void")], returnType := none }, accessFlags := 2, code := some k7c6 }
def k7c7 : Code := { maxStack := 1, maxLocals := 1, code := jdk_42_method_152_code, exceptionTable := #[], attributes := #[] }
def k7m7 : Method := { name := "coder", desc := "()B", sig := { parameters := [], returnType := some .byte }, accessFlags := 0, code := some k7c7 }
def k7c8 : Code := { maxStack := 1, maxLocals := 1, code := jdk_42_method_154_code, exceptionTable := #[], attributes := #[] }
def k7m8 : Method := { name := "isLatin1", desc := "()Z", sig := { parameters := [], returnType := some .boolean }, accessFlags := 0, code := some k7c8 }
def k7c9 : Code := { maxStack := 3, maxLocals := 2, code := jdk_42_method_155_code, exceptionTable := #[], attributes := #[] }
def k7m9 : Method := { name := "checkIndex", desc := "(II)V", sig := { parameters := [.int, .int], returnType := none }, accessFlags := 8, code := some k7c9 }
/-- java/lang/String -/
def k7 : Class := { plain "java/lang/String" (some 0) with
  accessFlags := 49
  interfaces := #[2, 3, 4, 5, 6]
  cf := some (fileOf pool7 10 #[.nestMembers #[1103]] #[{ accessFlags := 1, nameIndex := 5, descriptorIndex := 6, attributes := #[] }, { accessFlags := 1, nameIndex := 5, descriptorIndex := 1010, attributes := #[] }, { accessFlags := 1, nameIndex := 507, descriptorIndex := 334, attributes := #[] }, { accessFlags := 1, nameIndex := 692, descriptorIndex := 142, attributes := #[] }, { accessFlags := 1, nameIndex := 497, descriptorIndex := 427, attributes := #[] }, { accessFlags := 1, nameIndex := 543, descriptorIndex := 573, attributes := #[] }, { accessFlags := 2, nameIndex := 5, descriptorIndex := 29, attributes := #[] }, { accessFlags := 0, nameIndex := 17, descriptorIndex := 337, attributes := #[] }, { accessFlags := 0, nameIndex := 494, descriptorIndex := 142, attributes := #[] }, { accessFlags := 8, nameIndex := 501, descriptorIndex := 391, attributes := #[] }] 49 2 #[1106, 1108, 575, 1110, 1112] #[{ accessFlags := 18, nameIndex := 13, descriptorIndex := 14, attributes := #[] }, { accessFlags := 18, nameIndex := 17, descriptorIndex := 18, attributes := #[] }, { accessFlags := 2, nameIndex := 21, descriptorIndex := 22, attributes := #[] }, { accessFlags := 2, nameIndex := 25, descriptorIndex := 26, attributes := #[] }, { accessFlags := 26, nameIndex := 1116, descriptorIndex := 1117, attributes := #[] }, { accessFlags := 24, nameIndex := 40, descriptorIndex := 26, attributes := #[] }, { accessFlags := 26, nameIndex := 1101, descriptorIndex := 1102, attributes := #[] }, { accessFlags := 26, nameIndex := 1121, descriptorIndex := 1122, attributes := #[] }, { accessFlags := 25, nameIndex := 599, descriptorIndex := 600, attributes := #[] }, { accessFlags := 24, nameIndex := 1125, descriptorIndex := 18, attributes := #[] }, { accessFlags := 24, nameIndex := 1127, descriptorIndex := 18, attributes := #[] }])
  fields := #[{ name := "value", type := (.array .byte), accessFlags := 18, slot := 0, constantValue := 0 }, { name := "coder", type := .byte, accessFlags := 18, slot := 1, constantValue := 0 }, { name := "hash", type := .int, accessFlags := 2, slot := 2, constantValue := 0 }, { name := "hashIsZero", type := .boolean, accessFlags := 2, slot := 3, constantValue := 0 }, { name := "serialVersionUID", type := .long, accessFlags := 26, slot := 0, constantValue := 0 }, { name := "COMPACT_STRINGS", type := .boolean, accessFlags := 24, slot := 1, constantValue := 0 }, { name := "serialPersistentFields", type := (.array (.object "java/io/ObjectStreamField")), accessFlags := 26, slot := 2, constantValue := 0 }, { name := "REPL", type := .char, accessFlags := 26, slot := 3, constantValue := 0 }, { name := "CASE_INSENSITIVE_ORDER", type := (.object "java/util/Comparator"), accessFlags := 25, slot := 4, constantValue := 0 }, { name := "LATIN1", type := .byte, accessFlags := 24, slot := 5, constantValue := 0 }, { name := "UTF16", type := .byte, accessFlags := 24, slot := 6, constantValue := 0 }]
  methods := #[k7m0, k7m1, k7m2, k7m3, k7m4, k7m5, k7m6, k7m7, k7m8, k7m9]
  instanceTypes := #[(.array .byte), .byte, .int, .boolean]
  staticTypes := #[.long, .boolean, (.array (.object "java/io/ObjectStreamField")), .char, (.object "java/util/Comparator"), .byte, .byte]
  resolved := Array.replicate 1451 none
  statics := some 0 }

def pool8 : Array CpInfo := pool [(6, .class_ 8), (1, u "java/lang/Object"), (0, u "<init>"), (0, u "()V"), (1, .class_ 14), (1, u "java/lang/StringUTF16"), (31, u "$assertionsDisabled"), (0, u "Z"), (13, u "HI_BYTE_SHIFT"), (0, u "I"), (2, u "LO_BYTE_SHIFT"), (49, .methodref 12 116), (0, .nameAndType 117 118), (0, u "compress"), (0, u "([CI[BII)I"), (3, u "([CII)[B"), (138, u "coderFromArrayLen"), (0, u "([BI)B"), (106, .class_ 371), (1, u "java/lang/StringUTF16$LinesSpliterator"), (58, u "MAX_LENGTH"), (196, .class_ 628), (0, u "java/lang/StringUTF16$CodePointsSpliterator"), (0, .class_ 630), (0, u "java/lang/StringUTF16$CharsSpliterator")] 4

def k8m0 : Method := { name := "<init>", desc := "()V", sig := { parameters := [], returnType := none }, accessFlags := 0, code := none }
def k8c1 : Code := { maxStack := 2, maxLocals := 2, code := jdk_52_method_15_code, exceptionTable := #[], attributes := #[] }
def k8m1 : Method := { name := "coderFromArrayLen", desc := "([BI)B", sig := { parameters := [(.array .byte), .int], returnType := some .byte }, accessFlags := 8, code := some k8c1 }
def k8c2 : Code := { maxStack := 5, maxLocals := 6, code := jdk_52_method_16_code, exceptionTable := #[], attributes := #[] }
def k8m2 : Method := { name := "compress", desc := "([CII)[B", sig := { parameters := [(.array .char), .int, .int], returnType := some (.array .byte) }, accessFlags := 9, code := some k8c2 }
def k8c3 : Code := { maxStack := 3, maxLocals := 7, code := jdk_52_method_21_code, exceptionTable := #[], attributes := #[] }
def k8m3 : Method := { name := "compress", desc := "([CI[BII)I", sig := { parameters := [(.array .char), .int, (.array .byte), .int, .int], returnType := some .int }, accessFlags := 9, code := some k8c3 }
/-- java/lang/StringUTF16 -/
def k8 : Class := { plain "java/lang/StringUTF16" (some 0) with
  accessFlags := 48
  interfaces := #[]
  cf := some (fileOf pool8 12 #[.nestMembers #[627, 629, 369]] #[{ accessFlags := 0, nameIndex := 9, descriptorIndex := 10, attributes := #[] }, { accessFlags := 8, nameIndex := 261, descriptorIndex := 262, attributes := #[] }, { accessFlags := 9, nameIndex := 117, descriptorIndex := 122, attributes := #[] }, { accessFlags := 9, nameIndex := 117, descriptorIndex := 118, attributes := #[] }] 48 6 #[] #[{ accessFlags := 26, nameIndex := 61, descriptorIndex := 62, attributes := #[] }, { accessFlags := 26, nameIndex := 65, descriptorIndex := 62, attributes := #[] }, { accessFlags := 24, nameIndex := 430, descriptorIndex := 62, attributes := #[] }, { accessFlags := 4120, nameIndex := 46, descriptorIndex := 47, attributes := #[] }])
  fields := #[{ name := "HI_BYTE_SHIFT", type := .int, accessFlags := 26, slot := 0, constantValue := 0 }, { name := "LO_BYTE_SHIFT", type := .int, accessFlags := 26, slot := 1, constantValue := 0 }, { name := "MAX_LENGTH", type := .int, accessFlags := 24, slot := 2, constantValue := 0 }, { name := "$assertionsDisabled", type := .boolean, accessFlags := 4120, slot := 3, constantValue := 0 }]
  methods := #[k8m0, k8m1, k8m2, k8m3]
  instanceTypes := #[]
  staticTypes := #[.int, .int, .int, .boolean]
  resolved := Array.replicate 635 none
  statics := none }

def pool9 : Array CpInfo := pool [(1, .methodref 2 3), (0, .class_ 4), (0, .nameAndType 5 6), (0, u "java/lang/Object"), (0, u "<init>"), (0, u "()V"), (0, .fieldref 8 9), (0, .class_ 10), (0, .nameAndType 11 12), (0, u "com/example/libidem/libidem/IdempotencyKey"), (0, u "value"), (0, u "Ljava/lang/String;"), (0, .string 11), (0, .methodref 15 16), (0, .class_ 17), (0, .nameAndType 18 19), (0, u "java/util/Objects"), (0, u "requireNonNull"), (0, u "(Ljava/lang/Object;Ljava/lang/String;)Ljava/lang/Object;"), (0, .methodref 21 22), (0, .class_ 23), (0, .nameAndType 24 25), (0, u "java/lang/String"), (0, u "isEmpty"), (0, u "()Z"), (5, .nameAndType 5 32), (0, u "(Ljava/lang/String;)V"), (0, .methodref 21 34), (0, .nameAndType 35 36), (0, u "length"), (0, u "()I"), (4, .methodref 21 42), (0, .nameAndType 43 44), (0, u "charAt"), (0, u "(I)C"), (12, .methodref 8 31), (9, u "()Ljava/lang/String;"), (17, u "of"), (0, u "(Ljava/lang/String;)Lcom/example/libidem/libidem/IdempotencyKey;"), (51, u "HEADER"), (3, u "MAX_LENGTH"), (0, u "I"), (1, u "FIRST_VISIBLE_ASCII"), (0, u "C"), (1, u "LAST_VISIBLE_ASCII")] 28

def k9c0 : Code := { maxStack := 2, maxLocals := 2, code := prog_13_method_1_code, exceptionTable := #[], attributes := #[] }
def k9m0 : Method := { name := "<init>", desc := "(Ljava/lang/String;)V", sig := { parameters := [(.object "java/lang/String")], returnType := none }, accessFlags := 2, code := some k9c0 }
def k9c1 : Code := { maxStack := 7, maxLocals := 3, code := prog_13_method_2_code, exceptionTable := #[], attributes := #[] }
def k9m1 : Method := { name := "of", desc := "(Ljava/lang/String;)Lcom/example/libidem/libidem/IdempotencyKey;", sig := { parameters := [(.object "java/lang/String")], returnType := some (.object "com/example/libidem/libidem/IdempotencyKey") }, accessFlags := 9, code := some k9c1 }
def k9c2 : Code := { maxStack := 1, maxLocals := 1, code := prog_13_method_6_code, exceptionTable := #[], attributes := #[] }
def k9m2 : Method := { name := "value", desc := "()Ljava/lang/String;", sig := { parameters := [], returnType := some (.object "java/lang/String") }, accessFlags := 1, code := some k9c2 }
/-- com/example/libidem/libidem/IdempotencyKey -/
def k9 : Class := { plain "com/example/libidem/libidem/IdempotencyKey" (some 0) with
  accessFlags := 33
  interfaces := #[]
  cf := some (fileOf pool9 8 #[] #[{ accessFlags := 2, nameIndex := 5, descriptorIndex := 32, attributes := #[] }, { accessFlags := 9, nameIndex := 85, descriptorIndex := 86, attributes := #[] }, { accessFlags := 1, nameIndex := 11, descriptorIndex := 67, attributes := #[] }] 33 2 #[] #[{ accessFlags := 25, nameIndex := 138, descriptorIndex := 12, attributes := #[] }, { accessFlags := 25, nameIndex := 142, descriptorIndex := 143, attributes := #[] }, { accessFlags := 26, nameIndex := 145, descriptorIndex := 146, attributes := #[] }, { accessFlags := 26, nameIndex := 148, descriptorIndex := 146, attributes := #[] }, { accessFlags := 18, nameIndex := 11, descriptorIndex := 12, attributes := #[] }])
  fields := #[{ name := "HEADER", type := (.object "java/lang/String"), accessFlags := 25, slot := 0, constantValue := 0 }, { name := "MAX_LENGTH", type := .int, accessFlags := 25, slot := 1, constantValue := 0 }, { name := "FIRST_VISIBLE_ASCII", type := .char, accessFlags := 26, slot := 2, constantValue := 0 }, { name := "LAST_VISIBLE_ASCII", type := .char, accessFlags := 26, slot := 3, constantValue := 0 }, { name := "value", type := (.object "java/lang/String"), accessFlags := 18, slot := 0, constantValue := 0 }]
  methods := #[k9m0, k9m1, k9m2]
  instanceTypes := #[(.object "java/lang/String")]
  staticTypes := #[(.object "java/lang/String"), .int, .char, .char]
  resolved := Array.replicate 177 none
  statics := none }

def pool10 : Array CpInfo := pool [(2, .class_ 4), (1, u "java/lang/Object"), (0, u "<init>"), (0, u "()V"), (35, .class_ 44), (1, u "java/util/Objects"), (0, u "requireNonNull"), (48, u "(Ljava/lang/Object;Ljava/lang/String;)Ljava/lang/Object;")] 89

def k10m0 : Method := { name := "<init>", desc := "()V", sig := { parameters := [], returnType := none }, accessFlags := 2, code := none }
def k10c1 : Code := { maxStack := 3, maxLocals := 2, code := jdk_31_method_11_code, exceptionTable := #[], attributes := #[] }
def k10m1 : Method := { name := "requireNonNull", desc := "(Ljava/lang/Object;Ljava/lang/String;)Ljava/lang/Object;", sig := { parameters := [(.object "java/lang/Object"), (.object "java/lang/String")], returnType := some (.object "java/lang/Object") }, accessFlags := 9, code := some k10c1 }
/-- java/util/Objects -/
def k10 : Class := { plain "java/util/Objects" (some 0) with
  accessFlags := 49
  interfaces := #[]
  cf := some (fileOf pool10 42 #[] #[{ accessFlags := 2, nameIndex := 5, descriptorIndex := 6, attributes := #[] }, { accessFlags := 9, nameIndex := 45, descriptorIndex := 94, attributes := #[] }] 49 2 #[] #[])
  fields := #[]
  methods := #[k10m0, k10m1]
  instanceTypes := #[]
  staticTypes := #[]
  resolved := Array.replicate 184 none
  statics := none }

def pool11 : Array CpInfo := pool [(1, .class_ 2), (0, u "java/lang/String"), (1, .class_ 6), (1, u "java/lang/Object"), (0, u "<init>"), (0, u "()V"), (0, .methodref 1 10), (0, .nameAndType 11 12), (0, u "checkIndex"), (0, u "(II)V"), (1, .class_ 16), (1, u "java/lang/StringLatin1"), (36, u "([BI)C"), (67, u "$assertionsDisabled"), (0, u "Z"), (98, .class_ 223), (1, u "java/lang/StringLatin1$LinesSpliterator"), (28, u "charAt"), (137, .class_ 391), (0, u "java/lang/StringLatin1$CharsSpliterator")] 3

def k11m0 : Method := { name := "<init>", desc := "()V", sig := { parameters := [], returnType := none }, accessFlags := 0, code := none }
def k11c1 : Code := { maxStack := 2, maxLocals := 2, code := jdk_43_method_2_code, exceptionTable := #[], attributes := #[] }
def k11m1 : Method := { name := "charAt", desc := "([BI)C", sig := { parameters := [(.array .byte), .int], returnType := some .char }, accessFlags := 9, code := some k11c1 }
/-- java/lang/StringLatin1 -/
def k11 : Class := { plain "java/lang/StringLatin1" (some 0) with
  accessFlags := 48
  interfaces := #[]
  cf := some (fileOf pool11 14 #[.nestMembers #[390, 221]] #[{ accessFlags := 0, nameIndex := 7, descriptorIndex := 8, attributes := #[] }, { accessFlags := 9, nameIndex := 252, descriptorIndex := 53, attributes := #[] }] 48 4 #[] #[{ accessFlags := 4120, nameIndex := 121, descriptorIndex := 122, attributes := #[] }])
  fields := #[{ name := "$assertionsDisabled", type := .boolean, accessFlags := 4120, slot := 0, constantValue := 0 }]
  methods := #[k11m0, k11m1]
  instanceTypes := #[]
  staticTypes := #[.boolean]
  resolved := Array.replicate 395 none
  statics := none }

def pool12 : Array CpInfo := pool [(2, .class_ 4), (1, u "java/lang/Object"), (0, u "<init>"), (0, u "()V"), (17, .class_ 26), (1, u "jdk/internal/util/Preconditions"), (6, u "checkIndex"), (21, .class_ 56), (0, u "jdk/internal/util/Preconditions$4"), (57, .class_ 115), (0, u "jdk/internal/util/Preconditions$1"), (7, u "SIOOBE_FORMATTER"), (0, u "Ljava/util/function/BiFunction;"), (0, .class_ 126), (0, u "jdk/internal/util/Preconditions$2"), (3, u "AIOOBE_FORMATTER"), (0, .class_ 132), (0, u "jdk/internal/util/Preconditions$3"), (3, u "IOOBE_FORMATTER"), (41, u "(IILjava/util/function/BiFunction;)I")] 15

def k12m0 : Method := { name := "<init>", desc := "()V", sig := { parameters := [], returnType := none }, accessFlags := 1, code := none }
def k12c1 : Code := { maxStack := 3, maxLocals := 3, code := jdk_41_method_11_code, exceptionTable := #[], attributes := #[] }
def k12m1 : Method := { name := "checkIndex", desc := "(IILjava/util/function/BiFunction;)I", sig := { parameters := [.int, .int, (.object "java/util/function/BiFunction")], returnType := some .int }, accessFlags := 9, code := some k12c1 }
/-- jdk/internal/util/Preconditions -/
def k12 : Class := { plain "jdk/internal/util/Preconditions" (some 0) with
  accessFlags := 33
  interfaces := #[]
  cf := some (fileOf pool12 24 #[.nestMembers #[55, 131, 125, 114]] #[{ accessFlags := 1, nameIndex := 5, descriptorIndex := 6, attributes := #[] }, { accessFlags := 9, nameIndex := 33, descriptorIndex := 178, attributes := #[] }] 33 2 #[] #[{ accessFlags := 25, nameIndex := 123, descriptorIndex := 124, attributes := #[] }, { accessFlags := 25, nameIndex := 130, descriptorIndex := 124, attributes := #[] }, { accessFlags := 25, nameIndex := 136, descriptorIndex := 124, attributes := #[] }])
  fields := #[{ name := "SIOOBE_FORMATTER", type := (.object "java/util/function/BiFunction"), accessFlags := 25, slot := 0, constantValue := 0 }, { name := "AIOOBE_FORMATTER", type := (.object "java/util/function/BiFunction"), accessFlags := 25, slot := 1, constantValue := 0 }, { name := "IOOBE_FORMATTER", type := (.object "java/util/function/BiFunction"), accessFlags := 25, slot := 2, constantValue := 0 }]
  methods := #[k12m0, k12m1]
  instanceTypes := #[]
  staticTypes := #[(.object "java/util/function/BiFunction"), (.object "java/util/function/BiFunction"), (.object "java/util/function/BiFunction")]
  resolved := Array.replicate 194 none
  statics := some 1 }

def pool13 : Array CpInfo := pool [(9, u "<init>"), (6, .class_ 18), (1, u "java/lang/Object"), (0, u "()V"), (1, .class_ 23), (1, u "jdk/internal/util/ArraysSupport"), (0, u "LOG2_ARRAY_LONG_INDEX_SCALE"), (0, u "I"), (2, u "U"), (0, u "Ljdk/internal/misc/Unsafe;"), (8, u "BIG_ENDIAN"), (0, u "Z"), (8, u "LOG2_BYTE_BIT_SIZE"), (4, u "LOG2_ARRAY_INT_INDEX_SCALE"), (54, u "JLA"), (0, u "Ljdk/internal/access/JavaLangAccess;"), (11, u "LOG2_ARRAY_BOOLEAN_INDEX_SCALE"), (9, u "LOG2_ARRAY_BYTE_INDEX_SCALE"), (5, u "LOG2_ARRAY_CHAR_INDEX_SCALE"), (5, u "LOG2_ARRAY_SHORT_INDEX_SCALE"), (18, u "LOG2_ARRAY_FLOAT_INDEX_SCALE"), (24, u "LOG2_ARRAY_DOUBLE_INDEX_SCALE"), (89, u "T_BOOLEAN"), (2, u "T_CHAR"), (1, u "T_FLOAT"), (1, u "T_DOUBLE"), (1, u "T_BYTE"), (1, u "T_SHORT"), (1, u "T_INT"), (1, u "T_LONG"), (1, u "SOFT_MAX_ARRAY_LENGTH")] 83

def k13m0 : Method := { name := "<init>", desc := "()V", sig := { parameters := [], returnType := none }, accessFlags := 2, code := none }
/-- jdk/internal/util/ArraysSupport -/
def k13 : Class := { plain "jdk/internal/util/ArraysSupport" (some 0) with
  accessFlags := 33
  interfaces := #[]
  cf := some (fileOf pool13 21 #[] #[{ accessFlags := 2, nameIndex := 9, descriptorIndex := 19, attributes := #[] }] 33 16 #[] #[{ accessFlags := 24, nameIndex := 28, descriptorIndex := 29, attributes := #[] }, { accessFlags := 26, nameIndex := 38, descriptorIndex := 39, attributes := #[] }, { accessFlags := 25, nameIndex := 121, descriptorIndex := 25, attributes := #[] }, { accessFlags := 25, nameIndex := 131, descriptorIndex := 25, attributes := #[] }, { accessFlags := 25, nameIndex := 137, descriptorIndex := 25, attributes := #[] }, { accessFlags := 25, nameIndex := 143, descriptorIndex := 25, attributes := #[] }, { accessFlags := 25, nameIndex := 53, descriptorIndex := 25, attributes := #[] }, { accessFlags := 25, nameIndex := 24, descriptorIndex := 25, attributes := #[] }, { accessFlags := 25, nameIndex := 162, descriptorIndex := 25, attributes := #[] }, { accessFlags := 25, nameIndex := 187, descriptorIndex := 25, attributes := #[] }, { accessFlags := 26, nameIndex := 48, descriptorIndex := 25, attributes := #[] }, { accessFlags := 25, nameIndex := 277, descriptorIndex := 25, attributes := #[] }, { accessFlags := 25, nameIndex := 280, descriptorIndex := 25, attributes := #[] }, { accessFlags := 25, nameIndex := 282, descriptorIndex := 25, attributes := #[] }, { accessFlags := 25, nameIndex := 284, descriptorIndex := 25, attributes := #[] }, { accessFlags := 25, nameIndex := 286, descriptorIndex := 25, attributes := #[] }, { accessFlags := 25, nameIndex := 288, descriptorIndex := 25, attributes := #[] }, { accessFlags := 25, nameIndex := 290, descriptorIndex := 25, attributes := #[] }, { accessFlags := 25, nameIndex := 292, descriptorIndex := 25, attributes := #[] }, { accessFlags := 26, nameIndex := 108, descriptorIndex := 109, attributes := #[] }, { accessFlags := 25, nameIndex := 294, descriptorIndex := 25, attributes := #[] }])
  fields := #[{ name := "U", type := (.object "jdk/internal/misc/Unsafe"), accessFlags := 24, slot := 0, constantValue := 0 }, { name := "BIG_ENDIAN", type := .boolean, accessFlags := 26, slot := 1, constantValue := 0 }, { name := "LOG2_ARRAY_BOOLEAN_INDEX_SCALE", type := .int, accessFlags := 25, slot := 2, constantValue := 0 }, { name := "LOG2_ARRAY_BYTE_INDEX_SCALE", type := .int, accessFlags := 25, slot := 3, constantValue := 0 }, { name := "LOG2_ARRAY_CHAR_INDEX_SCALE", type := .int, accessFlags := 25, slot := 4, constantValue := 0 }, { name := "LOG2_ARRAY_SHORT_INDEX_SCALE", type := .int, accessFlags := 25, slot := 5, constantValue := 0 }, { name := "LOG2_ARRAY_INT_INDEX_SCALE", type := .int, accessFlags := 25, slot := 6, constantValue := 0 }, { name := "LOG2_ARRAY_LONG_INDEX_SCALE", type := .int, accessFlags := 25, slot := 7, constantValue := 0 }, { name := "LOG2_ARRAY_FLOAT_INDEX_SCALE", type := .int, accessFlags := 25, slot := 8, constantValue := 0 }, { name := "LOG2_ARRAY_DOUBLE_INDEX_SCALE", type := .int, accessFlags := 25, slot := 9, constantValue := 0 }, { name := "LOG2_BYTE_BIT_SIZE", type := .int, accessFlags := 26, slot := 10, constantValue := 0 }, { name := "T_BOOLEAN", type := .int, accessFlags := 25, slot := 11, constantValue := 0 }, { name := "T_CHAR", type := .int, accessFlags := 25, slot := 12, constantValue := 0 }, { name := "T_FLOAT", type := .int, accessFlags := 25, slot := 13, constantValue := 0 }, { name := "T_DOUBLE", type := .int, accessFlags := 25, slot := 14, constantValue := 0 }, { name := "T_BYTE", type := .int, accessFlags := 25, slot := 15, constantValue := 0 }, { name := "T_SHORT", type := .int, accessFlags := 25, slot := 16, constantValue := 0 }, { name := "T_INT", type := .int, accessFlags := 25, slot := 17, constantValue := 0 }, { name := "T_LONG", type := .int, accessFlags := 25, slot := 18, constantValue := 0 }, { name := "JLA", type := (.object "jdk/internal/access/JavaLangAccess"), accessFlags := 26, slot := 19, constantValue := 0 }, { name := "SOFT_MAX_ARRAY_LENGTH", type := .int, accessFlags := 25, slot := 20, constantValue := 0 }]
  methods := #[k13m0]
  instanceTypes := #[]
  staticTypes := #[(.object "jdk/internal/misc/Unsafe"), .boolean, .int, .int, .int, .int, .int, .int, .int, .int, .int, .int, .int, .int, .int, .int, .int, .int, .int, (.object "jdk/internal/access/JavaLangAccess"), .int]
  resolved := Array.replicate 378 none
  statics := none }

def pool14 : Array CpInfo := pool [(1, u "java/lang/Cloneable"), (0, .class_ 1), (0, u "java/lang/Object"), (0, .class_ 3)] 3

/-- java/lang/Cloneable -/
def k14 : Class := { plain "java/lang/Cloneable" (some 0) with
  accessFlags := 1537
  interfaces := #[]
  cf := some (fileOf pool14 2 #[] #[] 1537 4 #[] #[])
  fields := #[]
  methods := #[]
  instanceTypes := #[]
  staticTypes := #[]
  resolved := Array.replicate 8 none
  statics := none }

/-- the primitive byte -/
def k15 : Class := { plain "byte" none with kind := .primitive 'B', accessFlags := 0x411 }
/-- [B -/
def k16 : Class := { plain "[B" (some 0) with kind := .array 15 .byte, interfaces := #[14, 2], accessFlags := 1041 }

/-- the primitive char -/
def k17 : Class := { plain "char" none with kind := .primitive 'C', accessFlags := 0x411 }
/-- [C -/
def k18 : Class := { plain "[C" (some 0) with kind := .array 17 .char, interfaces := #[14, 2], accessFlags := 1041 }

/-- the primitive int -/
def k19 : Class := { plain "int" none with kind := .primitive 'I', accessFlags := 0x411 }
/-- [I -/
def k20 : Class := { plain "[I" (some 0) with kind := .array 19 .int, interfaces := #[14, 2], accessFlags := 1041 }

def heap : Heap := #[{ cls := 7, slots := #[.long 0, .int 1, .null, .int 0, .null, .int 0, .int 0], vm := .statics 7 },
  { cls := 12, slots := #[.null, .null, .null], vm := .statics 12 }]
def classes : Array Class := #[k0, k1, k2, k3, k4, k5, k6, k7, k8, k9, k10, k11, k12, k13, k14, k15, k16, k17, k18, k19, k20]
def interned : List (Array UInt16 × Addr) := []
def slotsUsed : Nat := 10
def theMethod : MethodId := ⟨1, 2⟩
def args0 : Array Value := #[.int 5, .int 7, .int 2, .int 3, .int 1]
def aboutOver (below : List Frame) : State where
  vm := { classes := classes, interned := interned.toArray }
  heap := heap
  slotsUsed := slotsUsed
  threads := #[{ frames := .invoking theMethod args0 :: below }]
def below0 : List Frame := [.native { method := ⟨0, 0⟩, args := #[] }]
def about1 : State := aboutOver below0
def p0 : Program := .bare "" "" ""
def e0 : Env := launch0.env 0 0 0
theorem w_frames : about1.frames = Frame.invoking theMethod args0 :: below0 := rfl
set_option maxRecDepth 65536 in
theorem w_args : argsFit about1.vm theMethod args0 = true := by decide +kernel
set_option maxRecDepth 65536 in
theorem w_heap : heapFits about1 = true := by decide +kernel
set_option maxRecDepth 65536 in
theorem w_runnable : about1.curStatus? = some .runnable := by decide +kernel
set_option maxRecDepth 65536 in
theorem w_alone : about1.alone = true := by decide +kernel
set_option maxRecDepth 65536 in
theorem w_named : about1.methodNamed? x = some theMethod := by decide +kernel
set_option maxRecDepth 65536 in
theorem w_hears : about1.hears theMethod below0 = true := by decide +kernel
set_option maxRecDepth 65536 in
theorem w_ripe : about1.ripe theMethod args0 below0 = true := by decide +kernel
theorem w_running : about1.status = .running := rfl
set_option maxRecDepth 65536 in
theorem w_room : about1.hasRoom e0.platform room_1 = true :=
  launch0.hasRoom_least _ room_1 (by decide +kernel) (by decide +kernel) (by decide +kernel) (by decide +kernel) (by decide +kernel) (by decide +kernel)
theorem allAtoms_all (ts : List Jvm.Cond) (a : Array Jvm.Value) (st : Jvm.State) : (allAtoms ts).before a st = ts.all (fun c => c.before a st) := by
  induction ts with
  | nil => rfl
  | cons c t ih =>
    show (Jvm.Cond.and c (allAtoms t)).before a st = _
    rw [Jvm.Cond.before_and, ih, List.all_cons]
def words1 : List Jvm.Cond := Jvm.Cond.code x code maxLocals ret :: tables_1
/-- a 'code' word, met by the world's own term for the bytes: nothing is compared byte by byte -/
theorem code_word {y : MethodName} {bytes : ByteArray} {mx : Nat} {rt : Option FieldType} {a : Array Value} {s : State} {m : MethodId} {meth : Method} {c : Code} (h1 : s.methodNamed? y = some m) (h2 : s.vm.method? m = some meth) (h3 : meth.code = some c) (h4 : c.code = bytes)
    (h5 : (c.maxLocals == mx && c.exceptionTable.isEmpty && decide (c.maxStack ≤ mostOperands) && decide (meth.sig.returnType = rt) && !meth.locks && decide (parseMethodDescriptor y.desc = some meth.sig)) = true) : (Jvm.Cond.code y bytes mx rt).before a s = true := by
  simp only [Bool.and_eq_true, beq_iff_eq, Bool.not_eq_true', decide_eq_true_eq] at h5
  obtain ⟨⟨⟨⟨⟨g1, g2⟩, g3⟩, g4⟩, g5⟩, g6⟩ := h5
  simp [Cond.before, Cond.holds, Cond.value, h1, h2, h3, h4, g1, g2, g3, g4, g5, g6]
def isCode : Jvm.Cond → Bool
  | .code _ _ _ _ => true
  | _ => false
theorem all_split {L : List Jvm.Cond} {P : Jvm.Cond → Bool} (h1 : L.all (fun c => isCode c || P c) = true) (h2 : ∀ c ∈ L.filter isCode, P c = true) : L.all P = true := by
  refine List.all_eq_true.mpr fun c hc => ?_
  have h := List.all_eq_true.mp h1 c hc
  rcases Bool.eq_false_or_eq_true (isCode c) with hi | hi
  · exact h2 c (List.mem_filter.mpr ⟨hc, hi⟩)
  · simpa [hi] using h
set_option maxRecDepth 65536 in
theorem w_c0 : (Jvm.Cond.code x code maxLocals ret).before args0 about1 = true := code_word (m := ⟨1, 2⟩) (meth := k1m2) (c := k1c2) (by decide +kernel) rfl rfl rfl (by decide +kernel)
set_option maxRecDepth 65536 in
theorem w_c1 : (Jvm.Cond.code ({ cls := "com/example/libidem/libidem/IdempotencyKeyOfPinLaw", name := "visible", desc := "(I)C" } : Jvm.MethodName) method_2_code (1 : Nat) (Option.some Jvm.ClassFile.FieldType.char)).before args0 about1 = true := code_word (m := ⟨1, 1⟩) (meth := k1m1) (c := k1c1) (by decide +kernel) rfl rfl rfl (by decide +kernel)
set_option maxRecDepth 65536 in
theorem w_c2 : (Jvm.Cond.code ({ cls := "java/lang/String", name := "<init>", desc := "([C)V" } : Jvm.MethodName) jdk_42_method_3_code (2 : Nat) (Option.none : Option Jvm.ClassFile.FieldType)).before args0 about1 = true := code_word (m := ⟨7, 1⟩) (meth := k7m1) (c := k7c1) (by decide +kernel) rfl rfl rfl (by decide +kernel)
set_option maxRecDepth 65536 in
theorem w_c3 : (Jvm.Cond.code ({ cls := "java/lang/String", name := "<init>", desc := "([CIILjava/lang/Void;)V" } : Jvm.MethodName) jdk_42_method_149_code (6 : Nat) (Option.none : Option Jvm.ClassFile.FieldType)).before args0 about1 = true := code_word (m := ⟨7, 6⟩) (meth := k7m6) (c := k7c6) (by decide +kernel) rfl rfl rfl (by decide +kernel)
set_option maxRecDepth 65536 in
theorem w_c4 : (Jvm.Cond.code ({ cls := "java/lang/Object", name := "<init>", desc := "()V" } : Jvm.MethodName) object_method_1_code (1 : Nat) (Option.none : Option Jvm.ClassFile.FieldType)).before args0 about1 = true := code_word (m := ⟨0, 0⟩) (meth := k0m0) (c := k0c0) (by decide +kernel) rfl rfl rfl (by decide +kernel)
set_option maxRecDepth 65536 in
theorem w_c5 : (Jvm.Cond.code ({ cls := "java/lang/StringUTF16", name := "compress", desc := "([CII)[B" } : Jvm.MethodName) jdk_52_method_16_code (6 : Nat) (Option.some (Jvm.ClassFile.FieldType.array Jvm.ClassFile.FieldType.byte))).before args0 about1 = true := code_word (m := ⟨8, 2⟩) (meth := k8m2) (c := k8c2) (by decide +kernel) rfl rfl rfl (by decide +kernel)
set_option maxRecDepth 65536 in
theorem w_c6 : (Jvm.Cond.code ({ cls := "java/lang/StringUTF16", name := "compress", desc := "([CI[BII)I" } : Jvm.MethodName) jdk_52_method_21_code (7 : Nat) (Option.some Jvm.ClassFile.FieldType.int)).before args0 about1 = true := code_word (m := ⟨8, 3⟩) (meth := k8m3) (c := k8c3) (by decide +kernel) rfl rfl rfl (by decide +kernel)
set_option maxRecDepth 65536 in
theorem w_c7 : (Jvm.Cond.code ({ cls := "java/lang/StringUTF16", name := "coderFromArrayLen", desc := "([BI)B" } : Jvm.MethodName) jdk_52_method_15_code (2 : Nat) (Option.some Jvm.ClassFile.FieldType.byte)).before args0 about1 = true := code_word (m := ⟨8, 1⟩) (meth := k8m1) (c := k8c1) (by decide +kernel) rfl rfl rfl (by decide +kernel)
set_option maxRecDepth 65536 in
theorem w_c8 : (Jvm.Cond.code ({ cls := "com/example/libidem/libidem/IdempotencyKey", name := "of", desc := "(Ljava/lang/String;)Lcom/example/libidem/libidem/IdempotencyKey;" } : Jvm.MethodName) prog_13_method_2_code (3 : Nat) (Option.some (Jvm.ClassFile.FieldType.object "com/example/libidem/libidem/IdempotencyKey"))).before args0 about1 = true := code_word (m := ⟨9, 1⟩) (meth := k9m1) (c := k9c1) (by decide +kernel) rfl rfl rfl (by decide +kernel)
set_option maxRecDepth 65536 in
theorem w_c9 : (Jvm.Cond.code ({ cls := "java/util/Objects", name := "requireNonNull", desc := "(Ljava/lang/Object;Ljava/lang/String;)Ljava/lang/Object;" } : Jvm.MethodName) jdk_31_method_11_code (2 : Nat) (Option.some (Jvm.ClassFile.FieldType.object "java/lang/Object"))).before args0 about1 = true := code_word (m := ⟨10, 1⟩) (meth := k10m1) (c := k10c1) (by decide +kernel) rfl rfl rfl (by decide +kernel)
set_option maxRecDepth 65536 in
theorem w_c10 : (Jvm.Cond.code ({ cls := "java/lang/String", name := "isEmpty", desc := "()Z" } : Jvm.MethodName) jdk_42_method_55_code (1 : Nat) (Option.some Jvm.ClassFile.FieldType.boolean)).before args0 about1 = true := code_word (m := ⟨7, 3⟩) (meth := k7m3) (c := k7c3) (by decide +kernel) rfl rfl rfl (by decide +kernel)
set_option maxRecDepth 65536 in
theorem w_c11 : (Jvm.Cond.code ({ cls := "java/lang/String", name := "length", desc := "()I" } : Jvm.MethodName) jdk_42_method_54_code (1 : Nat) (Option.some Jvm.ClassFile.FieldType.int)).before args0 about1 = true := code_word (m := ⟨7, 2⟩) (meth := k7m2) (c := k7c2) (by decide +kernel) rfl rfl rfl (by decide +kernel)
set_option maxRecDepth 65536 in
theorem w_c12 : (Jvm.Cond.code ({ cls := "java/lang/String", name := "coder", desc := "()B" } : Jvm.MethodName) jdk_42_method_152_code (1 : Nat) (Option.some Jvm.ClassFile.FieldType.byte)).before args0 about1 = true := code_word (m := ⟨7, 7⟩) (meth := k7m7) (c := k7c7) (by decide +kernel) rfl rfl rfl (by decide +kernel)
set_option maxRecDepth 65536 in
theorem w_c13 : (Jvm.Cond.code ({ cls := "java/lang/String", name := "charAt", desc := "(I)C" } : Jvm.MethodName) jdk_42_method_56_code (2 : Nat) (Option.some Jvm.ClassFile.FieldType.char)).before args0 about1 = true := code_word (m := ⟨7, 4⟩) (meth := k7m4) (c := k7c4) (by decide +kernel) rfl rfl rfl (by decide +kernel)
set_option maxRecDepth 65536 in
theorem w_c14 : (Jvm.Cond.code ({ cls := "java/lang/String", name := "isLatin1", desc := "()Z" } : Jvm.MethodName) jdk_42_method_154_code (1 : Nat) (Option.some Jvm.ClassFile.FieldType.boolean)).before args0 about1 = true := code_word (m := ⟨7, 8⟩) (meth := k7m8) (c := k7c8) (by decide +kernel) rfl rfl rfl (by decide +kernel)
set_option maxRecDepth 65536 in
theorem w_c15 : (Jvm.Cond.code ({ cls := "java/lang/StringLatin1", name := "charAt", desc := "([BI)C" } : Jvm.MethodName) jdk_43_method_2_code (2 : Nat) (Option.some Jvm.ClassFile.FieldType.char)).before args0 about1 = true := code_word (m := ⟨11, 1⟩) (meth := k11m1) (c := k11c1) (by decide +kernel) rfl rfl rfl (by decide +kernel)
set_option maxRecDepth 65536 in
theorem w_c16 : (Jvm.Cond.code ({ cls := "java/lang/String", name := "checkIndex", desc := "(II)V" } : Jvm.MethodName) jdk_42_method_155_code (2 : Nat) (Option.none : Option Jvm.ClassFile.FieldType)).before args0 about1 = true := code_word (m := ⟨7, 9⟩) (meth := k7m9) (c := k7c9) (by decide +kernel) rfl rfl rfl (by decide +kernel)
set_option maxRecDepth 65536 in
theorem w_c17 : (Jvm.Cond.code ({ cls := "jdk/internal/util/Preconditions", name := "checkIndex", desc := "(IILjava/util/function/BiFunction;)I" } : Jvm.MethodName) jdk_41_method_11_code (3 : Nat) (Option.some Jvm.ClassFile.FieldType.int)).before args0 about1 = true := code_word (m := ⟨12, 1⟩) (meth := k12m1) (c := k12c1) (by decide +kernel) rfl rfl rfl (by decide +kernel)
set_option maxRecDepth 65536 in
theorem w_c18 : (Jvm.Cond.code ({ cls := "com/example/libidem/libidem/IdempotencyKey", name := "<init>", desc := "(Ljava/lang/String;)V" } : Jvm.MethodName) prog_13_method_1_code (2 : Nat) (Option.none : Option Jvm.ClassFile.FieldType)).before args0 about1 = true := code_word (m := ⟨9, 0⟩) (meth := k9m0) (c := k9c0) (by decide +kernel) rfl rfl rfl (by decide +kernel)
set_option maxRecDepth 65536 in
theorem w_c19 : (Jvm.Cond.code ({ cls := "com/example/libidem/libidem/IdempotencyKey", name := "value", desc := "()Ljava/lang/String;" } : Jvm.MethodName) prog_13_method_6_code (1 : Nat) (Option.some (Jvm.ClassFile.FieldType.object "java/lang/String"))).before args0 about1 = true := code_word (m := ⟨9, 2⟩) (meth := k9m2) (c := k9c2) (by decide +kernel) rfl rfl rfl (by decide +kernel)
set_option maxRecDepth 65536 in
theorem w_c20 : (Jvm.Cond.code ({ cls := "java/lang/String", name := "equals", desc := "(Ljava/lang/Object;)Z" } : Jvm.MethodName) jdk_42_method_66_code (3 : Nat) (Option.some Jvm.ClassFile.FieldType.boolean)).before args0 about1 = true := code_word (m := ⟨7, 5⟩) (meth := k7m5) (c := k7c5) (by decide +kernel) rfl rfl rfl (by decide +kernel)
def codes1 : List Jvm.Cond := [Jvm.Cond.code x code maxLocals ret, Jvm.Cond.code ({ cls := "com/example/libidem/libidem/IdempotencyKeyOfPinLaw", name := "visible", desc := "(I)C" } : Jvm.MethodName) method_2_code (1 : Nat) (Option.some Jvm.ClassFile.FieldType.char), Jvm.Cond.code ({ cls := "java/lang/String", name := "<init>", desc := "([C)V" } : Jvm.MethodName) jdk_42_method_3_code (2 : Nat) (Option.none : Option Jvm.ClassFile.FieldType), Jvm.Cond.code ({ cls := "java/lang/String", name := "<init>", desc := "([CIILjava/lang/Void;)V" } : Jvm.MethodName) jdk_42_method_149_code (6 : Nat) (Option.none : Option Jvm.ClassFile.FieldType), Jvm.Cond.code ({ cls := "java/lang/Object", name := "<init>", desc := "()V" } : Jvm.MethodName) object_method_1_code (1 : Nat) (Option.none : Option Jvm.ClassFile.FieldType), Jvm.Cond.code ({ cls := "java/lang/StringUTF16", name := "compress", desc := "([CII)[B" } : Jvm.MethodName) jdk_52_method_16_code (6 : Nat) (Option.some (Jvm.ClassFile.FieldType.array Jvm.ClassFile.FieldType.byte)), Jvm.Cond.code ({ cls := "java/lang/StringUTF16", name := "compress", desc := "([CI[BII)I" } : Jvm.MethodName) jdk_52_method_21_code (7 : Nat) (Option.some Jvm.ClassFile.FieldType.int), Jvm.Cond.code ({ cls := "java/lang/StringUTF16", name := "coderFromArrayLen", desc := "([BI)B" } : Jvm.MethodName) jdk_52_method_15_code (2 : Nat) (Option.some Jvm.ClassFile.FieldType.byte), Jvm.Cond.code ({ cls := "com/example/libidem/libidem/IdempotencyKey", name := "of", desc := "(Ljava/lang/String;)Lcom/example/libidem/libidem/IdempotencyKey;" } : Jvm.MethodName) prog_13_method_2_code (3 : Nat) (Option.some (Jvm.ClassFile.FieldType.object "com/example/libidem/libidem/IdempotencyKey")), Jvm.Cond.code ({ cls := "java/util/Objects", name := "requireNonNull", desc := "(Ljava/lang/Object;Ljava/lang/String;)Ljava/lang/Object;" } : Jvm.MethodName) jdk_31_method_11_code (2 : Nat) (Option.some (Jvm.ClassFile.FieldType.object "java/lang/Object")), Jvm.Cond.code ({ cls := "java/lang/String", name := "isEmpty", desc := "()Z" } : Jvm.MethodName) jdk_42_method_55_code (1 : Nat) (Option.some Jvm.ClassFile.FieldType.boolean), Jvm.Cond.code ({ cls := "java/lang/String", name := "length", desc := "()I" } : Jvm.MethodName) jdk_42_method_54_code (1 : Nat) (Option.some Jvm.ClassFile.FieldType.int), Jvm.Cond.code ({ cls := "java/lang/String", name := "coder", desc := "()B" } : Jvm.MethodName) jdk_42_method_152_code (1 : Nat) (Option.some Jvm.ClassFile.FieldType.byte), Jvm.Cond.code ({ cls := "java/lang/String", name := "charAt", desc := "(I)C" } : Jvm.MethodName) jdk_42_method_56_code (2 : Nat) (Option.some Jvm.ClassFile.FieldType.char), Jvm.Cond.code ({ cls := "java/lang/String", name := "isLatin1", desc := "()Z" } : Jvm.MethodName) jdk_42_method_154_code (1 : Nat) (Option.some Jvm.ClassFile.FieldType.boolean), Jvm.Cond.code ({ cls := "java/lang/StringLatin1", name := "charAt", desc := "([BI)C" } : Jvm.MethodName) jdk_43_method_2_code (2 : Nat) (Option.some Jvm.ClassFile.FieldType.char), Jvm.Cond.code ({ cls := "java/lang/String", name := "checkIndex", desc := "(II)V" } : Jvm.MethodName) jdk_42_method_155_code (2 : Nat) (Option.none : Option Jvm.ClassFile.FieldType), Jvm.Cond.code ({ cls := "jdk/internal/util/Preconditions", name := "checkIndex", desc := "(IILjava/util/function/BiFunction;)I" } : Jvm.MethodName) jdk_41_method_11_code (3 : Nat) (Option.some Jvm.ClassFile.FieldType.int), Jvm.Cond.code ({ cls := "com/example/libidem/libidem/IdempotencyKey", name := "<init>", desc := "(Ljava/lang/String;)V" } : Jvm.MethodName) prog_13_method_1_code (2 : Nat) (Option.none : Option Jvm.ClassFile.FieldType), Jvm.Cond.code ({ cls := "com/example/libidem/libidem/IdempotencyKey", name := "value", desc := "()Ljava/lang/String;" } : Jvm.MethodName) prog_13_method_6_code (1 : Nat) (Option.some (Jvm.ClassFile.FieldType.object "java/lang/String")), Jvm.Cond.code ({ cls := "java/lang/String", name := "equals", desc := "(Ljava/lang/Object;)Z" } : Jvm.MethodName) jdk_42_method_66_code (3 : Nat) (Option.some Jvm.ClassFile.FieldType.boolean)]
set_option maxRecDepth 65536 in
theorem codes_eq : words1.filter isCode = codes1 := rfl
theorem w_codes : ∀ c ∈ words1.filter isCode, c.before args0 about1 = true := by
  rw [codes_eq]
  intro c hc
  simp only [codes1, List.mem_cons, List.not_mem_nil, or_false] at hc
  rcases hc with rfl | rfl | rfl | rfl | rfl | rfl | rfl | rfl | rfl | rfl | rfl | rfl | rfl | rfl | rfl | rfl | rfl | rfl | rfl | rfl | rfl
  · exact w_c0
  · exact w_c1
  · exact w_c2
  · exact w_c3
  · exact w_c4
  · exact w_c5
  · exact w_c6
  · exact w_c7
  · exact w_c8
  · exact w_c9
  · exact w_c10
  · exact w_c11
  · exact w_c12
  · exact w_c13
  · exact w_c14
  · exact w_c15
  · exact w_c16
  · exact w_c17
  · exact w_c18
  · exact w_c19
  · exact w_c20
set_option maxRecDepth 65536 in
theorem w_t1 : (words1.take 24).all (fun c => isCode c || c.before args0 about1) = true := by decide +kernel
set_option maxRecDepth 65536 in
theorem w_t2 : ((words1.drop 24).take 24).all (fun c => isCode c || c.before args0 about1) = true := by decide +kernel
set_option maxRecDepth 65536 in
theorem w_t3 : (((words1.drop 24).drop 24).take 24).all (fun c => isCode c || c.before args0 about1) = true := by decide +kernel
set_option maxRecDepth 65536 in
theorem w_t4 : ((((words1.drop 24).drop 24).drop 24).take 24).all (fun c => isCode c || c.before args0 about1) = true := by decide +kernel
set_option maxRecDepth 65536 in
theorem w_t5 : ((((words1.drop 24).drop 24).drop 24).drop 24).all (fun c => isCode c || c.before args0 about1) = true := by decide +kernel
theorem w_tables : (allAtoms (Jvm.Cond.code x code maxLocals ret :: tables_1)).before args0 about1 = true := by
  rw [allAtoms_all]
  show words1.all (fun c => c.before args0 about1) = true
  refine all_split ?_ w_codes
  rw [← List.take_append_drop 24 words1, List.all_append, w_t1, ← List.take_append_drop 24 (words1.drop 24), List.all_append, w_t2, ← List.take_append_drop 24 ((words1.drop 24).drop 24), List.all_append, w_t3, ← List.take_append_drop 24 (((words1.drop 24).drop 24).drop 24), List.all_append, w_t4, w_t5]
  rfl
set_option maxRecDepth 65536 in
theorem w_rest : rest_1_c.before args0 about1 = true := by decide +kernel
set_option maxRecDepth 65536 in
theorem w_case : (Jvm.Cond.and given_1 narrow_1).before args0 about1 = true := by decide +kernel
theorem w_applies : (headSpec (Jvm.Cond.code x code maxLocals ret :: tables_1) room_1).applies x e0.platform about1 = true :=
  (Spec.applies_iff w_frames).mpr ⟨w_running, w_runnable, w_alone, w_named, w_hears, w_ripe, w_room, w_tables⟩
theorem atStart : AtStart classFile x code maxLocals ret World_1 tables_1 room_1 Calls_1 rest_1 Pre_1 launch0 p0 e0 about1 theMethod args0 below0 :=
  ⟨lists_1, trivial, launch0.admits_env _ _ _, launch0.least_env, fairChoices_fair.cas, fairChoices_fair.clock, w_frames, w_args, w_heap, w_applies, trivial, w_rest, w_case⟩
end start1
theorem witness_1 : WitnessClaimed_1 := ⟨start1.p0, start1.e0, start1.about1, start1.theMethod, start1.args0, start1.below0, start1.atStart⟩
end Jvm.Pilot.@@N@@
