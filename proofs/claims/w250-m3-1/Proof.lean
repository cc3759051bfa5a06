import JvmDerived
import JvmDerived.Pilot.@@N@@Statement
import JvmDerived.Pilot.@@N@@Code
set_option linter.unusedVariables false
set_option linter.unusedSimpArgs false

namespace Jvm.Pilot.@@N@@
open Jvm Jvm.ClassFile Sem Op Lib Jvm.Free Jvm.Stand Jvm.LawKit Jvm.RoadKit Bundle Jvm.Pilot.@@N@@.Jvm.D
section Own
variable {p : Program} {l : Launch} {e : Env} {R : Room} {s : State} {m : MethodId} {args : Array Value} {below : List Frame} {meth : Method} {c : Code} {T T' : State} {cells slots n0 kk nn : Nat} {Z : State} {a0 : Array Value} {h h' : Heap} {Q : Option Value → Heap → Prop} {FE : Outcome → State → List Loc → Prop} {g g' : JFrame} {y : MethodName} {bytes : ByteArray} {maxL : Nat} {ret : Option FieldType}
/-- where a walk stands: its fixed facts, and the library's Stand with its written places hidden (all of them new) -/
def OAt (n0 : Nat) (Z : State) (y : MethodName) (bytes : ByteArray) (maxL : Nat) (ret : Option FieldType) (p : Program) (l : Launch) (e : Env) (R : Room) (s : State) (m : MethodId) (args : Array Value) (below : List Frame) (meth : Method) (c : Code) (T : State) (h : Heap) (cells slots : Nat) : Prop :=
  (p.tables.exec = Jvm.exec ∧ Z.Warmed39 s.vm ∧ s.vm.findClass y.cls = some m.cls ∧ meth.name = y.name ∧ c.code = bytes ∧ c.maxLocals = maxL ∧ meth.sig.returnType = ret ∧ meth.locks = false) ∧
    ∃ locs, Stand p l e R s m args below meth c T locs cells slots ∧ Fr n0 locs ∧ T.heap = h
/-- the run from here ends, returns, Q holds of what it returns and of the heap, and E of the end -/
def OFin (n0 : Nat) (p : Program) (e : Env) (FE : Outcome → State → List Loc → Prop) (below : List Frame) (Q : Option Value → Heap → Prop) (T : State) (g : JFrame) : Prop :=
  ∃ s₂ o, Steps p.tables e below (T.setTop g) s₂ ∧ s₂.status = .running ∧ Ended s₂ below o ∧ ∃ v L, o = .returned v ∧ (Q v s₂.heap ∧ Fr n0 L) ∧ FE o s₂ L
abbrev OMeets (l : Launch) (Z : State) (y : MethodName) (ws : List Jvm.Cond) (bytes : ByteArray) (maxL : Nat) (ret : Option FieldType) (rm : Room) (as' : Array Value) (h0 : Heap) (n0 : Nat) (Q : Option Value → Heap → Prop) : Prop :=
  MetFree l y (head1 (Jvm.Cond.code y bytes maxL ret :: ws) rm) (fun a U => a = as' ∧ Z.Warmed39 U.vm ∧ U.heap = h0) (fun _ _ _ _ _ => True) (fun _ U o U' => ∃ v L, o = .returned v ∧ (Q v U'.heap ∧ Fr n0 L) ∧ FrameEnd U o U' L rm.cells rm.slots)
theorem o_enter {ws : List Jvm.Cond} {rm : Room} {as' : Array Value} {h0 : Heap} (pn : plainFor y = true)
    (body : ∀ (p : Program) (e : Env) (s : State) (m : MethodId) (below : List Frame) (meth : Method) (c : Code) (s₁ : State), OAt n0 Z y bytes maxL ret p l e rm s m as' below meth c s₁ h0 0 0 → OFin n0 p e (fun o t L => FrameEnd s o t L rm.cells rm.slots) below Q s₁ (entryFrame m as' maxL)) :
    OMeets l Z y ws bytes maxL ret rm as' h0 n0 Q := by
  refine MetFree.of_bodySF pn hisR ?_
  intro p e s m args below meth c s₁ Bd hml0 hP hK
  obtain ⟨rfl, hZ, hh⟩ := hP
  have e0 : s₁.heap = h0 := by rw [← hh, Bd.state]; rfl
  exact body p e s m below meth c s₁ ⟨⟨Bd.exec, hZ, findClass_of_methodNamed Bd.named, (name_of_methodNamed Bd.named Bd.method).1, Bd.bytes, hml0, Bd.returns, Bd.notSynchronized⟩, [], Stand.of_body Bd, Fr.nil n0, e0⟩
theorem OFin.cast (q : g = g') (k : OFin n0 p e FE below Q T g') : OFin n0 p e FE below Q T g := q ▸ k
theorem OFin.run (f : ∀ t, Steps p.tables e below (T'.setTop g') t → Steps p.tables e below (T.setTop g) t) (k : OFin n0 p e FE below Q T' g') : OFin n0 p e FE below Q T g := by
  obtain ⟨s₂, o, h1, h2⟩ := k; exact ⟨s₂, o, f _ h1, h2⟩
theorem OFin.imp {Q' : Option Value → Heap → Prop} (k : OFin n0 p e FE below Q' T g) (f : ∀ v h, Q' v h → Q v h) : OFin n0 p e FE below Q T g := by
  obtain ⟨s₂, o, h1, h2, h3, v, L, h4, h5, h6⟩ := k; exact ⟨s₂, o, h1, h2, h3, v, L, h4, ⟨f _ _ h5.1, h5.2⟩, h6⟩
/-- a step of the single-step laws -/
theorem OAt.step (X : OAt n0 Z y bytes maxL ret p l e R s m args below meth c T h cells slots) (f : At T m c below → p.tables.exec = Jvm.exec → c.code = bytes → ∀ t, Steps p.tables e below (T.setTop g') t → Steps p.tables e below (T.setTop g) t) (k : OFin n0 p e FE below Q T g') : OFin n0 p e FE below Q T g := by
  obtain ⟨⟨hx, -, -, -, hby, -⟩, locs, X, -⟩ := X
  exact OFin.run (f X.here hx hby) k
theorem OAt.retN (X : OAt n0 Z y bytes maxL (some t) p l e R s m args below meth c T h cells slots) (ht : t = .boolean ∨ t = .byte ∨ t = .char ∨ t = .short) {pc : Nat} {Ls : Array Slot} {z : Int32} {rest : List Value} (hd : decode bytes pc = .ok (.ireturn, 1)) (hE : ∀ (t : State) (v : Option Value) (L : List Loc), t.heap = h → t.vm = T.vm → FrameEnd s (.returned v) t L cells slots → FE (.returned v) t L) (hQ : Q (some (.int (nar t z))) h) : OFin n0 p e FE below Q T (mkF m pc Ls (.int z :: rest)) := by
  obtain ⟨⟨hx, -, -, -, hby, -, hret, hlk⟩, locs, X, N, eh⟩ := X
  obtain ⟨fs, hr, hrun, hended, hW, hsame⟩ := X.leave (v := some (.int (nar t z))) (fun h => by rw [hret] at h; cases h) hlk
  exact ⟨_, _, Jvm.RoadKit.retN X hx hret ht (hb hby hd) hr, hrun, hended, _, _, rfl, ⟨by show Q _ T.heap; rw [eh]; exact hQ, N⟩, hE _ _ _ eh rfl ⟨⟨_, rfl⟩, hW, hsame⟩⟩
theorem OAt.retI (X : OAt n0 Z y bytes maxL (some .int) p l e R s m args below meth c T h cells slots) {pc : Nat} {Ls : Array Slot} {z : Int32} {rest : List Value} (hd : decode bytes pc = .ok (.ireturn, 1)) (hE : ∀ (t : State) (v : Option Value) (L : List Loc), t.heap = h → t.vm = T.vm → FrameEnd s (.returned v) t L cells slots → FE (.returned v) t L) (hQ : Q (some (.int z)) h) : OFin n0 p e FE below Q T (mkF m pc Ls (.int z :: rest)) := by
  obtain ⟨⟨hx, -, -, -, hby, -, hret, hlk⟩, locs, X, N, eh⟩ := X
  obtain ⟨fs, hr, hrun, hended, hW, hsame⟩ := X.leave (v := some (.int z)) (fun h => by rw [hret] at h; cases h) hlk
  exact ⟨_, _, retOut X hx hret rfl (Or.inl ⟨rfl, Or.inl rfl, _, rfl⟩) (hb hby hd) hr, hrun, hended, _, _, rfl, ⟨by show Q _ T.heap; rw [eh]; exact hQ, N⟩, hE _ _ _ eh rfl ⟨⟨_, rfl⟩, hW, hsame⟩⟩
theorem OAt.retL (X : OAt n0 Z y bytes maxL (some .long) p l e R s m args below meth c T h cells slots) {pc : Nat} {Ls : Array Slot} {z : Int64} {rest : List Value} (hd : decode bytes pc = .ok (.lreturn, 1)) (hE : ∀ (t : State) (v : Option Value) (L : List Loc), t.heap = h → t.vm = T.vm → FrameEnd s (.returned v) t L cells slots → FE (.returned v) t L) (hQ : Q (some (.long z)) h) : OFin n0 p e FE below Q T (mkF m pc Ls (.long z :: rest)) := by
  obtain ⟨⟨hx, -, -, -, hby, -, hret, hlk⟩, locs, X, N, eh⟩ := X
  obtain ⟨fs, hr, hrun, hended, hW, hsame⟩ := X.leave (v := some (.long z)) (fun h => by rw [hret] at h; cases h) hlk
  exact ⟨_, _, retOut X hx hret rfl (Or.inr (Or.inl ⟨rfl, rfl, _, rfl⟩)) (hb hby hd) hr, hrun, hended, _, _, rfl, ⟨by show Q _ T.heap; rw [eh]; exact hQ, N⟩, hE _ _ _ eh rfl ⟨⟨_, rfl⟩, hW, hsame⟩⟩
theorem OAt.retR (X : OAt n0 Z y bytes maxL (some t) p l e R s m args below meth c T h cells slots) (ht : t.isReference = true) {pc : Nat} {Ls : Array Slot} {w : Value} {rest : List Value} (hw : w.isRef = true) (hd : decode bytes pc = .ok (.areturn, 1)) (hE : ∀ (t : State) (v : Option Value) (L : List Loc), t.heap = h → t.vm = T.vm → FrameEnd s (.returned v) t L cells slots → FE (.returned v) t L) (hQ : Q (some w) h) : OFin n0 p e FE below Q T (mkF m pc Ls (w :: rest)) := by
  obtain ⟨⟨hx, -, -, -, hby, -, hret, hlk⟩, locs, X, N, eh⟩ := X
  have hna : narrow t w = w := by rcases ref_cases hw with rfl | ⟨a, rfl⟩ <;> cases t <;> first | rfl | cases ht
  obtain ⟨fs, hr, hrun, hended, hW, hsame⟩ := X.leave (v := some w) (fun h => by rw [hret] at h; cases h) hlk
  exact ⟨_, _, retOut X hx hret hna (Or.inr (Or.inr (Or.inr (Or.inr ⟨rfl, ht, hw⟩)))) (hb hby hd) hr, hrun, hended, _, _, rfl, ⟨by show Q _ T.heap; rw [eh]; exact hQ, N⟩, hE _ _ _ eh rfl ⟨⟨_, rfl⟩, hW, hsame⟩⟩
theorem OAt.retV (X : OAt n0 Z y bytes maxL none p l e R s m args below meth c T h cells slots) {pc : Nat} {Ls : Array Slot} (hd : decode bytes pc = .ok (.return_, 1)) (hE : ∀ (t : State) (v : Option Value) (L : List Loc), t.heap = h → t.vm = T.vm → FrameEnd s (.returned v) t L cells slots → FE (.returned v) t L) (hQ : Q none h) : OFin n0 p e FE below Q T (mkF m pc Ls []) := by
  obtain ⟨⟨hx, -, -, -, hby, -, hret, hlk⟩, locs, X, N, eh⟩ := X
  obtain ⟨fs, hr, hrun, hended, hW, hsame⟩ := X.leave (v := none) (fun _ => rfl) hlk
  exact ⟨_, _, X.returnOut hx hret (hb hby hd) hr, hrun, hended, _, _, rfl, ⟨by show Q _ T.heap; rw [eh]; exact hQ, N⟩, hE _ _ _ eh rfl ⟨⟨_, rfl⟩, hW, hsame⟩⟩
theorem OAt.ldcI (X : OAt n0 Z y bytes maxL ret p l e R s m args below meth c T h cells slots) {index : Nat} {v : Int32} (w : (Jvm.Cond.constant y.cls index v).before a0 Z = true) (hg : g.method = m) (hd : decode bytes g.pc = .ok (.ldc index, 2))
    (k : OFin n0 p e FE below Q T { g with pc := g.pc + 2, stack := .int v :: g.stack }) : OFin n0 p e FE below Q T g := by
  obtain ⟨⟨hx, hZ, hown, -, hby, -⟩, locs, X, -⟩ := X
  exact OFin.run (X.ldcInt hx hown (mvT hZ w) hg (hb hby hd)) k
theorem OAt.ldcwI (X : OAt n0 Z y bytes maxL ret p l e R s m args below meth c T h cells slots) {index : Nat} {v : Int32} (w : (Jvm.Cond.constant y.cls index v).before a0 Z = true) (hg : g.method = m) (hd : decode bytes g.pc = .ok (.ldc_w index, 3))
    (k : OFin n0 p e FE below Q T { g with pc := g.pc + 3, stack := .int v :: g.stack }) : OFin n0 p e FE below Q T g := by
  obtain ⟨⟨hx, hZ, hown, -, hby, -⟩, locs, X, -⟩ := X
  exact OFin.run (X.ldcwInt hx hown (mvT hZ w) hg (hb hby hd)) k
theorem OAt.ldcL (X : OAt n0 Z y bytes maxL ret p l e R s m args below meth c T h cells slots) {index : Nat} {v : Int64} (w : (Jvm.Cond.constantLong y.cls index v).before a0 Z = true) (hg : g.method = m) (hd : decode bytes g.pc = .ok (.ldc2_w index, 3))
    (k : OFin n0 p e FE below Q T { g with pc := g.pc + 3, stack := .long v :: g.stack }) : OFin n0 p e FE below Q T g := by
  obtain ⟨⟨hx, hZ, hown, -, hby, -⟩, locs, X, -⟩ := X
  exact OFin.run (X.ldc2Long hx hown (mvT hZ w) hg (hb hby hd)) k
theorem OAt.getF (X : OAt n0 Z y bytes maxL ret p l e R s m args below meth c T h cells slots) {O n d : String} {index : Nat} (w : (Jvm.Cond.fieldLink y.cls index O n d).before a0 Z = true) {a : Addr} {v : Value} (F : Fld Z h a O n d v) (hg : g.method = m) {rest : List Value} (hs : g.stack = .ref a :: rest) (hd : decode bytes g.pc = .ok (.getfield index, 3))
    (k : ∀ T', OAt n0 Z y bytes maxL ret p l e R s m args below meth c T' h cells slots → OFin n0 p e FE below Q T' { g with pc := g.pc + 3, stack := v :: rest }) : OFin n0 p e FE below Q T g := by
  obtain ⟨C, locs, X, N, eh⟩ := X
  obtain ⟨hx, hZ, hown, -, hby, -⟩ := id C
  obtain ⟨T', X', e', st⟩ := Jvm.RoadKit.getF X hx hZ hown (host := "") (Or.inl w) Via.refl eh F hg hs (hb hby hd)
  exact OFin.run st (k T' ⟨C, locs, X', N, e'⟩)
theorem OAt.getS (X : OAt n0 Z y bytes maxL ret p l e R s m args below meth c T h cells slots) {O n d : String} {index : Nat} (w : (Jvm.Cond.fieldLink y.cls index O n d).before a0 Z = true) {v : Value} (F : Sta Z h O n d v) (hg : g.method = m) (hd : decode bytes g.pc = .ok (.getstatic index, 3))
    (k : ∀ T', OAt n0 Z y bytes maxL ret p l e R s m args below meth c T' h cells slots → OFin n0 p e FE below Q T' { g with pc := g.pc + 3, stack := v :: g.stack }) : OFin n0 p e FE below Q T g := by
  obtain ⟨C, locs, X, N, eh⟩ := X
  obtain ⟨hx, hZ, hown, -, hby, -⟩ := id C
  obtain ⟨T', X', e', st⟩ := Jvm.RoadKit.getS X hx hZ hown w Via.refl eh F hg (hb hby hd) (host := "")
  exact OFin.run st (k T' ⟨C, locs, X', N, e'⟩)
theorem OAt.putF (X : OAt n0 Z y bytes maxL ret p l e R s m args below meth c T h cells slots) {O n d C : String} {index ki : Nat} {ty : FieldType} (w : (Jvm.Cond.fieldLink y.cls index O n d).before a0 Z = true) {a : Addr} {v old : Value} (F : Fld Z h a O n d old) (E : Exa Z h a C) (L : (Jvm.Cond.lays C O n d).before a0 Z = true ∨ ((Jvm.Cond.laysFinal C O n d).before a0 Z = true ∧ y.cls = O ∧ y.name = "<init>"))
    (wi : (Jvm.Cond.instantiable C ki).before a0 Z = true) (hty : parseFieldDescriptor d = some ty) (hn : narrow ty v = v) (hf : fits ty v = true) (hnew : n0 ≤ a) (hg : g.method = m) {rest : List Value} (hs : g.stack = v :: .ref a :: rest) (hd : decode bytes g.pc = .ok (.putfield index, 3))
    (k : ∀ T' h', OAt n0 Z y bytes maxL ret p l e R s m args below meth c T' h' cells slots → Wr h h' a (Jvm.RoadKit.slotOf Z O n d) v → OFin n0 p e FE below Q T' { g with pc := g.pc + 3, stack := rest }) : OFin n0 p e FE below Q T g := by
  obtain ⟨C, locs, X, N, eh⟩ := X
  obtain ⟨hx, hZ, hown, hnm, hby, -⟩ := id C
  obtain ⟨T', h', X', e', W, st⟩ := Jvm.RoadKit.putF X hx hZ hown (host := "") (Or.inl w) Via.refl eh F E (L.imp id fun q => ⟨q.1, q.2.1, hnm.trans q.2.2⟩) wi hty hn hf hg hs (hb hby hd)
  exact OFin.run st (k T' h' ⟨C, _, X', Fr.snoc X' N hnew, e'⟩ W)
theorem OAt.initO (X : OAt n0 Z y bytes maxL ret p l e R s m args below meth c T h cells slots) {idx : Nat} (w1 : (Jvm.Cond.methodLink y.cls idx Lib.objectInit).before a0 Z = true) (w2 : (Jvm.Cond.instanceMethod Lib.objectInit).before a0 Z = true) (w3 : (Jvm.Cond.code Lib.objectInit ⟨#[0xb1]⟩ 1 none).before a0 Z = true) (hg : g.method = m) (hsize : g.locals.size = maxL) {a : Addr} {rest : List Value} (hs : g.stack = .ref a :: rest) (hd : decode bytes g.pc = .ok (.invokespecial idx, 3))
    (hf : 1 ≤ R.frames) {W : Nat} (hW : 2 * g.monitorRoom + (rest.map fun v => v.category).sum ≤ W) (hl : W + 12 ≤ R.locals)
    (k : ∀ T', OAt n0 Z y bytes maxL ret p l e R s m args below meth c T' h cells slots → OFin n0 p e FE below Q T' { g with pc := g.pc + 3, stack := rest }) : OFin n0 p e FE below Q T g := by
  obtain ⟨C, locs, X, N, eh⟩ := X
  obtain ⟨hx, hZ, hown, -, hby, hml, -⟩ := id C
  obtain ⟨T', X', e', st⟩ := Jvm.RoadKit.initO X hx hZ hown w1 w2 w3 eh hg (hsize.trans hml.symm) hs (hb hby hd) hf hW hl
  exact OFin.run st (k T' ⟨C, locs, X', N, e'⟩)
theorem OAt.newO (X : OAt n0 Z y bytes maxL ret p l e R s m args below meth c T h cells slots) {C : String} {index n : Nat} (w : (Jvm.Cond.classLink y.cls index C).before a0 Z = true) (wi : (Jvm.Cond.instantiable C n).before a0 Z = true) (wz : (Jvm.Cond.initialized C).before a0 Z = true) (hg : g.method = m) (hd : decode bytes g.pc = .ok (.new index, 3)) (hc : cells + 1 ≤ R.cells) (hl : slots + n ≤ R.slots)
    (k : ∀ T' h' a, a = h.size → OAt n0 Z y bytes maxL ret p l e R s m args below meth c T' h' (cells + 1) (slots + n) → Ext h h' → Exa Z h' a C → (∀ {O nm d : String} {ty : FieldType}, Laid Z a0 C O nm d → parseFieldDescriptor d = some ty → Fld Z h' a O nm d (defaultValue ty)) → OFin n0 p e FE below Q T' { g with pc := g.pc + 3, stack := .ref a :: g.stack }) : OFin n0 p e FE below Q T g := by
  obtain ⟨C', locs, X, N, eh⟩ := X
  obtain ⟨hx, hZ, hown, -, hby, -⟩ := id C'
  obtain ⟨T', h', X', e', E, A, D, -, st⟩ := Jvm.RoadKit.newO X hx hZ hown w wi wz eh hg (hb hby hd) hc hl
  exact OFin.run st (k T' h' _ rfl ⟨C', locs, X', N, e'⟩ E A D)
theorem OAt.newP (X : OAt n0 Z y bytes maxL ret p l e R s m args below meth c T h cells slots) {aty : ArrayType} (w : (Jvm.Cond.arrayClass (newarray.typeOf aty)).before a0 Z = true) (hg : g.method = m) (hd : decode bytes g.pc = .ok (.newarray aty, 2)) {n : Int32} {rest : List Value} (hs : g.stack = .int n :: rest) (hn : ¬ n < 0) {cap : Nat} (hcap : n.toNatClampNeg ≤ cap) (hb8 : cap * 8 ≤ 536870912) (hc : cells + 1 ≤ R.cells) (hl : slots + cap ≤ R.slots) {ad : String} (had : "[" ++ (newarray.typeOf aty).toString = ad)
    (k : ∀ T' h' cA a, a = h.size → OAt n0 Z y bytes maxL ret p l e R s m args below meth c T' h' (cells + 1) (slots + cap) → Ext h h' → Arr Z h' a (newA cA (newarray.typeOf aty) n) (newarray.typeOf aty) → Exa Z h' a ad → OFin n0 p e FE below Q T' { g with pc := g.pc + 2, stack := .ref a :: rest }) : OFin n0 p e FE below Q T g := by
  obtain ⟨C', locs, X, N, eh⟩ := X
  obtain ⟨hx, hZ, hown, -, hby, -⟩ := id C'
  obtain ⟨T', h', cA, X', e', E, A, A', st⟩ := newPE X hx hZ w eh hg (hb hby hd) hs hn hcap hb8 hc hl had
  exact OFin.run st (k T' h' cA _ rfl ⟨C', locs, X', N, e'⟩ E A A')
theorem OAt.newRA (X : OAt n0 Z y bytes maxL ret p l e R s m args below meth c T h cells slots) {C : String} {ty : FieldType} {index : Nat} (hC : (FieldType.array ty).toString = C) (w1 : (Jvm.Cond.classLink y.cls index C).before a0 Z = true) (w2 : (Jvm.Cond.arrayOver (.array ty)).before a0 Z = true) (hg : g.method = m) (hd : decode bytes g.pc = .ok (.anewarray index, 3)) {n : Int32} {rest : List Value} (hs : g.stack = .int n :: rest) (hn : ¬ n < 0) {cap : Nat} (hcap : n.toNatClampNeg ≤ cap) (hb8 : cap * 8 ≤ 536870912) (hc : cells + 1 ≤ R.cells) (hl : slots + cap ≤ R.slots) {ad : String} (had : "[" ++ C = ad)
    (k : ∀ T' h' cA a, a = h.size → OAt n0 Z y bytes maxL ret p l e R s m args below meth c T' h' (cells + 1) (slots + cap) → Ext h h' → Arr Z h' a (newA cA (.array ty) n) (.array ty) → Exa Z h' a ad → OvrA Z cA ty C → OFin n0 p e FE below Q T' { g with pc := g.pc + 3, stack := .ref a :: rest }) : OFin n0 p e FE below Q T g := by
  obtain ⟨C', locs, X, N, eh⟩ := X
  obtain ⟨hx, hZ, hown, -, hby, -⟩ := id C'
  obtain ⟨T', h', cA, X', e', E, A, A', O, st⟩ := Jvm.RoadKit.newRA X hx hZ hown hC w1 w2 eh hg (hb hby hd) hs hn hcap hb8 hc hl had
  exact OFin.run st (k T' h' cA _ rfl ⟨C', locs, X', N, e'⟩ E A A' O)
theorem OAt.clone (X : OAt n0 Z y bytes maxL ret p l e R s m args below meth c T h cells slots) {ad : String} {index : Nat} (w1 : (Jvm.Cond.methodLink y.cls index ⟨ad, "clone", "()Ljava/lang/Object;"⟩).before a0 Z = true) (w2 : (Jvm.Cond.sameMethod ad "java/lang/Object" "clone" "()Ljava/lang/Object;").before a0 Z = true) (w3 : (Jvm.Cond.native ⟨"java/lang/Object", "clone", "()Ljava/lang/Object;"⟩).before a0 Z = true)
    (w4 : (Jvm.Cond.instanceMethod ⟨"java/lang/Object", "clone", "()Ljava/lang/Object;"⟩).before a0 Z = true) (w5 : (Jvm.Cond.selects ad ⟨ad, "clone", "()Ljava/lang/Object;"⟩ ⟨"java/lang/Object", "clone", "()Ljava/lang/Object;"⟩).before a0 Z = true) (w6 : (Jvm.Cond.castable ad "java/lang/Cloneable").before a0 Z = true)
    {a : Addr} {cl : Cell} {ty : FieldType} (A : Arr Z h a cl ty) (E : Exa Z h a ad) (F : FitC Z cl) (hg : g.method = m) (hsize : g.locals.size = maxL) {rest : List Value} (hs : g.stack = .ref a :: rest) (hd : decode bytes g.pc = .ok (.invokevirtual index, 3))
    (hf : 1 ≤ R.frames) {W cap : Nat} (hW : 2 * g.monitorRoom + (rest.map fun v => v.category).sum ≤ W) (hl : W + 14 ≤ R.locals) (hcap : cl.slots.size ≤ cap) (hc : cells + 1 ≤ R.cells) (hsl : slots + cap ≤ R.slots)
    (k : ∀ T' h' b, b = h.size → OAt n0 Z y bytes maxL ret p l e R s m args below meth c T' h' (cells + 1) (slots + cap) → Ext h h' → Arr Z h' b (Jvm.RoadKit.cloneOf cl) ty → Exa Z h' b ad → OFin n0 p e FE below Q T' { g with pc := g.pc + 3, stack := .ref b :: rest }) : OFin n0 p e FE below Q T g := by
  obtain ⟨C', locs, X, N, eh⟩ := X
  obtain ⟨hx, hZ, hown, -, hby, hml, -⟩ := id C'
  obtain ⟨T', h', X', e', E', A', A'', st⟩ := Jvm.RoadKit.cloneA X hx hZ hown w1 w2 w3 w4 w5 w6 eh A E F hg (hsize.trans hml.symm) hs (hb hby hd) hf hW hl hcap hc hsl
  exact OFin.run st (k T' h' _ rfl ⟨C', locs, X', N, e'⟩ E' A' A'')
theorem OAt.stR (X : OAt n0 Z y bytes maxL ret p l e R s m args below meth c T h cells slots) {a : Addr} {cl : Cell} {ty : FieldType} (A : Arr Z h a cl ty) {j : Int32} {v : Value} (hin : ¬ (j < 0 ∨ cl.slots.size ≤ j.toNatClampNeg)) (hty : ty.isReference = true) (F : Sto Z h a v) (hnew : n0 ≤ a) (hg : g.method = m) {rest : List Value} (hs : g.stack = v :: .int j :: .ref a :: rest) (hd : decode bytes g.pc = .ok (.aastore, 1))
    (k : ∀ T' h', OAt n0 Z y bytes maxL ret p l e R s m args below meth c T' h' cells slots → Wr h h' a j.toNatClampNeg v → OFin n0 p e FE below Q T' { g with pc := g.pc + 1, stack := rest }) : OFin n0 p e FE below Q T g := by
  obtain ⟨C, locs, X, N, eh⟩ := X
  obtain ⟨hx, hZ, hown, -, hby, -⟩ := id C
  obtain ⟨T', h', X', e', W, st⟩ := Jvm.RoadKit.stR X hx hZ eh A hin hty F hg hs (hb hby hd)
  exact OFin.run st (k T' h' ⟨C, _, X', Fr.snoc X' N hnew, e'⟩ W)
theorem OAt.acmp (X : OAt n0 Z y bytes maxL ret p l e R s m args below meth c T h cells slots) (hg : g.method = m) {cd : ACond} {u v : Value} (h1 : u.isRef = true) (h2 : v.isRef = true) {rest : List Value} {o : Int} {pc0 pc' : Nat} {same : Bool} (hpc : g.pc = pc0) (hd : decode bytes g.pc = .ok (.if_acmp cd o, 3)) (hs : g.stack = v :: u :: rest) (hq : decide (u = v) = same) (ho : 0 ≤ (pc0 : Int) + o) (hp : pc' = if acV cd same = true then ((pc0 : Int) + o).toNat else pc0 + 3)
    (k : OFin n0 p e FE below Q T { g with pc := pc', stack := rest }) : OFin n0 p e FE below Q T g := by
  obtain ⟨⟨hx, hZ, hown, -, hby, -⟩, locs, X, -⟩ := X
  exact OFin.run (fun t kk => Jvm.RoadKit.acmp X hx hg h1 h2 hpc (hb hby hd) hs hq ho hp kk) k
theorem OAt.irem (X : OAt n0 Z y bytes maxL ret p l e R s m args below meth c T h cells slots) (hg : g.method = m) {u v : Int32} {rest : List Value} (hd : decode bytes g.pc = .ok (.irem, 1)) (hs : g.stack = .int v :: .int u :: rest) (hv : v ≠ 0)
    (k : OFin n0 p e FE below Q T { g with pc := g.pc + 1, stack := .int (u % v) :: rest }) : OFin n0 p e FE below Q T g := by
  obtain ⟨⟨hx, hZ, hown, -, hby, -⟩, locs, X, -⟩ := X
  exact OFin.run (fun t kk => iremM X hx hg (hb hby hd) hs hv kk) k
theorem OAt.callS (X : OAt n0 Z y bytes maxL ret p l e R s m args below meth c T h cells slots) {index : Nat} {y' : MethodName} {bytes' : ByteArray} {maxL' : Nat} {ret' : Option FieldType} (w1 : (Jvm.Cond.methodLink y.cls index y').before a0 Z = true) (w2 : (Jvm.Cond.static y').before a0 Z = true) (w3 : (Jvm.Cond.initialized y'.cls).before a0 Z = true) (w4 : (Jvm.Cond.code y' bytes' maxL' ret').before a0 Z = true)
    (hy : y'.cls ≠ "java/lang/invoke/MethodHandle" ∧ y'.cls ≠ "java/lang/invoke/VarHandle") {rm : Room} {Qc : Option Value → Heap → Prop} {argsL rest : List Value} (hM : OMeets l Z y' [] bytes' maxL' ret' rm argsL.toArray h n0 Qc)
    (hg : g.method = m) (hsize : g.locals.size = maxL) {ps : List FieldType} {r : Option FieldType} (hpd : parseMethodDescriptor y'.desc = some ⟨ps, r⟩) (hlen : argsL.length = ps.length) (hs : g.stack = argsL.reverse ++ rest) {W : Nat} (hW : 2 * g.monitorRoom + (rest.map fun v => v.category).sum ≤ W) (hd : decode bytes g.pc = .ok (.invokestatic index, 3))
    (hf : rm.frames + 1 ≤ R.frames) (hl : W + (maxL' + 11) + rm.locals ≤ R.locals) (hc : cells + rm.cells ≤ R.cells) (hn : slots + rm.slots ≤ R.slots)
    (k : ∀ v T' h', OAt n0 Z y bytes maxL ret p l e R s m args below meth c T' h' (cells + rm.cells) (slots + rm.slots) → Qc v h' → OFin n0 p e FE below Q T' { g with pc := g.pc + 3, stack := v.toList ++ rest }) : OFin n0 p e FE below Q T g := by
  obtain ⟨C, locs, X, N, eh⟩ := X
  obtain ⟨hx, hZ, hown, -, hby, hml, -⟩ := id C
  obtain ⟨v, _, ⟨T1, L1, k1, n1⟩, -, X1, ⟨Lc, hQ, l1, y1, z1⟩, st⟩ := Jvm.LawKit.callS X hx hown (mvT hZ w1) (mvT hZ w2) (mvT hZ w3) (mvT hZ w4) hy
    (backOf (W := W) (Q := fun v h L => Qc v h ∧ Fr n0 L) hM hZ w4 w3 hf hl) hg (hsize.trans hml.symm) (lenOf hpd hlen) hs hW (hb hby hd) (fun _ _ => ⟨rfl, eh, hc, hn⟩)
  dsimp only [Pt.U, Pt.locs, Pt.cells, Pt.slots] at X1 l1 y1 z1 st hQ
  subst l1 y1 z1
  exact OFin.run st (k v T1 _ ⟨C, _, X1, N.app hQ.2, rfl⟩ hQ.1)
theorem OAt.callI (X : OAt n0 Z y bytes maxL ret p l e R s m args below meth c T h cells slots) {index : Nat} {y' : MethodName} {bytes' : ByteArray} {maxL' : Nat} (hy1 : y'.name = "<init>") (w1 : (Jvm.Cond.methodLink y.cls index y').before a0 Z = true) (w2 : (Jvm.Cond.instanceMethod y').before a0 Z = true) (w3 : (Jvm.Cond.initialized y'.cls).before a0 Z = true) (w4 : (Jvm.Cond.code y' bytes' maxL' none).before a0 Z = true)
    (hy : y'.cls ≠ "java/lang/invoke/MethodHandle" ∧ y'.cls ≠ "java/lang/invoke/VarHandle") {rm : Room} {Qc : Option Value → Heap → Prop} {a : Addr} {argsL rest : List Value} (hM : OMeets l Z y' [] bytes' maxL' none rm (Value.ref a :: argsL).toArray h n0 Qc)
    (hg : g.method = m) (hsize : g.locals.size = maxL) {ps : List FieldType} {r : Option FieldType} (hpd : parseMethodDescriptor y'.desc = some ⟨ps, r⟩) (hlen : argsL.length = ps.length) (hs : g.stack = argsL.reverse ++ .ref a :: rest) {W : Nat} (hW : 2 * g.monitorRoom + (rest.map fun v => v.category).sum ≤ W) (hd : decode bytes g.pc = .ok (.invokespecial index, 3))
    (hf : rm.frames + 1 ≤ R.frames) (hl : W + (maxL' + 11) + rm.locals ≤ R.locals) (hc : cells + rm.cells ≤ R.cells) (hn : slots + rm.slots ≤ R.slots)
    (k : ∀ v T' h', OAt n0 Z y bytes maxL ret p l e R s m args below meth c T' h' (cells + rm.cells) (slots + rm.slots) → Qc v h' → OFin n0 p e FE below Q T' { g with pc := g.pc + 3, stack := v.toList ++ rest }) : OFin n0 p e FE below Q T g := by
  obtain ⟨C, locs, X, N, eh⟩ := X
  obtain ⟨hx, hZ, hown, -, hby, hml, -⟩ := id C
  obtain ⟨v, _, ⟨T1, L1, k1, n1⟩, -, X1, ⟨Lc, hQ, l1, y1, z1⟩, st⟩ := X.specialBack hx hy1 hown (mvT hZ w1) (mvT hZ w2) (mvT hZ w4) hy
    (backOf (W := W) (Q := fun v h L => Qc v h ∧ Fr n0 L) hM hZ w4 w3 hf hl) hg (hsize.trans hml.symm) (Steps.refl _) (lenOf hpd hlen) hs hW (hb hby hd) (fun _ _ => ⟨rfl, eh, hc, hn⟩)
  dsimp only [Pt.U, Pt.locs, Pt.cells, Pt.slots] at X1 l1 y1 z1 st hQ
  subst l1 y1 z1
  exact OFin.run (fun t k => st.trans k) (k v T1 _ ⟨C, _, X1, N.app hQ.2, rfl⟩ hQ.1)
theorem OAt.callV (X : OAt n0 Z y bytes maxL ret p l e R s m args below meth c T h cells slots) {index : Nat} {y' z' : MethodName} {C0 : String} {bytes' : ByteArray} {maxL' : Nat} {ret' : Option FieldType} (w1 : (Jvm.Cond.methodLink y.cls index y').before a0 Z = true) (w2 : (Jvm.Cond.declares y').before a0 Z = true) (nf : NotFace s y') (w5 : (Jvm.Cond.selects C0 y' z').before a0 Z = true) (w6 : (Jvm.Cond.instanceMethod z').before a0 Z = true) (w3 : (Jvm.Cond.initialized z'.cls).before a0 Z = true) (w4 : (Jvm.Cond.code z' bytes' maxL' ret').before a0 Z = true)
    (hy : y'.cls ≠ "java/lang/invoke/MethodHandle" ∧ y'.cls ≠ "java/lang/invoke/VarHandle") {rm : Room} {Qc : Option Value → Heap → Prop} {a : Addr} (E : Exa Z h a C0) {argsL rest : List Value} (hM : OMeets l Z z' [] bytes' maxL' ret' rm (Value.ref a :: argsL).toArray h n0 Qc)
    (hg : g.method = m) (hsize : g.locals.size = maxL) {ps : List FieldType} {r : Option FieldType} (hpd : parseMethodDescriptor y'.desc = some ⟨ps, r⟩) (hlen : argsL.length = ps.length) (hs : g.stack = argsL.reverse ++ .ref a :: rest) {W : Nat} (hW : 2 * g.monitorRoom + (rest.map fun v => v.category).sum ≤ W) (hd : decode bytes g.pc = .ok (.invokevirtual index, 3))
    (hf : rm.frames + 1 ≤ R.frames) (hl : W + (maxL' + 11) + rm.locals ≤ R.locals) (hc : cells + rm.cells ≤ R.cells) (hn : slots + rm.slots ≤ R.slots)
    (k : ∀ v T' h', OAt n0 Z y bytes maxL ret p l e R s m args below meth c T' h' (cells + rm.cells) (slots + rm.slots) → Qc v h' → OFin n0 p e FE below Q T' { g with pc := g.pc + 3, stack := v.toList ++ rest }) : OFin n0 p e FE below Q T g := by
  obtain ⟨C, locs, X, N, eh⟩ := X
  obtain ⟨hx, hZ, hown, -, hby, hml, -⟩ := id C
  obtain ⟨cq, kq, qa, qb, qc⟩ := isOf hZ eh E
  obtain ⟨v, _, ⟨T1, L1, k1, n1⟩, -, X1, ⟨Lc, hQ, l1, y1, z1⟩, st⟩ := X.virtualBack hx hown (mvT hZ w1) (mvT hZ w2) nf (mvT hZ w5) (mvT hZ w6) hy
    (backOf (W := W) (Q := fun v h L => Qc v h ∧ Fr n0 L) hM hZ w4 w3 hf hl) qa qc hg (hsize.trans hml.symm) (Steps.refl _) (lenOf hpd hlen) hs hW (hb hby hd) (fun _ _ => ⟨rfl, eh, hc, hn⟩)
  dsimp only [Pt.U, Pt.locs, Pt.cells, Pt.slots] at X1 l1 y1 z1 st hQ
  subst l1 y1 z1
  exact OFin.run (fun t k => st.trans k) (k v T1 _ ⟨C, _, X1, N.app hQ.2, rfl⟩ hQ.1)
theorem OAt.notFace (X : OAt n0 Z y bytes maxL ret p l e R s m args below meth c T h cells slots) {C0 : String} {y' z' : MethodName} (w : (Jvm.Cond.selects C0 y' z').before a0 Z = true) (hq : y' = z') : NotFace s y' := by
  obtain ⟨⟨hx, hZ, -⟩, -⟩ := X
  subst hq
  exact notFace_of_selects (args := #[]) (mvT hZ w)
theorem OAt.aload0 (X : OAt n0 Z y bytes maxL ret p l e R s m args below meth c T h cells slots) {a : Addr} {cl : Cell} {ty : FieldType} (A : Arr Z h a cl ty) {j : Int32} {v : Value} (hin : ¬ (j < 0 ∨ cl.slots.size ≤ j.toNatClampNeg)) (hv : cl.slots[j.toNatClampNeg]? = some v) (hg : g.method = m) {rest : List Value} (hs : g.stack = .int j :: .ref a :: rest)
    {i : Instr} (hi : (i = .iaload ∧ ty = .int) ∨ (i = .laload ∧ ty = .long) ∨ (i = .caload ∧ ty = .char) ∨ (i = .baload ∧ ty = .byte) ∨ (i = .aaload ∧ ty.isReference = true)) (hd : decode bytes g.pc = .ok (i, 1))
    (k : OFin n0 p e FE below Q T { g with pc := g.pc + 1, stack := v :: rest }) : OFin n0 p e FE below Q T g := by
  obtain ⟨⟨hx, hZ, hown, -, hby, -⟩, locs, X, N, eh⟩ := X
  have hA := State.isArrayOf_alike hZ.alike A.2.1
  have hc : T.heap[a]? = some cl := by rw [eh]; exact A.1
  rcases hi with ⟨rfl, rfl⟩ | ⟨rfl, rfl⟩ | ⟨rfl, rfl⟩ | ⟨rfl, rfl⟩ | ⟨rfl, ht⟩
  · exact OFin.run (X.iaload hx hc hA A.2.2 hin hv hg hs (hb hby hd)) k
  · exact OFin.run (X.laload hx hc hA A.2.2 hin hv hg hs (hb hby hd)) k
  · exact OFin.run (X.caload hx hc hA A.2.2 hin hv hg hs (hb hby hd)) k
  · exact OFin.run (X.baloadBytes hx hc hA A.2.2 hin hv hg hs (hb hby hd)) k
  · exact OFin.run (X.aaload hx hc hA ht A.2.2 hin hv hg hs (hb hby hd)) k
theorem OAt.alen (X : OAt n0 Z y bytes maxL ret p l e R s m args below meth c T h cells slots) {a : Addr} {cl : Cell} {ty : FieldType} (A : Arr Z h a cl ty) {n : Int32} (hn : cl.slots.size.toInt32 = n) (hg : g.method = m) {rest : List Value} (hs : g.stack = .ref a :: rest) (hd : decode bytes g.pc = .ok (.arraylength, 1))
    (k : OFin n0 p e FE below Q T { g with pc := g.pc + 1, stack := .int n :: rest }) : OFin n0 p e FE below Q T g := by
  obtain ⟨⟨hx, hZ, hown, -, hby, -⟩, locs, X, N, eh⟩ := X
  subst hn
  exact OFin.run (X.arraylength hx (by rw [eh]; exact A.1) (State.isArrayOf_alike hZ.alike A.2.1) hg hs (hb hby hd)) k
theorem OAt.stJ (X : OAt n0 Z y bytes maxL ret p l e R s m args below meth c T h cells slots) {a : Addr} {cl : Cell} (A : Arr Z h a cl .long) {j : Int32} {v : Int64} (hin : ¬ (j < 0 ∨ cl.slots.size ≤ j.toNatClampNeg)) (hnew : n0 ≤ a) (hg : g.method = m) {rest : List Value} (hs : g.stack = .long v :: .int j :: .ref a :: rest) (hd : decode bytes g.pc = .ok (.lastore, 1))
    (k : ∀ T' h', OAt n0 Z y bytes maxL ret p l e R s m args below meth c T' h' cells slots → Wr h h' a j.toNatClampNeg (.long v) → OFin n0 p e FE below Q T' { g with pc := g.pc + 1, stack := rest }) : OFin n0 p e FE below Q T g := by
  obtain ⟨C, locs, X, N, eh⟩ := X
  obtain ⟨hx, hZ, hown, -, hby, -⟩ := id C
  obtain ⟨T', h', X', e', W, st⟩ := Jvm.RoadKit.stJ X hx hZ eh A hin hg hs (hb hby hd)
  exact OFin.run st (k T' h' ⟨C, _, X', Fr.snoc X' N hnew, e'⟩ W)
theorem OAt.stB (X : OAt n0 Z y bytes maxL ret p l e R s m args below meth c T h cells slots) {a : Addr} {cl : Cell} (A : Arr Z h a cl .byte) {j v : Int32} (hin : ¬ (j < 0 ∨ cl.slots.size ≤ j.toNatClampNeg)) (hnew : n0 ≤ a) (hg : g.method = m) {rest : List Value} (hs : g.stack = .int v :: .int j :: .ref a :: rest) (hd : decode bytes g.pc = .ok (.bastore, 1))
    (k : ∀ T' h', OAt n0 Z y bytes maxL ret p l e R s m args below meth c T' h' cells slots → Wr h h' a j.toNatClampNeg (.int (nar .byte v)) → OFin n0 p e FE below Q T' { g with pc := g.pc + 1, stack := rest }) : OFin n0 p e FE below Q T g := by
  obtain ⟨C, locs, X, N, eh⟩ := X
  obtain ⟨hx, hZ, hown, -, hby, -⟩ := id C
  obtain ⟨T', h', X', e', W, st⟩ := Jvm.RoadKit.stB X hx hZ eh A hin hg hs (hb hby hd)
  exact OFin.run st (k T' h' ⟨C, _, X', Fr.snoc X' N hnew, e'⟩ W)
theorem OAt.stC (X : OAt n0 Z y bytes maxL ret p l e R s m args below meth c T h cells slots) {a : Addr} {cl : Cell} (A : Arr Z h a cl .char) {j v : Int32} (hin : ¬ (j < 0 ∨ cl.slots.size ≤ j.toNatClampNeg)) (hnew : n0 ≤ a) (hg : g.method = m) {rest : List Value} (hs : g.stack = .int v :: .int j :: .ref a :: rest) (hd : decode bytes g.pc = .ok (.castore, 1))
    (k : ∀ T' h', OAt n0 Z y bytes maxL ret p l e R s m args below meth c T' h' cells slots → Wr h h' a j.toNatClampNeg (.int (nar .char v)) → OFin n0 p e FE below Q T' { g with pc := g.pc + 1, stack := rest }) : OFin n0 p e FE below Q T g := by
  obtain ⟨C, locs, X, N, eh⟩ := X
  obtain ⟨hx, hZ, hown, -, hby, -⟩ := id C
  obtain ⟨T', h', X', e', W, st⟩ := Jvm.RoadKit.stC X hx hZ eh A hin hg hs (hb hby hd)
  exact OFin.run st (k T' h' ⟨C, _, X', Fr.snoc X' N hnew, e'⟩ W)
theorem OAt.instY (X : OAt n0 Z y bytes maxL ret p l e R s m args below meth c T h cells slots) {K : String} {index : Nat} (w : (Jvm.Cond.classLink y.cls index K).before a0 Z = true) {a : Addr} (F : Ins Z h a K true) (hg : g.method = m) {rest : List Value} (hs : g.stack = .ref a :: rest) (hd : decode bytes g.pc = .ok (.instanceof index, 3))
    (k : ∀ T', OAt n0 Z y bytes maxL ret p l e R s m args below meth c T' h cells slots → OFin n0 p e FE below Q T' { g with pc := g.pc + 3, stack := .int 1 :: rest }) : OFin n0 p e FE below Q T g := by
  obtain ⟨C, locs, X, N, eh⟩ := X
  obtain ⟨hx, hZ, hown, -, hby, -⟩ := id C
  obtain ⟨T', X', e', st⟩ := Jvm.RoadKit.instY X hx hZ hown w eh F hg hs (hb hby hd)
  exact OFin.run st (k T' ⟨C, locs, X', N, e'⟩)
theorem OAt.castY (X : OAt n0 Z y bytes maxL ret p l e R s m args below meth c T h cells slots) {K : String} {index : Nat} (w : (Jvm.Cond.classLink y.cls index K).before a0 Z = true) {a : Addr} (F : Ins Z h a K true) (hg : g.method = m) {rest : List Value} (hs : g.stack = .ref a :: rest) (hd : decode bytes g.pc = .ok (.checkcast index, 3))
    (k : ∀ T', OAt n0 Z y bytes maxL ret p l e R s m args below meth c T' h cells slots → OFin n0 p e FE below Q T' { g with pc := g.pc + 3 }) : OFin n0 p e FE below Q T g := by
  obtain ⟨C, locs, X, N, eh⟩ := X
  obtain ⟨hx, hZ, hown, -, hby, -⟩ := id C
  obtain ⟨T', X', e', st⟩ := Jvm.RoadKit.castY X hx hZ hown w eh F hg hs (hb hby hd)
  exact OFin.run st (k T' ⟨C, locs, X', N, e'⟩)
theorem OAt.instNo (X : OAt n0 Z y bytes maxL ret p l e R s m args below meth c T h cells slots) {K C : String} {index : Nat} (w : (Jvm.Cond.classLink y.cls index K).before a0 Z = true) {a : Addr} (E : Exa Z h a C) (F : ∃ c t, Z.vm.findClass C = some c ∧ Z.vm.findClass K = some t ∧ Z.vm.assignable c t = false) (hg : g.method = m) {rest : List Value} (hs : g.stack = .ref a :: rest) (hd : decode bytes g.pc = .ok (.instanceof index, 3))
    (k : ∀ T', OAt n0 Z y bytes maxL ret p l e R s m args below meth c T' h cells slots → OFin n0 p e FE below Q T' { g with pc := g.pc + 3, stack := .int 0 :: rest }) : OFin n0 p e FE below Q T g := by
  obtain ⟨C, locs, X, N, eh⟩ := X
  obtain ⟨hx, hZ, hown, -, hby, -⟩ := id C
  obtain ⟨T', X', e', st⟩ := Jvm.RoadKit.instNo X hx hZ hown w eh E F hg hs (hb hby hd)
  exact OFin.run st (k T' ⟨C, locs, X', N, e'⟩)
theorem OAt.instNull (X : OAt n0 Z y bytes maxL ret p l e R s m args below meth c T h cells slots) {index : Nat} (hg : g.method = m) {rest : List Value} (hs : g.stack = .null :: rest) (hd : decode bytes g.pc = .ok (.instanceof index, 3))
    (k : OFin n0 p e FE below Q T { g with pc := g.pc + 3, stack := .int 0 :: rest }) : OFin n0 p e FE below Q T g := by
  obtain ⟨⟨hx, hZ, hown, -, hby, -⟩, locs, X, N, eh⟩ := X
  exact OFin.run (X.instanceofNull hx hg hs (hb hby hd)) k
theorem o_nsRoot {O K : String} {n : Nat} (w : (Jvm.Cond.noSuperclass O).before a0 Z = true) (wk : (Jvm.Cond.instantiable K n).before a0 Z = true) (hn : O ≠ K) : NS Z O K := by
  obtain ⟨c, k, h1, h2, h3, -, -⟩ := Cond.noSuperclass_spec w
  obtain ⟨t, kt, g1, -⟩ := Cond.instantiable_spec wk
  have ne := ids_ne h1 g1 hn
  refine ⟨c, t, h1, g1, fun fuel => ?_⟩
  cases fuel with
  | zero => rfl
  | succ f => simp [Vm.isSubclassAux, ne, h2, h3]
theorem o_nsNo {C S K : String} {n : Nat} (w : (Jvm.Cond.superclass C S).before a0 Z = true) (wk : (Jvm.Cond.instantiable K n).before a0 Z = true) (q : NS Z C K) (hn : C ≠ K) : ∃ c t, Z.vm.findClass C = some c ∧ Z.vm.findClass K = some t ∧ Z.vm.assignable c t = false := by
  obtain ⟨c, t, h0, g0, n3⟩ := q
  obtain ⟨p, k, kp, h1, h2, h3, h4, h5, -, h7⟩ := Cond.superclass_spec h0 w
  obtain ⟨t2, k', g1, g2, g3, g4, -⟩ := Cond.instantiable_spec wk
  cases g0.symm.trans g1
  have ne := ids_ne h0 g0 hn
  have g5 : k'.isInterface = false := by simp only [Bool.or_eq_false_iff] at g4; exact g4.1
  refine ⟨c, t, h0, g0, ?_⟩
  show Z.vm.assignableAux (255 + 1) c t = false
  simp [Vm.assignableAux, ne, h2, g2, h5, g3, g5, Vm.isSubclass, n3]
/-- an array of N places; place j holds f j -/
def OArr (Z : State) (h : Heap) (a : Addr) (ty : FieldType) (N : Nat) (f : Nat → Value) : Prop := ∃ c : Cell, Arr Z h a c ty ∧ c.slots.size = N ∧ ∀ j, j < N → c.slots[j]? = some (f j)
theorem OArr.lt {a : Addr} {ty : FieldType} {N : Nat} {f : Nat → Value} (F : OArr Z h a ty N f) : a < h.size := by obtain ⟨c, A, -⟩ := F; exact A.lt
theorem OArr.ext {a : Addr} {ty : FieldType} {N : Nat} {f : Nat → Value} (F : OArr Z h a ty N f) (E : Ext h h') : OArr Z h' a ty N f := by obtain ⟨c, A, r⟩ := F; exact ⟨c, A.ext E, r⟩
theorem OArr.other {a b : Addr} {ty : FieldType} {N sl : Nat} {f : Nat → Value} {v : Value} (F : OArr Z h b ty N f) (W : Wr h h' a sl v) (q : b ≠ a) : OArr Z h' b ty N f := by obtain ⟨c, A, r⟩ := F; exact ⟨c, A.other W q, r⟩
theorem OArr.keep {a : Addr} {ws : List Addr} {ty : FieldType} {N : Nat} {f : Nat → Value} (F : OArr Z h a ty N f) (K : Keep h h' ws) (q : a ∉ ws) : OArr Z h' a ty N f := by obtain ⟨c, A, r⟩ := F; exact ⟨c, ⟨K.2.1 a c A.1 q, A.2⟩, r⟩
theorem OArr.new {a : Addr} {k : ClassId} {ty : FieldType} {z : Int32} (A : Arr Z h a (newA k ty z) ty) : OArr Z h a ty z.toNatClampNeg (fun _ => defaultValue ty) := ⟨_, A, sz_new _ _ _, fun j hj => by simp [newA, hj]⟩
theorem OArr.congr {a : Addr} {ty : FieldType} {N : Nat} {f f' : Nat → Value} (F : OArr Z h a ty N f) (q : ∀ j, j < N → f j = f' j) : OArr Z h a ty N f' := by obtain ⟨c, A, r1, r2⟩ := F; exact ⟨c, A, r1, fun j hj => by rw [r2 j hj, q j hj]⟩
theorem OArr.set {a : Addr} {ty : FieldType} {N i : Nat} {f : Nat → Value} {v : Value} (F : OArr Z h a ty N f) (W : Wr h h' a i v) : OArr Z h' a ty N (fun j => if j = i then v else f j) := by
  obtain ⟨c, A, r1, r2⟩ := F
  refine ⟨c.setSlot i v, A.same W, by rw [sz_set]; exact r1, fun j hj => ?_⟩
  by_cases q : j = i
  · subst q; simp [Cell.setSlot, r1, hj]
  · simp only [q, if_false]
    rw [← r2 j hj]
    exact Array.getElem?_setIfInBounds_ne (Ne.symm q)
theorem o_fitC {a : Addr} {cl : Cell} {ty : FieldType} (A : Arr Z h a cl ty) (q : ∀ (i : Nat) (v : Value), cl.slots[i]? = some v → fits ty v = true) : FitC Z cl := fun i v hv => by
  obtain ⟨hs, k, hk, comp, hkind⟩ := A.2.1
  simp [State.fitsSlot, State.slotType?, hk, hkind, q i v hv]
theorem o_in {N : Nat} {j : Int32} {cl : Cell} (S : cl.slots.size = N) (h0 : 0 ≤ j.toInt) (h1 : j.toInt < N) : ¬ (j < 0 ∨ cl.slots.size ≤ j.toNatClampNeg) := by
  have e : (0 : Int32).toInt = 0 := by decide
  have q : (j.toNatClampNeg : Int) = j.toInt := by show (j.toInt.toNat : Int) = _; omega
  rw [Int32.lt_iff_toInt_lt, S, e]; omega
theorem o_nat {j : Int32} (h0 : 0 ≤ j.toInt) : (j.toNatClampNeg : Int) = j.toInt := by show (j.toInt.toNat : Int) = _; omega
theorem oN {kk nn : Nat} (h1 : cells ≤ kk) (h2 : slots ≤ nn) : ∀ (t : State) (v : Option Value) (L : List Loc), t.heap = h → t.vm = T.vm → FrameEnd s (.returned v) t L cells slots → (fun o t L => FrameEnd s o t L kk nn) (.returned v) t L := fun t v L _ _ q => ⟨q.1, q.2.1, q.2.2.mono h1 h2⟩
/-! the wide contracts: a body that may intern the program's string constants -/
abbrev OMeetsW (l : Launch) (Z : State) (EL : List (String × Nat)) (y : MethodName) (ws : List Jvm.Cond) (bytes : ByteArray) (maxL : Nat) (ret : Option FieldType) (rm : Room) (as' : Array Value) (h0 : Heap) (n0 : Nat) (Q : Option Value → Heap → Prop) : Prop :=
  MetFree l y (head1 (Jvm.Cond.code y bytes maxL ret :: ws) rm) (fun a U => a = as' ∧ Z.Warmed39 U.vm ∧ U.heap = h0 ∧ CHv Z EL U.vm h0) (fun _ _ _ _ _ => True) (fun _ U o U' => ∃ v L, o = .returned v ∧ (Q v U'.heap ∧ Fr n0 L) ∧ CHr Z EL U.vm U.heap U'.vm U'.heap ∧ ReturnedEndW U o U' L rm.cells rm.slots)
/-- what a wide walk bears beside its Stand over the re-based start -/
def OB (Z : State) (a0 : Array Value) (EL : List (String × Nat)) (s : State) (h0 : Heap) (vm0 : Vm) (h : Heap) : Prop := s.heap = h0 ∧ EW Z a0 EL ∧ (∃ k0, s.Since vm0 k0 ∧ k0 ≤ h.size) ∧ CHr Z EL s.vm h0 vm0 h
theorem OB.ext {EL : List (String × Nat)} {vm0 : Vm} {h0 : Heap} (B : OB Z a0 EL s h0 vm0 h) (E : Ext h h') : OB Z a0 EL s h0 vm0 h' := by
  obtain ⟨b1, b2, ⟨k0, b3, b4⟩, b5⟩ := B
  exact ⟨b1, b2, ⟨k0, b3, Nat.le_trans b4 E.1⟩, b5.trans (CHr.ext E b5.1)⟩
theorem OB.keep {EL : List (String × Nat)} {vm0 : Vm} {h0 : Heap} {ws : List Addr} (B : OB Z a0 EL s h0 vm0 h) (K : Keep h h' ws) (S : ∀ x ∈ ws, Safe Z EL vm0 h x) : OB Z a0 EL s h0 vm0 h' := by
  obtain ⟨b1, b2, ⟨k0, b3, b4⟩, b5⟩ := B
  exact ⟨b1, b2, ⟨k0, b3, Nat.le_trans b4 K.1⟩, b5.trans (CHr.keep K S b5.1)⟩
theorem OB.wr {EL : List (String × Nat)} {vm0 : Vm} {h0 : Heap} {a : Addr} {sl : Nat} {v : Value} (B : OB Z a0 EL s h0 vm0 h) (W : Wr h h' a sl v) (S : Safe Z EL vm0 h a) : OB Z a0 EL s h0 vm0 h' := B.keep (Keep.of_wr W) (fun x hx => by cases List.mem_singleton.mp hx; exact S)
theorem OB.hv {EL : List (String × Nat)} {vm0 : Vm} {h0 : Heap} (B : OB Z a0 EL s h0 vm0 h) : CHv Z EL vm0 h := B.2.2.2.1
theorem OB.size {EL : List (String × Nat)} {vm0 : Vm} {h0 : Heap} (B : OB Z a0 EL s h0 vm0 h) : h0.size ≤ h.size := B.2.2.2.2.1
theorem safe_nil {vm0 : Vm} {x : Addr} : Safe Z [] vm0 h x := fun B => by obtain ⟨p, hp, -⟩ := B; cases hp
theorem o_enterW {EL : List (String × Nat)} {ws : List Jvm.Cond} {rm : Room} {as' : Array Value} {h0 : Heap} (hEL : EW Z a0 EL) (pn : plainFor y = true)
    (body : ∀ (p : Program) (e : Env) (s : State) (m : MethodId) (below : List Frame) (meth : Method) (c : Code) (s₁ : State), OAt n0 Z y bytes maxL ret p l e rm (s.setVm s.vm) m as' below meth c s₁ h0 0 0 → OB Z a0 EL s h0 s.vm h0 → OFin n0 p e (fun o t L => CHr Z EL s.vm s.heap t.vm t.heap ∧ ReturnedEndW s o t L rm.cells rm.slots) below Q s₁ (entryFrame m as' maxL)) :
    OMeetsW l Z EL y ws bytes maxL ret rm as' h0 n0 Q := by
  refine MetFree.of_bodySF pn hisR ?_
  intro p e s m args below meth c s₁ Bd hml0 hP hK
  obtain ⟨rfl, hZ, hh, hC⟩ := hP
  have e0 : s₁.heap = h0 := by rw [← hh, Bd.state]; rfl
  exact body p e s m below meth c s₁ ⟨⟨Bd.exec, hZ, findClass_of_methodNamed Bd.named, (name_of_methodNamed Bd.named Bd.method).1, Bd.bytes, hml0, Bd.returns, Bd.notSynchronized⟩, [], Stand.of_body Bd, Fr.nil n0, e0⟩ ⟨hh, hEL, ⟨0, (State.WarmedH.refl s).since 0, Nat.zero_le _⟩, CHr.refl hC⟩
theorem oW {EL : List (String × Nat)} {vm0 : Vm} {h0 : Heap} {kk nn : Nat} (X : OAt n0 Z y bytes maxL ret p l e R (s.setVm vm0) m args below meth c T h cells slots) (B : OB Z a0 EL s h0 vm0 h) (h1 : cells ≤ kk) (h2 : slots ≤ nn) :
    ∀ (t : State) (v : Option Value) (L : List Loc), t.heap = h → t.vm = T.vm → FrameEnd (s.setVm vm0) (.returned v) t L cells slots → (fun o t L => CHr Z EL s.vm s.heap t.vm t.heap ∧ ReturnedEndW s o t L kk nn) (.returned v) t L := by
  obtain ⟨⟨-, hZ, -⟩, locs, X, -⟩ := X
  obtain ⟨b1, b2, ⟨k0, b3, b4⟩, b5⟩ := B
  intro t v L e1 e2 q
  obtain ⟨q1, q2, q3⟩ := b3.ended q.2.1 (by rw [e1]; exact b4) q.2.2
  refine ⟨?_, q.1, q1, q2, q3.mono h1 h2⟩
  rw [e1, e2, b1]
  exact b5.trans (CHv.at X hZ b2 b5.1)
theorem OAt.ldcO {EL : List (String × Nat)} {vm0 : Vm} {h0 : Heap} (X : OAt n0 Z y bytes maxL ret p l e R (s.setVm vm0) m args below meth c T h cells slots) (B : OB Z a0 EL s h0 vm0 h) {index : Nat} {text : String} (w : (Jvm.Cond.stringLink y.cls index text).before a0 Z = true) (wS : ∀ a ∈ Bundle.stringAtoms, a.before a0 Z = true) (hg : g.method = m) (hd : decode bytes g.pc = .ok (.ldc index, 2)) {n : Nat} (hn : 4 * text.toList.length ≤ n) (hbig : n ≤ 536870912) (hc : cells + 2 ≤ R.cells) (hl : slots + (n + 4) ≤ R.slots)
    (k : ∀ a T' h' vm1, OAt n0 Z y bytes maxL ret p l e R (s.setVm vm1) m args below meth c T' h' (cells + 2) (slots + (n + 4)) → OB Z a0 EL s h0 vm1 h' → Ext h h' → (∀ x, x < h.size → Safe Z EL vm0 h x → Safe Z EL vm1 h' x) → OFin n0 p e FE below Q T' { g with pc := g.pc + 2, stack := .ref a :: g.stack }) : OFin n0 p e FE below Q T g := by
  obtain ⟨C, locs, X, N, eh⟩ := X
  obtain ⟨hx, hZ, hown, r⟩ := id C
  obtain ⟨b1, b2, ⟨k0, b3, b4⟩, b5⟩ := B
  obtain ⟨a, T', h', k1, X', e', E', hS', hk', hZ', hown', hC', hL', st⟩ := ldcOH X hx hZ hown w wS eh b3 b4 b2 b5.1 hg (hb r.2.1 hd) hn hbig hc hl
  exact OFin.run st (k a T' h' T'.vm ⟨⟨hx, hZ', hown', r⟩, locs, X', N, e'⟩ ⟨b1, b2, ⟨k1, hS', hk'⟩, b5.trans hC'⟩ E' (fun x q q' => hC'.safe q q'))
theorem OAt.ldcC {EL : List (String × Nat)} {vm0 : Vm} {h0 : Heap} (X : OAt n0 Z y bytes maxL ret p l e R (s.setVm vm0) m args below meth c T h cells slots) (B : OB Z a0 EL s h0 vm0 h) {index : Nat} {text : String} (w : (Jvm.Cond.stringLink y.cls index text).before a0 Z = true) (wS : ∀ a ∈ Bundle.stringAtoms, a.before a0 Z = true) (hmem : (y.cls, index) ∈ EL) {vs : List Value} {z : Int32} (ht : (∀ c ∈ text.toList, c.toNat < 256) ∧ text.toList.map (fun c => Value.int (Jvm.Lit.byteI c.toNat.toUInt16)) = vs) (hz : ¬ z < 0) (hzl : z.toNatClampNeg = vs.length)
    (hg : g.method = m) (hd : decode bytes g.pc = .ok (.ldc index, 2)) {n : Nat} (hn : 4 * text.toList.length ≤ n) (hbig : n ≤ 536870912) (hc : cells + 2 ≤ R.cells) (hl : slots + (n + 4) ≤ R.slots)
    (k : ∀ a b cA T' h' vm1, OAt n0 Z y bytes maxL ret p l e R (s.setVm vm1) m args below meth c T' h' (cells + 2) (slots + (n + 4)) → OB Z a0 EL s h0 vm1 h' → Ext h h' → (∀ x, x < h.size → Safe Z EL vm0 h x → Safe Z EL vm1 h' x) → Exa Z h' a "java/lang/String" → Fld Z h' a "java/lang/String" "coder" "B" (.int 0) → Fld Z h' a "java/lang/String" "value" "[B" (.ref b) → Arv Z h' b cA .byte z vs (.int 0) → (∀ x, Safe Z EL vm1 h' x → x ≠ a ∧ x ≠ b) → OFin n0 p e FE below Q T' { g with pc := g.pc + 2, stack := .ref a :: g.stack }) : OFin n0 p e FE below Q T g := by
  obtain ⟨C, locs, X, N, eh⟩ := X
  obtain ⟨hx, hZ, hown, r⟩ := id C
  obtain ⟨b1, b2, ⟨k0, b3, b4⟩, b5⟩ := B
  obtain ⟨a, T', h', k1, b, cA, X', e', E', hS', hk', hZ', hown', f1, f2, f3, f4, f5, f6, hC', hL', hN', st⟩ := ldcCH X hx hZ hown w wS eh b3 b4 b2 hmem b5.1 ht hz hzl hg (hb r.2.1 hd) hn hbig hc hl
  exact OFin.run st (k a b cA T' h' T'.vm ⟨⟨hx, hZ', hown', r⟩, locs, X', N, e'⟩ ⟨b1, b2, ⟨k1, hS', hk'⟩, b5.trans hC'⟩ E' (fun x q q' => hC'.safe q q') f1 f2 f3 f4 hN')
theorem OAt.callSW {EL : List (String × Nat)} {vm0 : Vm} {h0 : Heap} (X : OAt n0 Z y bytes maxL ret p l e R (s.setVm vm0) m args below meth c T h cells slots) (B : OB Z a0 EL s h0 vm0 h) {index : Nat} {y' : MethodName} {bytes' : ByteArray} {maxL' : Nat} {ret' : Option FieldType} (w1 : (Jvm.Cond.methodLink y.cls index y').before a0 Z = true) (w2 : (Jvm.Cond.static y').before a0 Z = true) (w3 : (Jvm.Cond.initialized y'.cls).before a0 Z = true) (w4 : (Jvm.Cond.code y' bytes' maxL' ret').before a0 Z = true)
    (hy : y'.cls ≠ "java/lang/invoke/MethodHandle" ∧ y'.cls ≠ "java/lang/invoke/VarHandle") {rm : Room} {Qc : Option Value → Heap → Prop} {argsL rest : List Value} (hM : OMeetsW l Z EL y' [] bytes' maxL' ret' rm argsL.toArray h n0 Qc)
    (hg : g.method = m) (hsize : g.locals.size = maxL) {ps : List FieldType} {r : Option FieldType} (hpd : parseMethodDescriptor y'.desc = some ⟨ps, r⟩) (hlen : argsL.length = ps.length) (hs : g.stack = argsL.reverse ++ rest) {W : Nat} (hW : 2 * g.monitorRoom + (rest.map fun v => v.category).sum ≤ W) (hd : decode bytes g.pc = .ok (.invokestatic index, 3))
    (hf : rm.frames + 1 ≤ R.frames) (hl : W + (maxL' + 11) + rm.locals ≤ R.locals) (hc : cells + rm.cells ≤ R.cells) (hn : slots + rm.slots ≤ R.slots)
    (k : ∀ v T' h' vm1, OAt n0 Z y bytes maxL ret p l e R (s.setVm vm1) m args below meth c T' h' (cells + rm.cells) (slots + rm.slots) → OB Z a0 EL s h0 vm1 h' → h.size ≤ h'.size → (∀ x, x < h.size → Safe Z EL vm0 h x → Safe Z EL vm1 h' x) → Qc v h' → OFin n0 p e FE below Q T' { g with pc := g.pc + 3, stack := v.toList ++ rest }) : OFin n0 p e FE below Q T g := by
  obtain ⟨C, locs, X, N, eh⟩ := X
  obtain ⟨hx, hZ, hown, hnm, hby, hml, r'⟩ := id C
  obtain ⟨b1, b2, ⟨k0, b3, b4⟩, b5⟩ := B
  obtain ⟨v, _, ⟨T1, L1, c1, n1⟩, -, X1, hS1, hg1, ⟨Lc, hQ, l1, y1, z1, hC⟩, st⟩ := callSS X hx hown (mvT hZ w1) (mvT hZ w2) (mvT hZ w3) (mvT hZ w4) hy
    (backOfSH (W := W) (Q := fun v h L => Qc v h ∧ Fr n0 L) hM hZ w4 w3 hf hl b2 b5.1) hg (hsize.trans hml.symm) (lenOf hpd hlen) hs hW (hb hby hd) (fun _ _ => ⟨rfl, eh, hc, hn⟩)
  dsimp only [Pt.U, Pt.locs, Pt.cells, Pt.slots] at X1 l1 y1 z1 st hQ hS1 hg1 hC
  subst l1 y1 z1
  rw [eh] at hg1
  have hS2 := b3.trans hS1 (Nat.le_trans b4 hg1)
  exact OFin.run (fun t k => st.trans k) (k v T1 _ T1.vm ⟨⟨hx, State.Warmed39.trans (t := s.setVm vm0) hZ hS1.1, (hS1.1.alike.findClass _ _).trans hown, hnm, hby, hml, r'⟩, _, X1, N.app hQ.2, rfl⟩ ⟨b1, b2, ⟨_, hS2, Nat.le_refl _⟩, b5.trans hC⟩ hg1 (fun x q q' => hC.safe q q') hQ.1)
theorem OAt.callIW {EL : List (String × Nat)} {vm0 : Vm} {h0 : Heap} (X : OAt n0 Z y bytes maxL ret p l e R (s.setVm vm0) m args below meth c T h cells slots) (B : OB Z a0 EL s h0 vm0 h) {index : Nat} {y' : MethodName} {bytes' : ByteArray} {maxL' : Nat} (hy1 : y'.name = "<init>") (w1 : (Jvm.Cond.methodLink y.cls index y').before a0 Z = true) (w2 : (Jvm.Cond.instanceMethod y').before a0 Z = true) (w3 : (Jvm.Cond.initialized y'.cls).before a0 Z = true) (w4 : (Jvm.Cond.code y' bytes' maxL' none).before a0 Z = true)
    (hy : y'.cls ≠ "java/lang/invoke/MethodHandle" ∧ y'.cls ≠ "java/lang/invoke/VarHandle") {rm : Room} {Qc : Option Value → Heap → Prop} {a : Addr} {argsL rest : List Value} (hM : OMeetsW l Z EL y' [] bytes' maxL' none rm (Value.ref a :: argsL).toArray h n0 Qc)
    (hg : g.method = m) (hsize : g.locals.size = maxL) {ps : List FieldType} {r : Option FieldType} (hpd : parseMethodDescriptor y'.desc = some ⟨ps, r⟩) (hlen : argsL.length = ps.length) (hs : g.stack = argsL.reverse ++ .ref a :: rest) {W : Nat} (hW : 2 * g.monitorRoom + (rest.map fun v => v.category).sum ≤ W) (hd : decode bytes g.pc = .ok (.invokespecial index, 3))
    (hf : rm.frames + 1 ≤ R.frames) (hl : W + (maxL' + 11) + rm.locals ≤ R.locals) (hc : cells + rm.cells ≤ R.cells) (hn : slots + rm.slots ≤ R.slots)
    (k : ∀ v T' h' vm1, OAt n0 Z y bytes maxL ret p l e R (s.setVm vm1) m args below meth c T' h' (cells + rm.cells) (slots + rm.slots) → OB Z a0 EL s h0 vm1 h' → h.size ≤ h'.size → (∀ x, x < h.size → Safe Z EL vm0 h x → Safe Z EL vm1 h' x) → Qc v h' → OFin n0 p e FE below Q T' { g with pc := g.pc + 3, stack := v.toList ++ rest }) : OFin n0 p e FE below Q T g := by
  obtain ⟨C, locs, X, N, eh⟩ := X
  obtain ⟨hx, hZ, hown, hnm, hby, hml, r'⟩ := id C
  obtain ⟨b1, b2, ⟨k0, b3, b4⟩, b5⟩ := B
  obtain ⟨v, _, ⟨T1, L1, c1, n1⟩, -, X1, hS1, hg1, ⟨Lc, hQ, l1, y1, z1, hC⟩, st⟩ := X.specialBackS hx hy1 hown (mvT hZ w1) (mvT hZ w2) (mvT hZ w4) hy
    (backOfSH (W := W) (Q := fun v h L => Qc v h ∧ Fr n0 L) hM hZ w4 w3 hf hl b2 b5.1) hg (hsize.trans hml.symm) (Steps.refl _) (lenOf hpd hlen) hs hW (hb hby hd) (fun _ _ => ⟨rfl, eh, hc, hn⟩)
  dsimp only [Pt.U, Pt.locs, Pt.cells, Pt.slots] at X1 l1 y1 z1 st hQ hS1 hg1 hC
  subst l1 y1 z1
  rw [eh] at hg1
  have hS2 := b3.trans hS1 (Nat.le_trans b4 hg1)
  exact OFin.run (fun t k => st.trans k) (k v T1 _ T1.vm ⟨⟨hx, State.Warmed39.trans (t := s.setVm vm0) hZ hS1.1, (hS1.1.alike.findClass _ _).trans hown, hnm, hby, hml, r'⟩, _, X1, N.app hQ.2, rfl⟩ ⟨b1, b2, ⟨_, hS2, Nat.le_refl _⟩, b5.trans hC⟩ hg1 (fun x q q' => hC.safe q q') hQ.1)
theorem OAt.callVW {EL : List (String × Nat)} {vm0 : Vm} {h0 : Heap} (X : OAt n0 Z y bytes maxL ret p l e R (s.setVm vm0) m args below meth c T h cells slots) (B : OB Z a0 EL s h0 vm0 h) {index : Nat} {y' z' : MethodName} {C0 : String} {bytes' : ByteArray} {maxL' : Nat} {ret' : Option FieldType} (w1 : (Jvm.Cond.methodLink y.cls index y').before a0 Z = true) (w2 : (Jvm.Cond.declares y').before a0 Z = true) (nf : NotFace (s.setVm vm0) y') (w5 : (Jvm.Cond.selects C0 y' z').before a0 Z = true) (w6 : (Jvm.Cond.instanceMethod z').before a0 Z = true) (w3 : (Jvm.Cond.initialized z'.cls).before a0 Z = true) (w4 : (Jvm.Cond.code z' bytes' maxL' ret').before a0 Z = true)
    (hy : y'.cls ≠ "java/lang/invoke/MethodHandle" ∧ y'.cls ≠ "java/lang/invoke/VarHandle") {rm : Room} {Qc : Option Value → Heap → Prop} {a : Addr} (E' : Exa Z h a C0) {argsL rest : List Value} (hM : OMeetsW l Z EL z' [] bytes' maxL' ret' rm (Value.ref a :: argsL).toArray h n0 Qc)
    (hg : g.method = m) (hsize : g.locals.size = maxL) {ps : List FieldType} {r : Option FieldType} (hpd : parseMethodDescriptor y'.desc = some ⟨ps, r⟩) (hlen : argsL.length = ps.length) (hs : g.stack = argsL.reverse ++ .ref a :: rest) {W : Nat} (hW : 2 * g.monitorRoom + (rest.map fun v => v.category).sum ≤ W) (hd : decode bytes g.pc = .ok (.invokevirtual index, 3))
    (hf : rm.frames + 1 ≤ R.frames) (hl : W + (maxL' + 11) + rm.locals ≤ R.locals) (hc : cells + rm.cells ≤ R.cells) (hn : slots + rm.slots ≤ R.slots)
    (k : ∀ v T' h' vm1, OAt n0 Z y bytes maxL ret p l e R (s.setVm vm1) m args below meth c T' h' (cells + rm.cells) (slots + rm.slots) → OB Z a0 EL s h0 vm1 h' → h.size ≤ h'.size → (∀ x, x < h.size → Safe Z EL vm0 h x → Safe Z EL vm1 h' x) → Qc v h' → OFin n0 p e FE below Q T' { g with pc := g.pc + 3, stack := v.toList ++ rest }) : OFin n0 p e FE below Q T g := by
  obtain ⟨C, locs, X, N, eh⟩ := X
  obtain ⟨hx, hZ, hown, hnm, hby, hml, r'⟩ := id C
  obtain ⟨b1, b2, ⟨k0, b3, b4⟩, b5⟩ := B
  obtain ⟨cq, kq, qa, qb, qc⟩ := isOf hZ eh E'
  obtain ⟨v, _, ⟨T1, L1, c1, n1⟩, -, X1, hS1, hg1, ⟨Lc, hQ, l1, y1, z1, hC⟩, st⟩ := X.virtualBackS hx hown (mvT hZ w1) (mvT hZ w2) nf (mvT hZ w5) (mvT hZ w6) hy
    (backOfSH (W := W) (Q := fun v h L => Qc v h ∧ Fr n0 L) hM hZ w4 w3 hf hl b2 b5.1) qa qc hg (hsize.trans hml.symm) (Steps.refl _) (lenOf hpd hlen) hs hW (hb hby hd) (fun _ _ => ⟨rfl, eh, hc, hn⟩)
  dsimp only [Pt.U, Pt.locs, Pt.cells, Pt.slots] at X1 l1 y1 z1 st hQ hS1 hg1 hC
  subst l1 y1 z1
  rw [eh] at hg1
  have hS2 := b3.trans hS1 (Nat.le_trans b4 hg1)
  exact OFin.run (fun t k => st.trans k) (k v T1 _ T1.vm ⟨⟨hx, State.Warmed39.trans (t := s.setVm vm0) hZ hS1.1, (hS1.1.alike.findClass _ _).trans hown, hnm, hby, hml, r'⟩, _, X1, N.app hQ.2, rfl⟩ ⟨b1, b2, ⟨_, hS2, Nat.le_refl _⟩, b5.trans hC⟩ hg1 (fun x q q' => hC.safe q q') hQ.1)
theorem OAt.more {k2 n2 : Nat} (X : OAt n0 Z y bytes maxL ret p l e R s m args below meth c T h cells slots) (h1 : cells ≤ k2) (h2 : slots ≤ n2) : OAt n0 Z y bytes maxL ret p l e R s m args below meth c T h k2 n2 := by
  obtain ⟨C, locs, X, r⟩ := X
  exact ⟨C, locs, X.more h1 h2, r⟩
theorem o_static {C n d K : String} (hx : (Jvm.Cond.exactly (.static C n d) K).value args Z none Z [] = some true) (wi : (Jvm.Cond.initialized C).before args Z = true) (wl : (Jvm.Cond.laysStatic C n d).before args Z = true) :
    ∃ a, (Term.static C n d).eval args Z none [] Z = some (.ref a) ∧ Exa Z Z.heap a K ∧ Sta Z Z.heap C n d (.ref a) := by
  obtain ⟨a, ev⟩ := exa_v hx
  exact ⟨a, ev, Exa.start ev hx, Sta.start ev (Or.inr ⟨wi, wl⟩)⟩
theorem o_fieldI {t : Term} {O f dd : String} {k : Int32} {a : Addr} (ev : t.eval args Z none [] Z = some (.ref a)) (hq : (Jvm.Cond.eq (.field t O f dd) (.int k)).value args Z none Z [] = some true) : Fld Z Z.heap a O f dd (.int k) := by
  refine Fld.start ?_
  rw [← fld_at (C := O) (n := f) (dd := dd) ev]
  obtain ⟨u, v, h1, h2, h3, h4⟩ := cmp_v (Or.inl hq)
  have h5 : v = .int k := (Option.some.inj h2).symm
  subst h5
  obtain ⟨z, rfl⟩ := h4
  have := gotT (Cond.eq_ints h1 h2) hq
  rw [h1, this]
end Own
def own_EL : List (String × Nat) := [("java/lang/String", 7)]
theorem own_wS {Z : State} {a0 : Array Value} (hw : ∀ d ∈ tables_1, d.before a0 Z = true) : ∀ a ∈ Bundle.stringAtoms, a.before a0 Z = true := fun a ha => hw a ((show ∀ a ∈ Bundle.stringAtoms, a ∈ tables_1 by decide +kernel) a ha)
theorem own_EW {Z : State} {a0 : Array Value} (hw : ∀ d ∈ tables_1, d.before a0 Z = true) : EW Z a0 own_EL := EW.cons (hw _ (List.mem_of_getElem? (i := 22) rfl)) (by decide) (EW.nil)
theorem own_i (k : Nat) (hk : k < 2 ^ 31) : (Int32.ofNat k).toInt = k := Int32.toInt_ofNat_of_lt (by omega)
theorem own_iN (k : Nat) (hk : k < 2 ^ 31) : (Int32.ofNat k).toNatClampNeg = k := by show (Int32.ofNat k).toInt.toNat = k; rw [own_i k hk]; rfl
theorem own_add32 (k t : Nat) (h : k + t < 2 ^ 31) : Int32.ofNat k + Int32.ofNat t = Int32.ofNat (k + t) := by
  apply Int32.toInt_inj.mp
  have h1 := c_iadd (Int32.ofNat k) (Int32.ofNat t)
  have r := rng32 (Int32.ofNat k + Int32.ofNat t)
  rw [own_i k (by omega), own_i t (by omega)] at h1
  rw [own_i _ h]
  omega
theorem own_lt32 (a b : Nat) (ha : a < 2 ^ 31) (hb : b < 2 ^ 31) : Int32.ofNat a < Int32.ofNat b ↔ a < b := by
  rw [Int32.lt_iff_toInt_lt, own_i a ha, own_i b hb]; omega
theorem own_eq32 (a b : Nat) (ha : a < 2 ^ 31) (hb : b < 2 ^ 31) : Int32.ofNat a = Int32.ofNat b ↔ a = b := by
  constructor
  · intro h; have := congrArg Int32.toInt h; rw [own_i a ha, own_i b hb] at this; omega
  · rintro rfl; rfl
theorem own_succ (i : Nat) (h : i + 1 < 2 ^ 31) : Int32.ofNat i + (1 : Int32) = Int32.ofNat (i + 1) := own_add32 i 1 h
theorem own_inN {N k : Nat} {cl : Cell} (S : cl.slots.size = N) (hk : k < N) (hN : N ≤ 8192) : ¬ (Int32.ofNat k < 0 ∨ cl.slots.size ≤ (Int32.ofNat k).toNatClampNeg) := o_in S (by rw [own_i k (by omega)]; omega) (by rw [own_i k (by omega)]; omega)
theorem own_bb (x : Int32) : nar .byte x.toInt8.toInt32 = x.toInt8.toInt32 := by
  show x.toInt8.toInt32.toInt8.toInt32 = x.toInt8.toInt32
  rw [Int8.toInt8_toInt32]
theorem own_cc (x : Int32) (h0 : 0 ≤ x.toInt) (h1 : x.toInt ≤ 65535) : x.toUInt32.toUInt16.toUInt32.toInt32 = x := by
  have q := c_i2c x
  apply Int32.toInt_inj.mp
  omega
theorem own_narC (x : Int32) (h0 : 0 ≤ x.toInt) (h1 : x.toInt ≤ 65535) : nar .char x = x := own_cc x h0 h1
theorem own_chr (x : Int32) (h0 : 0 ≤ x.toInt) (h1 : x.toInt ≤ 255) : nar .char ((x.toInt8.toInt32 &&& (255 : Int32)).toUInt32.toUInt16.toUInt32.toInt32) = x := by
  have e : x.toInt8.toInt32 &&& (255 : Int32) = x := by
    apply Int32.toInt_inj.mp
    rw [c_mask _ _ 8 (by decide) (by decide)]
    have q := (c_i2b x).1
    have : ((2 ^ 8 : Nat) : Int) = 256 := by decide
    omega
  rw [e, own_cc x h0 (by omega)]
  exact own_narC x h0 (by omega)
theorem own_sh0 (x : Int32) : x >>> ((0 : Int32) &&& 31) = x := by
  apply Int32.toInt_inj.mp
  rw [c_ishr x 0 0 (by decide)]
  simp
theorem own_sub0 (x : Int32) : (((x - x).toUInt32 >>> ((31 : Int32) &&& 31).toUInt32).toInt32).toInt8.toInt32 = 0 := by
  rw [Int32.sub_self]
  decide
theorem own_s6i {v0 v1 v2 v3 v4 v5 : Value} {s6 : Slot} {x : Int32} (h : One s6) : storeLocals #[.val v0, .val v1, .val v2, .val v3, .val v4, .val v5, s6] 6 (.int x) = some #[.val v0, .val v1, .val v2, .val v3, .val v4, .val v5, .val (.int x)] := by
  rcases h with rfl | ⟨w, rfl, hw⟩
  · rfl
  · cases w <;> first | rfl | (simp [Value.category] at hw)
theorem own_s2i {v0 v1 : Value} {s2 : Slot} {x : Int32} (h : One s2) : storeLocals #[.val v0, .val v1, s2] 2 (.int x) = some #[.val v0, .val v1, .val (.int x)] := by
  rcases h with rfl | ⟨w, rfl, hw⟩
  · rfl
  · cases w <;> first | rfl | (simp [Value.category] at hw)
/-- a String of N chars f 0, f 1, .., each at most 255 -/
def OStr (Z : State) (h : Heap) (a t : Addr) (N : Nat) (f : Nat → Int32) : Prop := Exa Z h a "java/lang/String" ∧ Fld Z h a "java/lang/String" "coder" "B" (.int 0) ∧ Fld Z h a "java/lang/String" "value" "[B" (.ref t) ∧ OArr Z h t .byte N (fun j => .int (f j).toInt8.toInt32)
theorem OStr.ext {Z : State} {h h' : Heap} {a t : Addr} {N : Nat} {f : Nat → Int32} (S : OStr Z h a t N f) (E : Ext h h') : OStr Z h' a t N f := ⟨S.1.ext E, S.2.1.ext E, S.2.2.1.ext E, S.2.2.2.ext E⟩
theorem OStr.keep {Z : State} {h h' : Heap} {a t : Addr} {N : Nat} {f : Nat → Int32} {ws : List Addr} (S : OStr Z h a t N f) (K : Keep h h' ws) (q1 : a ∉ ws) (q2 : t ∉ ws) : OStr Z h' a t N f := ⟨S.1.keep K, S.2.1.keep K q1, S.2.2.1.keep K q1, S.2.2.2.keep K q2⟩
theorem OStr.wr {Z : State} {h h' : Heap} {a t b : Addr} {N sl : Nat} {v : Value} {f : Nat → Int32} (S : OStr Z h a t N f) (W : Wr h h' b sl v) (q1 : a ≠ b) (q2 : t ≠ b) : OStr Z h' a t N f := ⟨S.1.wr W, S.2.1.other W (Or.inl q1), S.2.2.1.other W (Or.inl q1), S.2.2.2.other W q2⟩
theorem own_safeNull {Z : State} {EL : List (String × Nat)} {vm : Vm} {h : Heap} {x : Addr} (hal : Z.vm.Alike vm) (E : Exa Z h x "java/lang/String") (F : Fld Z h x "java/lang/String" "value" "[B" .null) : Safe Z EL vm h x := fun B => by
  obtain ⟨cell, k, e1, e2, e3, -, -⟩ := E
  obtain ⟨cell', cf, kf, i, f, g1, g2, -, -, -, -, g3⟩ := F
  cases e1.symm.trans g1
  obtain ⟨p, -, u, a, -, q, -, F, rfl | rfl⟩ := B
  · cases (show h[q.sa]? = some q.sC from F.ha).symm.trans e1
    obtain ⟨cS, ⟨⟨-, -, -, ⟨c1, k1, i1, f1, -⟩, -, -, -, v1, -⟩, -⟩, -⟩ := F
    obtain ⟨k3, e3, -⟩ := State.fieldFound?_setVm (s := ({ Z with heap := h } : State)) hal (show ({ Z with heap := h } : State).fieldFound? _ _ _ = _ from g2)
    have e4 := (show (Wst Z vm h).fieldFound? _ _ _ = _ from e3).symm.trans f1
    simp only [Option.some.injEq, Prod.mk.injEq] at e4
    rw [e4.2.2.2, v1] at g3
    simp at g3
  · cases (show h[q.sd]? = some q.SA from F.hd).symm.trans e1
    obtain ⟨cS, -, -, f9, -⟩ := F
    have f8 : vm.findClass "[B" = some q.SA.cls := f9
    rw [hal.findClass] at f8
    obtain ⟨k1, q1, q2⟩ := Vm.findClass_spec f8
    obtain ⟨k2, q3, q4⟩ := Vm.findClass_spec e2
    cases q1.symm.trans q3
    have := q2.symm.trans q4
    revert this; decide
theorem own_neA {Z : State} {a0 : Array Value} {h : Heap} {b t : Addr} {C : String} {n N : Nat} {ty : FieldType} {f : Nat → Value} (wi : (Jvm.Cond.instantiable C n).before a0 Z = true) (E : Exa Z h b C) (F : OArr Z h t ty N f) : t ≠ b := fun e => by
  subst e
  obtain ⟨cl, ⟨A1, ⟨-, kA, hkA, compA, hkindA⟩, -⟩, -⟩ := F
  obtain ⟨cell, k, e1, e2, e3, -, -⟩ := E
  obtain ⟨t2, k', g1, g2, g3, -⟩ := Cond.instantiable_spec wi
  cases A1.symm.trans e1
  cases g1.symm.trans e2
  cases g2.symm.trans hkA
  have := g3.symm.trans hkindA
  cases this
theorem OArr.nil {Z : State} {h : Heap} {t : Addr} {cA : ClassId} {f : Nat → Value} (A : Arv Z h t cA .byte 0 [] (.int 0)) : OArr Z h t .byte 0 f := by
  obtain ⟨c, A1, -, A2, -⟩ := A
  exact ⟨c, A1, A2, fun j hj => absurd hj (Nat.not_lt_zero j)⟩
/-- g says whether P -/
def own_tv (g : Int32) (P : Prop) : Prop := (g = 1 ∧ P) ∨ (g = 0 ∧ ¬ P)
theorem own_tv.imp {g : Int32} {P P' : Prop} (h : own_tv g P) (q : P ↔ P') : own_tv g P' := Or.imp (fun r => ⟨r.1, q.mp r.2⟩) (fun r => ⟨r.1, fun z => r.2 (q.mpr z)⟩) h
theorem own_tv.uniq {g g' : Int32} {P : Prop} (h : own_tv g P) (h' : own_tv g' P) : g = g' := by
  rcases h with ⟨rfl, h⟩ | ⟨rfl, h⟩ <;> rcases h' with ⟨rfl, h'⟩ | ⟨rfl, h'⟩ <;> first | rfl | contradiction
theorem own_b8 {x y : Int32} (hx : 0 ≤ x.toInt ∧ x.toInt ≤ 255) (hy : 0 ≤ y.toInt ∧ y.toInt ≤ 255) (q : x.toInt8.toInt32 = y.toInt8.toInt32) : x = y := by
  rw [← own_chr x hx.1 hx.2, ← own_chr y hy.1 hy.2, q]
theorem pn_java_lang_StringUTF16 : plainName "java/lang/StringUTF16" = true := by first | (simp [plainName, overriddenIn]; done) | decide +kernel
theorem d13_3 : decode jdk_52_method_21_code 3 = .ok (.iload 5, 2) := by decide +kernel
theorem d13_5 : decode jdk_52_method_21_code 5 = .ok (.iload 4, 2) := by decide +kernel
theorem d13_7 : decode jdk_52_method_21_code 7 = .ok (.if_icmp .ge 37, 3) := by decide +kernel
theorem d13_44 : decode jdk_52_method_21_code 44 = .ok (.iload 4, 2) := by decide +kernel
theorem d13_46 : decode jdk_52_method_21_code 46 = .ok (.ireturn, 1) := by decide +kernel
theorem d13_10 : decode jdk_52_method_21_code 10 = .ok (.aload_n 0, 1) := by decide +kernel
theorem d13_11 : decode jdk_52_method_21_code 11 = .ok (.iload_n 1, 1) := by decide +kernel
theorem d13_12 : decode jdk_52_method_21_code 12 = .ok (.caload, 1) := by decide +kernel
theorem d13_13 : decode jdk_52_method_21_code 13 = .ok (.istore 6, 2) := by decide +kernel
theorem d13_15 : decode jdk_52_method_21_code 15 = .ok (.iload 6, 2) := by decide +kernel
theorem d13_17 : decode jdk_52_method_21_code 17 = .ok (.sipush 255, 3) := by decide +kernel
theorem d13_20 : decode jdk_52_method_21_code 20 = .ok (.if_icmp .le 6, 3) := by decide +kernel
theorem d13_26 : decode jdk_52_method_21_code 26 = .ok (.aload_n 2, 1) := by decide +kernel
theorem d13_27 : decode jdk_52_method_21_code 27 = .ok (.iload_n 3, 1) := by decide +kernel
theorem d13_28 : decode jdk_52_method_21_code 28 = .ok (.iload 6, 2) := by decide +kernel
theorem d13_30 : decode jdk_52_method_21_code 30 = .ok (.i2b, 1) := by decide +kernel
theorem d13_31 : decode jdk_52_method_21_code 31 = .ok (.bastore, 1) := by decide +kernel
theorem d13_32 : decode jdk_52_method_21_code 32 = .ok (.iinc 1 1, 3) := by decide +kernel
theorem d13_35 : decode jdk_52_method_21_code 35 = .ok (.iinc 3 1, 3) := by decide +kernel
theorem d13_38 : decode jdk_52_method_21_code 38 = .ok (.iinc 5 1, 3) := by decide +kernel
theorem d13_41 : decode jdk_52_method_21_code 41 = .ok (.goto (-38), 3) := by decide +kernel
theorem d13_0 : decode jdk_52_method_21_code 0 = .ok (.iconst 0, 1) := by decide +kernel
theorem d13_1 : decode jdk_52_method_21_code 1 = .ok (.istore 5, 2) := by decide +kernel
set_option maxRecDepth 65536 in
set_option maxHeartbeats 40000000 in
theorem sm1 (l : Launch) (Z : State) (a0 : Array Value) (hw : ∀ d ∈ tables_1, d.before a0 Z = true) (ca ba : Addr) (N : Nat) (f : Nat → Int32) (h0 : Heap) (n0 : Nat) (FC : OArr Z h0 ca .char N (fun j => .int (f j))) (FB : OArr Z h0 ba .byte N (fun _ => .int 0)) (hN : N ≤ 4000) (hch : ∀ j, j < N → 0 ≤ (f j).toInt ∧ (f j).toInt ≤ 255) (hnew : n0 ≤ ba) (ne : ca ≠ ba) :
    OMeets l Z (⟨"java/lang/StringUTF16", "compress", "([CI[BII)I"⟩ : MethodName) [] jdk_52_method_21_code 7 (some .int) ({ frames := 0, cells := 0, slots := 0, locals := 0 } : Room) #[(.ref ca), (.int (0 : Int32)), (.ref ba), (.int (0 : Int32)), (.int (Int32.ofNat N))] h0 n0 (fun v h => v = some (.int (Int32.ofNat N)) ∧ Keep h0 h [ba] ∧ OArr Z h ba .byte N (fun j => .int (f j).toInt8.toInt32)) := by
  refine o_enter (Z := Z) (plainFor_of_name pn_java_lang_StringUTF16) ?_
  intro p e s m below meth c T0 X0
  refine OFin.cast (g' := (mkF m 0 #[.val (.ref ca), .val (.int (0 : Int32)), .val (.ref ba), .val (.int (0 : Int32)), .val (.int (Int32.ofNat N)), .unset, .unset] [])) (by first | (simp [entryFrame, mkF, argsToLocals, Value.category]; done) | rfl) ?_
  have loop : ∀ (k i : Nat) (T : State) (h : Heap) (s6 : Slot), i + k = N → One s6 → OAt n0 Z (⟨"java/lang/StringUTF16", "compress", "([CI[BII)I"⟩ : MethodName) jdk_52_method_21_code 7 (some .int) p l e ({ frames := 0, cells := 0, slots := 0, locals := 0 } : Room) s m #[(.ref ca), (.int (0 : Int32)), (.ref ba), (.int (0 : Int32)), (.int (Int32.ofNat N))] below meth c T h 0 0 → OArr Z h ca .char N (fun j => .int (f j)) → OArr Z h ba .byte N (fun j => if j < i then .int (f j).toInt8.toInt32 else .int 0) → Keep h0 h [ba] → OFin n0 p e (fun o t L => FrameEnd s o t L ({ frames := 0, cells := 0, slots := 0, locals := 0 } : Room).cells ({ frames := 0, cells := 0, slots := 0, locals := 0 } : Room).slots) below (fun v h => v = some (.int (Int32.ofNat N)) ∧ Keep h0 h [ba] ∧ OArr Z h ba .byte N (fun j => .int (f j).toInt8.toInt32)) T (mkF m 3 #[.val (.ref ca), .val (.int (Int32.ofNat i)), .val (.ref ba), .val (.int (Int32.ofNat i)), .val (.int (Int32.ofNat N)), .val (.int (Int32.ofNat i)), s6] []) := by
    intro k
    induction k with
    | zero =>
      intro i T h s6 hik h6 X FC FB K
      have hiN : i = N := by omega
      refine X.step (fun hA hx hq t_ k_ => XS.iload hA hx rfl (hb hq d13_3) rfl k_) ?_
      show OFin _ _ _ _ _ _ T (mkF m 5 #[.val (.ref ca), .val (.int (Int32.ofNat i)), .val (.ref ba), .val (.int (Int32.ofNat i)), .val (.int (Int32.ofNat N)), .val (.int (Int32.ofNat i)), s6] [(.int (Int32.ofNat i))])
      refine X.step (fun hA hx hq t_ k_ => XS.iload hA hx rfl (hb hq d13_5) rfl k_) ?_
      show OFin _ _ _ _ _ _ T (mkF m 7 #[.val (.ref ca), .val (.int (Int32.ofNat i)), .val (.ref ba), .val (.int (Int32.ofNat i)), .val (.int (Int32.ofNat N)), .val (.int (Int32.ofNat i)), s6] [(.int (Int32.ofNat N)), (.int (Int32.ofNat i))])
      refine X.step (fun hA hx hq t_ k_ => XS.icmpYes hA hx rfl (pc0 := 7) (pc' := 44) rfl (hb hq d13_7) rfl (flt (fun c => by rw [own_lt32 i N (by omega) (by omega)] at c; omega)).2.1 (by decide) (by decide) k_) ?_
      show OFin _ _ _ _ _ _ T (mkF m 44 #[.val (.ref ca), .val (.int (Int32.ofNat i)), .val (.ref ba), .val (.int (Int32.ofNat i)), .val (.int (Int32.ofNat N)), .val (.int (Int32.ofNat i)), s6] [])
      refine X.step (fun hA hx hq t_ k_ => XS.iload hA hx rfl (hb hq d13_44) rfl k_) ?_
      show OFin _ _ _ _ _ _ T (mkF m 46 #[.val (.ref ca), .val (.int (Int32.ofNat i)), .val (.ref ba), .val (.int (Int32.ofNat i)), .val (.int (Int32.ofNat N)), .val (.int (Int32.ofNat i)), s6] [(.int (Int32.ofNat N))])
      exact X.retI d13_46 (oN (by decide) (by decide)) (⟨rfl, K, FB.congr fun j hj => if_pos (by omega)⟩)
    | succ k ih =>
      intro i T h s6 hik h6 X FC FB K
      have hlt : i < N := by omega
      obtain ⟨cc, Ac, Sc, Hc⟩ := id FC
      obtain ⟨cb, Ab, Sb, Hb⟩ := id FB
      have hi := hch i hlt
      refine X.step (fun hA hx hq t_ k_ => XS.iload hA hx rfl (hb hq d13_3) rfl k_) ?_
      show OFin _ _ _ _ _ _ T (mkF m 5 #[.val (.ref ca), .val (.int (Int32.ofNat i)), .val (.ref ba), .val (.int (Int32.ofNat i)), .val (.int (Int32.ofNat N)), .val (.int (Int32.ofNat i)), s6] [(.int (Int32.ofNat i))])
      refine X.step (fun hA hx hq t_ k_ => XS.iload hA hx rfl (hb hq d13_5) rfl k_) ?_
      show OFin _ _ _ _ _ _ T (mkF m 7 #[.val (.ref ca), .val (.int (Int32.ofNat i)), .val (.ref ba), .val (.int (Int32.ofNat i)), .val (.int (Int32.ofNat N)), .val (.int (Int32.ofNat i)), s6] [(.int (Int32.ofNat N)), (.int (Int32.ofNat i))])
      refine X.step (fun hA hx hq t_ k_ => XS.icmpNo hA hx rfl (hb hq d13_7) rfl (tlt ((own_lt32 i N (by omega) (by omega)).mpr hlt)).2.1 k_) ?_
      show OFin _ _ _ _ _ _ T (mkF m 10 #[.val (.ref ca), .val (.int (Int32.ofNat i)), .val (.ref ba), .val (.int (Int32.ofNat i)), .val (.int (Int32.ofNat N)), .val (.int (Int32.ofNat i)), s6] [])
      refine X.step (fun hA hx hq t_ k_ => XS.aloadN hA hx rfl (hb hq d13_10) rfl rfl k_) ?_
      show OFin _ _ _ _ _ _ T (mkF m 11 #[.val (.ref ca), .val (.int (Int32.ofNat i)), .val (.ref ba), .val (.int (Int32.ofNat i)), .val (.int (Int32.ofNat N)), .val (.int (Int32.ofNat i)), s6] [(.ref ca)])
      refine X.step (fun hA hx hq t_ k_ => XS.iloadN hA hx rfl (hb hq d13_11) rfl k_) ?_
      show OFin _ _ _ _ _ _ T (mkF m 12 #[.val (.ref ca), .val (.int (Int32.ofNat i)), .val (.ref ba), .val (.int (Int32.ofNat i)), .val (.int (Int32.ofNat N)), .val (.int (Int32.ofNat i)), s6] [(.int (Int32.ofNat i)), (.ref ca)])
      refine X.aload0 Ac (v := (.int (f i))) (own_inN Sc hlt (by omega)) (by rw [own_iN i (by omega)]; exact Hc i hlt) (g := (mkF m 12 #[.val (.ref ca), .val (.int (Int32.ofNat i)), .val (.ref ba), .val (.int (Int32.ofNat i)), .val (.int (Int32.ofNat N)), .val (.int (Int32.ofNat i)), s6] [(.int (Int32.ofNat i)), (.ref ca)])) rfl rfl (Or.inr (Or.inr (Or.inl ⟨rfl, rfl⟩))) d13_12 ?_
      show OFin _ _ _ _ _ _ T (mkF m 13 #[.val (.ref ca), .val (.int (Int32.ofNat i)), .val (.ref ba), .val (.int (Int32.ofNat i)), .val (.int (Int32.ofNat N)), .val (.int (Int32.ofNat i)), s6] [(.int (f i))])
      refine X.step (fun hA hx hq t_ k_ => XS.istore hA hx rfl (hb hq d13_13) rfl (l' := #[.val (.ref ca), .val (.int (Int32.ofNat i)), .val (.ref ba), .val (.int (Int32.ofNat i)), .val (.int (Int32.ofNat N)), .val (.int (Int32.ofNat i)), .val (.int (f i))]) (own_s6i h6) k_) ?_
      show OFin _ _ _ _ _ _ T (mkF m 15 #[.val (.ref ca), .val (.int (Int32.ofNat i)), .val (.ref ba), .val (.int (Int32.ofNat i)), .val (.int (Int32.ofNat N)), .val (.int (Int32.ofNat i)), .val (.int (f i))] [])
      refine X.step (fun hA hx hq t_ k_ => XS.iload hA hx rfl (hb hq d13_15) rfl k_) ?_
      show OFin _ _ _ _ _ _ T (mkF m 17 #[.val (.ref ca), .val (.int (Int32.ofNat i)), .val (.ref ba), .val (.int (Int32.ofNat i)), .val (.int (Int32.ofNat N)), .val (.int (Int32.ofNat i)), .val (.int (f i))] [(.int (f i))])
      refine X.step (fun hA hx hq t_ k_ => XS.sipush hA hx rfl (hb hq d13_17) k_) ?_
      show OFin _ _ _ _ _ _ T (mkF m 20 #[.val (.ref ca), .val (.int (Int32.ofNat i)), .val (.ref ba), .val (.int (Int32.ofNat i)), .val (.int (Int32.ofNat N)), .val (.int (Int32.ofNat i)), .val (.int (f i))] [(.int (255 : Int32)), (.int (f i))])
      refine X.step (fun hA hx hq t_ k_ => XS.icmpYes hA hx rfl (pc0 := 20) (pc' := 26) rfl (hb hq d13_20) rfl (flt ((by rw [Int32.lt_iff_toInt_lt]; have : (255 : Int32).toInt = 255 := (by decide); omega))).2.2.2 (by decide) (by decide) k_) ?_
      show OFin _ _ _ _ _ _ T (mkF m 26 #[.val (.ref ca), .val (.int (Int32.ofNat i)), .val (.ref ba), .val (.int (Int32.ofNat i)), .val (.int (Int32.ofNat N)), .val (.int (Int32.ofNat i)), .val (.int (f i))] [])
      refine X.step (fun hA hx hq t_ k_ => XS.aloadN hA hx rfl (hb hq d13_26) rfl rfl k_) ?_
      show OFin _ _ _ _ _ _ T (mkF m 27 #[.val (.ref ca), .val (.int (Int32.ofNat i)), .val (.ref ba), .val (.int (Int32.ofNat i)), .val (.int (Int32.ofNat N)), .val (.int (Int32.ofNat i)), .val (.int (f i))] [(.ref ba)])
      refine X.step (fun hA hx hq t_ k_ => XS.iloadN hA hx rfl (hb hq d13_27) rfl k_) ?_
      show OFin _ _ _ _ _ _ T (mkF m 28 #[.val (.ref ca), .val (.int (Int32.ofNat i)), .val (.ref ba), .val (.int (Int32.ofNat i)), .val (.int (Int32.ofNat N)), .val (.int (Int32.ofNat i)), .val (.int (f i))] [(.int (Int32.ofNat i)), (.ref ba)])
      refine X.step (fun hA hx hq t_ k_ => XS.iload hA hx rfl (hb hq d13_28) rfl k_) ?_
      show OFin _ _ _ _ _ _ T (mkF m 30 #[.val (.ref ca), .val (.int (Int32.ofNat i)), .val (.ref ba), .val (.int (Int32.ofNat i)), .val (.int (Int32.ofNat N)), .val (.int (Int32.ofNat i)), .val (.int (f i))] [(.int (f i)), (.int (Int32.ofNat i)), (.ref ba)])
      refine X.step (fun hA hx hq t_ k_ => XS.i2b hA hx rfl (hb hq d13_30) rfl k_) ?_
      show OFin _ _ _ _ _ _ T (mkF m 31 #[.val (.ref ca), .val (.int (Int32.ofNat i)), .val (.ref ba), .val (.int (Int32.ofNat i)), .val (.int (Int32.ofNat N)), .val (.int (Int32.ofNat i)), .val (.int (f i))] [(.int ((f i).toInt8.toInt32)), (.int (Int32.ofNat i)), (.ref ba)])
      refine X.stB Ab (own_inN Sb hlt (by omega)) (hnew) (g := (mkF m 31 #[.val (.ref ca), .val (.int (Int32.ofNat i)), .val (.ref ba), .val (.int (Int32.ofNat i)), .val (.int (Int32.ofNat N)), .val (.int (Int32.ofNat i)), .val (.int (f i))] [(.int ((f i).toInt8.toInt32)), (.int (Int32.ofNat i)), (.ref ba)])) rfl rfl d13_31 ?_
      intro T1 h1 X1 W1
      show OFin _ _ _ _ _ _ T1 (mkF m 32 #[.val (.ref ca), .val (.int (Int32.ofNat i)), .val (.ref ba), .val (.int (Int32.ofNat i)), .val (.int (Int32.ofNat N)), .val (.int (Int32.ofNat i)), .val (.int (f i))] [])
      rw [own_iN i (by omega), own_bb] at W1
      refine X1.step (fun hA hx hq t_ k_ => XS.iinc hA hx rfl (hb hq d13_32) rfl (l' := #[.val (.ref ca), .val (.int ((Int32.ofNat i) + (1 : Int32))), .val (.ref ba), .val (.int (Int32.ofNat i)), .val (.int (Int32.ofNat N)), .val (.int (Int32.ofNat i)), .val (.int (f i))]) rfl k_) ?_
      show OFin _ _ _ _ _ _ T1 (mkF m 35 #[.val (.ref ca), .val (.int ((Int32.ofNat i) + (1 : Int32))), .val (.ref ba), .val (.int (Int32.ofNat i)), .val (.int (Int32.ofNat N)), .val (.int (Int32.ofNat i)), .val (.int (f i))] [])
      refine X1.step (fun hA hx hq t_ k_ => XS.iinc hA hx rfl (hb hq d13_35) rfl (l' := #[.val (.ref ca), .val (.int ((Int32.ofNat i) + (1 : Int32))), .val (.ref ba), .val (.int ((Int32.ofNat i) + (1 : Int32))), .val (.int (Int32.ofNat N)), .val (.int (Int32.ofNat i)), .val (.int (f i))]) rfl k_) ?_
      show OFin _ _ _ _ _ _ T1 (mkF m 38 #[.val (.ref ca), .val (.int ((Int32.ofNat i) + (1 : Int32))), .val (.ref ba), .val (.int ((Int32.ofNat i) + (1 : Int32))), .val (.int (Int32.ofNat N)), .val (.int (Int32.ofNat i)), .val (.int (f i))] [])
      refine X1.step (fun hA hx hq t_ k_ => XS.iinc hA hx rfl (hb hq d13_38) rfl (l' := #[.val (.ref ca), .val (.int ((Int32.ofNat i) + (1 : Int32))), .val (.ref ba), .val (.int ((Int32.ofNat i) + (1 : Int32))), .val (.int (Int32.ofNat N)), .val (.int ((Int32.ofNat i) + (1 : Int32))), .val (.int (f i))]) rfl k_) ?_
      show OFin _ _ _ _ _ _ T1 (mkF m 41 #[.val (.ref ca), .val (.int ((Int32.ofNat i) + (1 : Int32))), .val (.ref ba), .val (.int ((Int32.ofNat i) + (1 : Int32))), .val (.int (Int32.ofNat N)), .val (.int ((Int32.ofNat i) + (1 : Int32))), .val (.int (f i))] [])
      rw [own_succ i (by omega)]
      show OFin _ _ _ _ _ _ T1 (mkF m 41 #[.val (.ref ca), .val (.int (Int32.ofNat (i + 1))), .val (.ref ba), .val (.int (Int32.ofNat (i + 1))), .val (.int (Int32.ofNat N)), .val (.int (Int32.ofNat (i + 1))), .val (.int (f i))] [])
      refine X1.step (fun hA hx hq t_ k_ => XS.goto hA hx rfl (pc0 := 41) (pc' := 3) rfl (hb hq d13_41) (by decide) (by decide) k_) ?_
      show OFin _ _ _ _ _ _ T1 (mkF m 3 #[.val (.ref ca), .val (.int (Int32.ofNat (i + 1))), .val (.ref ba), .val (.int (Int32.ofNat (i + 1))), .val (.int (Int32.ofNat N)), .val (.int (Int32.ofNat (i + 1))), .val (.int (f i))] [])
      refine ih (i + 1) T1 h1 _ (by omega) (One.val rfl) X1 (FC.other W1 ne) ((FB.set W1).congr fun j hj => ?_) (K.wr W1 (Or.inl (List.mem_of_getElem? (i := 0) rfl)))
      by_cases c : j = i
      · have c2 : j < i + 1 := by omega
        simp only [c, if_true]
        rw [if_pos (by omega)]
      · by_cases d : j < i
        · have d2 : j < i + 1 := by omega
          simp only [c, d, d2, if_true, if_false]
        · have d2 : ¬ j < i + 1 := by omega
          simp only [c, d, d2, if_false]
  refine X0.step (fun hA hx hq t_ k_ => XS.iconst hA hx rfl (hb hq d13_0) k_) ?_
  show OFin _ _ _ _ _ _ T0 (mkF m 1 #[.val (.ref ca), .val (.int (0 : Int32)), .val (.ref ba), .val (.int (0 : Int32)), .val (.int (Int32.ofNat N)), .unset, .unset] [(.int (0 : Int32))])
  refine X0.step (fun hA hx hq t_ k_ => XS.istore hA hx rfl (hb hq d13_1) rfl (l' := #[.val (.ref ca), .val (.int (0 : Int32)), .val (.ref ba), .val (.int (0 : Int32)), .val (.int (Int32.ofNat N)), .val (.int (0 : Int32)), .unset]) rfl k_) ?_
  show OFin _ _ _ _ _ _ T0 (mkF m 3 #[.val (.ref ca), .val (.int (0 : Int32)), .val (.ref ba), .val (.int (0 : Int32)), .val (.int (Int32.ofNat N)), .val (.int (0 : Int32)), .unset] [])
  exact loop N 0 T0 h0 .unset (by omega) One.u X0 FC (FB.congr fun j hj => by simp) (Keep.refl _ _)
theorem d12_0 : decode jdk_52_method_16_code 0 = .ok (.iload_n 2, 1) := by decide +kernel
theorem d12_1 : decode jdk_52_method_16_code 1 = .ok (.newarray .byte, 2) := by decide +kernel
theorem d12_3 : decode jdk_52_method_16_code 3 = .ok (.astore_n 3, 1) := by decide +kernel
theorem d12_4 : decode jdk_52_method_16_code 4 = .ok (.aload_n 0, 1) := by decide +kernel
theorem d12_5 : decode jdk_52_method_16_code 5 = .ok (.iload_n 1, 1) := by decide +kernel
theorem d12_6 : decode jdk_52_method_16_code 6 = .ok (.aload_n 3, 1) := by decide +kernel
theorem d12_7 : decode jdk_52_method_16_code 7 = .ok (.iconst 0, 1) := by decide +kernel
theorem d12_8 : decode jdk_52_method_16_code 8 = .ok (.iload_n 2, 1) := by decide +kernel
theorem d12_9 : decode jdk_52_method_16_code 9 = .ok (.invokestatic 115, 3) := by decide +kernel
theorem pd_pA_CIA_BIIr_I : parseMethodDescriptor "([CI[BII)I" = some ⟨[(.array .char), .int, (.array .byte), .int, .int], some .int⟩ := by decide +kernel
theorem d12_12 : decode jdk_52_method_16_code 12 = .ok (.istore 4, 2) := by decide +kernel
theorem d12_14 : decode jdk_52_method_16_code 14 = .ok (.iload 4, 2) := by decide +kernel
theorem d12_16 : decode jdk_52_method_16_code 16 = .ok (.iload_n 2, 1) := by decide +kernel
theorem d12_17 : decode jdk_52_method_16_code 17 = .ok (.if_icmp .eq 40, 3) := by decide +kernel
theorem d12_57 : decode jdk_52_method_16_code 57 = .ok (.aload_n 3, 1) := by decide +kernel
theorem d12_58 : decode jdk_52_method_16_code 58 = .ok (.areturn, 1) := by decide +kernel
set_option maxRecDepth 65536 in
set_option maxHeartbeats 40000000 in
theorem sm2 (l : Launch) (Z : State) (a0 : Array Value) (hw : ∀ d ∈ tables_1, d.before a0 Z = true) (ca : Addr) (N : Nat) (f : Nat → Int32) (h0 : Heap) (n0 : Nat) (FC : OArr Z h0 ca .char N (fun j => .int (f j))) (hN : N ≤ 2) (hch : ∀ j, j < N → 0 ≤ (f j).toInt ∧ (f j).toInt ≤ 255) (Z0 : n0 ≤ h0.size) :
    OMeets l Z (⟨"java/lang/StringUTF16", "compress", "([CII)[B"⟩ : MethodName) [] jdk_52_method_16_code 6 (some (.array .byte)) ({ frames := 1, cells := 1, slots := 2, locals := 18 } : Room) #[(.ref ca), (.int (0 : Int32)), (.int (Int32.ofNat N))] h0 n0 (fun v h => ∃ t, v = some (.ref t) ∧ Keep h0 h [] ∧ OArr Z h t .byte N (fun j => .int (f j).toInt8.toInt32) ∧ h0.size ≤ t) := by
  refine o_enter (Z := Z) (plainFor_of_name pn_java_lang_StringUTF16) ?_
  intro p e s m below meth c T0 X0
  refine OFin.cast (g' := (mkF m 0 #[.val (.ref ca), .val (.int (0 : Int32)), .val (.int (Int32.ofNat N)), .unset, .unset, .unset] [])) (by first | (simp [entryFrame, mkF, argsToLocals, Value.category]; done) | rfl) ?_
  refine X0.step (fun hA hx hq t_ k_ => XS.iloadN hA hx rfl (hb hq d12_0) rfl k_) ?_
  show OFin _ _ _ _ _ _ T0 (mkF m 1 #[.val (.ref ca), .val (.int (0 : Int32)), .val (.int (Int32.ofNat N)), .unset, .unset, .unset] [(.int (Int32.ofNat N))])
  refine X0.newP (hw _ (List.mem_of_getElem? (i := 23) rfl)) (g := (mkF m 1 #[.val (.ref ca), .val (.int (0 : Int32)), .val (.int (Int32.ofNat N)), .unset, .unset, .unset] [(.int (Int32.ofNat N))])) rfl d12_1 rfl (by rw [Int32.lt_iff_toInt_lt, own_i N (by omega)]; have : (0 : Int32).toInt = 0 := (by decide); omega) (cap := 2) (by rw [own_iN N (by omega)]; exact hN) (by decide) (by decide) (by decide) (ad := "[B") (by first | rfl | decide) ?_
  intro T1 h1 k1 b1 gb1 X1 E1 A1 G1
  show OFin _ _ _ _ _ _ T1 (mkF m 3 #[.val (.ref ca), .val (.int (0 : Int32)), .val (.int (Int32.ofNat N)), .unset, .unset, .unset] [(.ref b1)])
  refine X1.step (fun hA hx hq t_ k_ => XS.astoreN hA hx rfl (hb hq d12_3) rfl rfl (l' := #[.val (.ref ca), .val (.int (0 : Int32)), .val (.int (Int32.ofNat N)), .val (.ref b1), .unset, .unset]) rfl k_) ?_
  show OFin _ _ _ _ _ _ T1 (mkF m 4 #[.val (.ref ca), .val (.int (0 : Int32)), .val (.int (Int32.ofNat N)), .val (.ref b1), .unset, .unset] [])
  refine X1.step (fun hA hx hq t_ k_ => XS.aloadN hA hx rfl (hb hq d12_4) rfl rfl k_) ?_
  show OFin _ _ _ _ _ _ T1 (mkF m 5 #[.val (.ref ca), .val (.int (0 : Int32)), .val (.int (Int32.ofNat N)), .val (.ref b1), .unset, .unset] [(.ref ca)])
  refine X1.step (fun hA hx hq t_ k_ => XS.iloadN hA hx rfl (hb hq d12_5) rfl k_) ?_
  show OFin _ _ _ _ _ _ T1 (mkF m 6 #[.val (.ref ca), .val (.int (0 : Int32)), .val (.int (Int32.ofNat N)), .val (.ref b1), .unset, .unset] [(.int (0 : Int32)), (.ref ca)])
  refine X1.step (fun hA hx hq t_ k_ => XS.aloadN hA hx rfl (hb hq d12_6) rfl rfl k_) ?_
  show OFin _ _ _ _ _ _ T1 (mkF m 7 #[.val (.ref ca), .val (.int (0 : Int32)), .val (.int (Int32.ofNat N)), .val (.ref b1), .unset, .unset] [(.ref b1), (.int (0 : Int32)), (.ref ca)])
  refine X1.step (fun hA hx hq t_ k_ => XS.iconst hA hx rfl (hb hq d12_7) k_) ?_
  show OFin _ _ _ _ _ _ T1 (mkF m 8 #[.val (.ref ca), .val (.int (0 : Int32)), .val (.int (Int32.ofNat N)), .val (.ref b1), .unset, .unset] [(.int (0 : Int32)), (.ref b1), (.int (0 : Int32)), (.ref ca)])
  refine X1.step (fun hA hx hq t_ k_ => XS.iloadN hA hx rfl (hb hq d12_8) rfl k_) ?_
  show OFin _ _ _ _ _ _ T1 (mkF m 9 #[.val (.ref ca), .val (.int (0 : Int32)), .val (.int (Int32.ofNat N)), .val (.ref b1), .unset, .unset] [(.int (Int32.ofNat N)), (.int (0 : Int32)), (.ref b1), (.int (0 : Int32)), (.ref ca)])
  have FB : OArr Z h1 b1 .byte N (fun _ => .int 0) := by
    have q := OArr.new A1
    rw [own_iN N (by omega)] at q
    exact q
  refine X1.callS (y' := (⟨"java/lang/StringUTF16", "compress", "([CI[BII)I"⟩ : MethodName)) (hw _ (List.mem_of_getElem? (i := 84) rfl)) (hw _ (List.mem_of_getElem? (i := 85) rfl)) (hw _ (List.mem_of_getElem? (i := 82) rfl)) (hw _ (List.mem_of_getElem? (i := 86) rfl)) (by decide) (argsL := [(.ref ca), (.int (0 : Int32)), (.ref b1), (.int (0 : Int32)), (.int (Int32.ofNat N))]) (rest := []) (sm1 l Z a0 hw ca b1 N f h1 n0 (FC.ext E1) FB (by omega) hch (by rw [gb1]; exact Z0) (by rw [gb1]; exact Nat.ne_of_lt FC.lt)) (g := (mkF m 9 #[.val (.ref ca), .val (.int (0 : Int32)), .val (.int (Int32.ofNat N)), .val (.ref b1), .unset, .unset] [(.int (Int32.ofNat N)), (.int (0 : Int32)), (.ref b1), (.int (0 : Int32)), (.ref ca)])) rfl rfl pd_pA_CIA_BIIr_I rfl rfl (W := 0) (by show 2 * 0 + _ ≤ _; exact Nat.le_of_eq rfl) d12_9 (by decide) (by decide) (by decide) (by decide) ?_
  intro v2 T2 h2 X2 q2
  obtain ⟨rfl, K2, F2⟩ := q2
  show OFin _ _ _ _ _ _ T2 (mkF m 12 #[.val (.ref ca), .val (.int (0 : Int32)), .val (.int (Int32.ofNat N)), .val (.ref b1), .unset, .unset] [(.int (Int32.ofNat N))])
  refine X2.step (fun hA hx hq t_ k_ => XS.istore hA hx rfl (hb hq d12_12) rfl (l' := #[.val (.ref ca), .val (.int (0 : Int32)), .val (.int (Int32.ofNat N)), .val (.ref b1), .val (.int (Int32.ofNat N)), .unset]) rfl k_) ?_
  show OFin _ _ _ _ _ _ T2 (mkF m 14 #[.val (.ref ca), .val (.int (0 : Int32)), .val (.int (Int32.ofNat N)), .val (.ref b1), .val (.int (Int32.ofNat N)), .unset] [])
  refine X2.step (fun hA hx hq t_ k_ => XS.iload hA hx rfl (hb hq d12_14) rfl k_) ?_
  show OFin _ _ _ _ _ _ T2 (mkF m 16 #[.val (.ref ca), .val (.int (0 : Int32)), .val (.int (Int32.ofNat N)), .val (.ref b1), .val (.int (Int32.ofNat N)), .unset] [(.int (Int32.ofNat N))])
  refine X2.step (fun hA hx hq t_ k_ => XS.iloadN hA hx rfl (hb hq d12_16) rfl k_) ?_
  show OFin _ _ _ _ _ _ T2 (mkF m 17 #[.val (.ref ca), .val (.int (0 : Int32)), .val (.int (Int32.ofNat N)), .val (.ref b1), .val (.int (Int32.ofNat N)), .unset] [(.int (Int32.ofNat N)), (.int (Int32.ofNat N))])
  refine X2.step (fun hA hx hq t_ k_ => XS.icmpYes hA hx rfl (pc0 := 17) (pc' := 57) rfl (hb hq d12_17) rfl (teq ((rfl : (Int32.ofNat N) = (Int32.ofNat N)))).1 (by decide) (by decide) k_) ?_
  show OFin _ _ _ _ _ _ T2 (mkF m 57 #[.val (.ref ca), .val (.int (0 : Int32)), .val (.int (Int32.ofNat N)), .val (.ref b1), .val (.int (Int32.ofNat N)), .unset] [])
  refine X2.step (fun hA hx hq t_ k_ => XS.aloadN hA hx rfl (hb hq d12_57) rfl rfl k_) ?_
  show OFin _ _ _ _ _ _ T2 (mkF m 58 #[.val (.ref ca), .val (.int (0 : Int32)), .val (.int (Int32.ofNat N)), .val (.ref b1), .val (.int (Int32.ofNat N)), .unset] [(.ref b1)])
  exact X2.retR rfl rfl d12_58 (oN (by decide) (by decide)) (⟨b1, rfl, ((Keep.refl h0 []).ext E1).trans K2 (allS (Or.inr (Nat.le_of_eq gb1.symm)) all0), F2, Nat.le_of_eq gb1.symm⟩)
theorem d14_0 : decode jdk_52_method_15_code 0 = .ok (.iload_n 1, 1) := by decide +kernel
theorem d14_1 : decode jdk_52_method_15_code 1 = .ok (.aload_n 0, 1) := by decide +kernel
theorem d14_2 : decode jdk_52_method_15_code 2 = .ok (.arraylength, 1) := by decide +kernel
theorem d14_3 : decode jdk_52_method_15_code 3 = .ok (.isub, 1) := by decide +kernel
theorem d14_4 : decode jdk_52_method_15_code 4 = .ok (.bipush 31, 2) := by decide +kernel
theorem d14_6 : decode jdk_52_method_15_code 6 = .ok (.iushr, 1) := by decide +kernel
theorem d14_7 : decode jdk_52_method_15_code 7 = .ok (.i2b, 1) := by decide +kernel
theorem d14_8 : decode jdk_52_method_15_code 8 = .ok (.ireturn, 1) := by decide +kernel
set_option maxRecDepth 65536 in
set_option maxHeartbeats 40000000 in
theorem sm3 (l : Launch) (Z : State) (a0 : Array Value) (hw : ∀ d ∈ tables_1, d.before a0 Z = true) (t : Addr) (N : Nat) (g_ : Nat → Value) (h0 : Heap) (n0 : Nat) (F : OArr Z h0 t .byte N g_) :
    OMeets l Z (⟨"java/lang/StringUTF16", "coderFromArrayLen", "([BI)B"⟩ : MethodName) [] jdk_52_method_15_code 2 (some .byte) ({ frames := 0, cells := 0, slots := 0, locals := 0 } : Room) #[(.ref t), (.int (Int32.ofNat N))] h0 n0 (fun v h => v = some (.int 0) ∧ h0 = h) := by
  refine o_enter (Z := Z) (plainFor_of_name pn_java_lang_StringUTF16) ?_
  intro p e s m below meth c T0 X0
  refine OFin.cast (g' := (mkF m 0 #[.val (.ref t), .val (.int (Int32.ofNat N))] [])) (by first | (simp [entryFrame, mkF, argsToLocals, Value.category]; done) | rfl) ?_
  obtain ⟨c1, A1, S1, H1⟩ := id F
  refine X0.step (fun hA hx hq t_ k_ => XS.iloadN hA hx rfl (hb hq d14_0) rfl k_) ?_
  show OFin _ _ _ _ _ _ T0 (mkF m 1 #[.val (.ref t), .val (.int (Int32.ofNat N))] [(.int (Int32.ofNat N))])
  refine X0.step (fun hA hx hq t_ k_ => XS.aloadN hA hx rfl (hb hq d14_1) rfl rfl k_) ?_
  show OFin _ _ _ _ _ _ T0 (mkF m 2 #[.val (.ref t), .val (.int (Int32.ofNat N))] [(.ref t), (.int (Int32.ofNat N))])
  refine X0.alen A1 (n := (Int32.ofNat N)) (by rw [S1]) (g := (mkF m 2 #[.val (.ref t), .val (.int (Int32.ofNat N))] [(.ref t), (.int (Int32.ofNat N))])) rfl rfl d14_2 ?_
  show OFin _ _ _ _ _ _ T0 (mkF m 3 #[.val (.ref t), .val (.int (Int32.ofNat N))] [(.int (Int32.ofNat N)), (.int (Int32.ofNat N))])
  refine X0.step (fun hA hx hq t_ k_ => XS.isub hA hx rfl (hb hq d14_3) rfl k_) ?_
  show OFin _ _ _ _ _ _ T0 (mkF m 4 #[.val (.ref t), .val (.int (Int32.ofNat N))] [(.int ((Int32.ofNat N) - (Int32.ofNat N)))])
  refine X0.step (fun hA hx hq t_ k_ => XS.bipush hA hx rfl (hb hq d14_4) k_) ?_
  show OFin _ _ _ _ _ _ T0 (mkF m 6 #[.val (.ref t), .val (.int (Int32.ofNat N))] [(.int (31 : Int32)), (.int ((Int32.ofNat N) - (Int32.ofNat N)))])
  refine X0.step (fun hA hx hq t_ k_ => XS.iushr hA hx rfl (hb hq d14_6) rfl k_) ?_
  show OFin _ _ _ _ _ _ T0 (mkF m 7 #[.val (.ref t), .val (.int (Int32.ofNat N))] [(.int ((((Int32.ofNat N) - (Int32.ofNat N)).toUInt32 >>> ((31 : Int32) &&& 31).toUInt32).toInt32))])
  refine X0.step (fun hA hx hq t_ k_ => XS.i2b hA hx rfl (hb hq d14_7) rfl k_) ?_
  show OFin _ _ _ _ _ _ T0 (mkF m 8 #[.val (.ref t), .val (.int (Int32.ofNat N))] [(.int (((((Int32.ofNat N) - (Int32.ofNat N)).toUInt32 >>> ((31 : Int32) &&& 31).toUInt32).toInt32).toInt8.toInt32))])
  exact X0.retN (by simp) d14_8 (oN (by decide) (by decide)) (⟨by rw [own_sub0]; rfl, rfl⟩)
theorem pn_java_lang_String : plainName "java/lang/String" = true := by first | (simp [plainName, overriddenIn]; done) | decide +kernel
theorem d3_0 : decode jdk_42_method_149_code 0 = .ok (.aload_n 0, 1) := by decide +kernel
theorem d3_1 : decode jdk_42_method_149_code 1 = .ok (.invokespecial 1, 3) := by decide +kernel
theorem d3_4 : decode jdk_42_method_149_code 4 = .ok (.iload_n 3, 1) := by decide +kernel
theorem d3_5 : decode jdk_42_method_149_code 5 = .ok (.ifCond .ne 22, 3) := by decide +kernel
theorem d3_27 : decode jdk_42_method_149_code 27 = .ok (.getstatic 38, 3) := by decide +kernel
theorem d3_30 : decode jdk_42_method_149_code 30 = .ok (.ifCond .eq 28, 3) := by decide +kernel
theorem d3_33 : decode jdk_42_method_149_code 33 = .ok (.aload_n 1, 1) := by decide +kernel
theorem d3_34 : decode jdk_42_method_149_code 34 = .ok (.iload_n 2, 1) := by decide +kernel
theorem d3_35 : decode jdk_42_method_149_code 35 = .ok (.iload_n 3, 1) := by decide +kernel
theorem d3_36 : decode jdk_42_method_149_code 36 = .ok (.invokestatic 177, 3) := by decide +kernel
theorem pd_pA_CIIr_A_B : parseMethodDescriptor "([CII)[B" = some ⟨[(.array .char), .int, .int], some (.array .byte)⟩ := by decide +kernel
theorem d3_39 : decode jdk_42_method_149_code 39 = .ok (.astore 5, 2) := by decide +kernel
theorem d3_41 : decode jdk_42_method_149_code 41 = .ok (.aload_n 0, 1) := by decide +kernel
theorem d3_42 : decode jdk_42_method_149_code 42 = .ok (.aload 5, 2) := by decide +kernel
theorem d3_44 : decode jdk_42_method_149_code 44 = .ok (.iload_n 3, 1) := by decide +kernel
theorem d3_45 : decode jdk_42_method_149_code 45 = .ok (.invokestatic 47, 3) := by decide +kernel
theorem pd_pA_BIr_B : parseMethodDescriptor "([BI)B" = some ⟨[(.array .byte), .int], some .byte⟩ := by decide +kernel
theorem d3_48 : decode jdk_42_method_149_code 48 = .ok (.putfield 15, 3) := by decide +kernel
theorem d3_51 : decode jdk_42_method_149_code 51 = .ok (.aload_n 0, 1) := by decide +kernel
theorem d3_52 : decode jdk_42_method_149_code 52 = .ok (.aload 5, 2) := by decide +kernel
theorem d3_54 : decode jdk_42_method_149_code 54 = .ok (.putfield 9, 3) := by decide +kernel
theorem d3_57 : decode jdk_42_method_149_code 57 = .ok (.return_, 1) := by decide +kernel
set_option maxRecDepth 65536 in
set_option maxHeartbeats 40000000 in
theorem sm4 (l : Launch) (Z : State) (a0 : Array Value) (hw : ∀ d ∈ tables_1, d.before a0 Z = true) (a1 ca : Addr) (N : Nat) (f : Nat → Int32) (cs : Int32) (h0 : Heap) (n0 : Nat) (F1 : Fld Z h0 a1 "java/lang/String" "value" "[B" .null) (F2 : Fld Z h0 a1 "java/lang/String" "coder" "B" (.int 0)) (E : Exa Z h0 a1 "java/lang/String") (hn : n0 ≤ a1) (FC : OArr Z h0 ca .char N (fun j => .int (f j))) (hN0 : 0 < N) (hN : N ≤ 2) (hch : ∀ j, j < N → 0 ≤ (f j).toInt ∧ (f j).toInt ≤ 255) (Z0 : n0 ≤ h0.size) (SS : Sta Z h0 "java/lang/String" "COMPACT_STRINGS" "Z" (.int cs)) (hcs : ¬ cs = 0) :
    OMeets l Z (⟨"java/lang/String", "<init>", "([CIILjava/lang/Void;)V"⟩ : MethodName) [] jdk_42_method_149_code 6 none ({ frames := 2, cells := 1, slots := 2, locals := 35 } : Room) #[(.ref a1), (.ref ca), (.int (0 : Int32)), (.int (Int32.ofNat N)), .null] h0 n0 (fun v h => v = none ∧ Keep h0 h [a1] ∧ ∃ t, OStr Z h a1 t N f ∧ h0.size ≤ t) := by
  refine o_enter (Z := Z) (plainFor_of_name pn_java_lang_String) ?_
  intro p e s m below meth c T0 X0
  refine OFin.cast (g' := (mkF m 0 #[.val (.ref a1), .val (.ref ca), .val (.int (0 : Int32)), .val (.int (Int32.ofNat N)), .val .null, .unset] [])) (by first | (simp [entryFrame, mkF, argsToLocals, Value.category]; done) | rfl) ?_
  have sne := (slot_ne (Or.inr (hw _ (List.mem_of_getElem? (i := 24) rfl))) (Or.inr (hw _ (List.mem_of_getElem? (i := 25) rfl))) (by decide) (t := (.array .byte)) (t' := .byte) (by decide) (by decide))
  refine X0.step (fun hA hx hq t_ k_ => XS.aloadN hA hx rfl (hb hq d3_0) rfl rfl k_) ?_
  show OFin _ _ _ _ _ _ T0 (mkF m 1 #[.val (.ref a1), .val (.ref ca), .val (.int (0 : Int32)), .val (.int (Int32.ofNat N)), .val .null, .unset] [(.ref a1)])
  refine X0.initO (hw _ (List.mem_of_getElem? (i := 19) rfl)) (hw _ (List.mem_of_getElem? (i := 20) rfl)) (hw _ (List.mem_of_getElem? (i := 21) rfl)) (g := (mkF m 1 #[.val (.ref a1), .val (.ref ca), .val (.int (0 : Int32)), .val (.int (Int32.ofNat N)), .val .null, .unset] [(.ref a1)])) rfl rfl rfl d3_1 (by decide) (W := 0) (by show 2 * 0 + _ ≤ _; exact Nat.le_of_eq rfl) (by decide) ?_
  intro T1 X1
  show OFin _ _ _ _ _ _ T1 (mkF m 4 #[.val (.ref a1), .val (.ref ca), .val (.int (0 : Int32)), .val (.int (Int32.ofNat N)), .val .null, .unset] [])
  refine X1.step (fun hA hx hq t_ k_ => XS.iloadN hA hx rfl (hb hq d3_4) rfl k_) ?_
  show OFin _ _ _ _ _ _ T1 (mkF m 5 #[.val (.ref a1), .val (.ref ca), .val (.int (0 : Int32)), .val (.int (Int32.ofNat N)), .val .null, .unset] [(.int (Int32.ofNat N))])
  refine X1.step (fun hA hx hq t_ k_ => XS.ifYes hA hx rfl (pc0 := 5) (pc' := 27) rfl (hb hq d3_5) rfl ((if0 _ _).trans (feq (fun q => by have := (own_eq32 N 0 (by omega) (by decide)).mp q; omega)).2) (by decide) (by decide) k_) ?_
  show OFin _ _ _ _ _ _ T1 (mkF m 27 #[.val (.ref a1), .val (.ref ca), .val (.int (0 : Int32)), .val (.int (Int32.ofNat N)), .val .null, .unset] [])
  refine X1.getS (hw _ (List.mem_of_getElem? (i := 71) rfl)) SS (g := (mkF m 27 #[.val (.ref a1), .val (.ref ca), .val (.int (0 : Int32)), .val (.int (Int32.ofNat N)), .val .null, .unset] [])) rfl d3_27 ?_
  intro T2 X2
  show OFin _ _ _ _ _ _ T2 (mkF m 30 #[.val (.ref a1), .val (.ref ca), .val (.int (0 : Int32)), .val (.int (Int32.ofNat N)), .val .null, .unset] [(.int cs)])
  refine X2.step (fun hA hx hq t_ k_ => XS.ifNo hA hx rfl (hb hq d3_30) rfl ((if0 _ _).trans (feq (hcs)).1) k_) ?_
  show OFin _ _ _ _ _ _ T2 (mkF m 33 #[.val (.ref a1), .val (.ref ca), .val (.int (0 : Int32)), .val (.int (Int32.ofNat N)), .val .null, .unset] [])
  refine X2.step (fun hA hx hq t_ k_ => XS.aloadN hA hx rfl (hb hq d3_33) rfl rfl k_) ?_
  show OFin _ _ _ _ _ _ T2 (mkF m 34 #[.val (.ref a1), .val (.ref ca), .val (.int (0 : Int32)), .val (.int (Int32.ofNat N)), .val .null, .unset] [(.ref ca)])
  refine X2.step (fun hA hx hq t_ k_ => XS.iloadN hA hx rfl (hb hq d3_34) rfl k_) ?_
  show OFin _ _ _ _ _ _ T2 (mkF m 35 #[.val (.ref a1), .val (.ref ca), .val (.int (0 : Int32)), .val (.int (Int32.ofNat N)), .val .null, .unset] [(.int (0 : Int32)), (.ref ca)])
  refine X2.step (fun hA hx hq t_ k_ => XS.iloadN hA hx rfl (hb hq d3_35) rfl k_) ?_
  show OFin _ _ _ _ _ _ T2 (mkF m 36 #[.val (.ref a1), .val (.ref ca), .val (.int (0 : Int32)), .val (.int (Int32.ofNat N)), .val .null, .unset] [(.int (Int32.ofNat N)), (.int (0 : Int32)), (.ref ca)])
  refine X2.callS (y' := (⟨"java/lang/StringUTF16", "compress", "([CII)[B"⟩ : MethodName)) (hw _ (List.mem_of_getElem? (i := 80) rfl)) (hw _ (List.mem_of_getElem? (i := 81) rfl)) (hw _ (List.mem_of_getElem? (i := 82) rfl)) (hw _ (List.mem_of_getElem? (i := 83) rfl)) (by decide) (argsL := [(.ref ca), (.int (0 : Int32)), (.int (Int32.ofNat N))]) (rest := []) (sm2 l Z a0 hw ca N f h0 n0 FC hN hch Z0) (g := (mkF m 36 #[.val (.ref a1), .val (.ref ca), .val (.int (0 : Int32)), .val (.int (Int32.ofNat N)), .val .null, .unset] [(.int (Int32.ofNat N)), (.int (0 : Int32)), (.ref ca)])) rfl rfl pd_pA_CIIr_A_B rfl rfl (W := 0) (by show 2 * 0 + _ ≤ _; exact Nat.le_of_eq rfl) d3_36 (by decide) (by decide) (by decide) (by decide) ?_
  intro v3 T3 h3 X3 q3
  obtain ⟨t, rfl, K3, B3, lt3⟩ := q3
  show OFin _ _ _ _ _ _ T3 (mkF m 39 #[.val (.ref a1), .val (.ref ca), .val (.int (0 : Int32)), .val (.int (Int32.ofNat N)), .val .null, .unset] [(.ref t)])
  refine X3.step (fun hA hx hq t_ k_ => XS.astore hA hx rfl (hb hq d3_39) rfl rfl (l' := #[.val (.ref a1), .val (.ref ca), .val (.int (0 : Int32)), .val (.int (Int32.ofNat N)), .val .null, .val (.ref t)]) rfl k_) ?_
  show OFin _ _ _ _ _ _ T3 (mkF m 41 #[.val (.ref a1), .val (.ref ca), .val (.int (0 : Int32)), .val (.int (Int32.ofNat N)), .val .null, .val (.ref t)] [])
  refine X3.step (fun hA hx hq t_ k_ => XS.aloadN hA hx rfl (hb hq d3_41) rfl rfl k_) ?_
  show OFin _ _ _ _ _ _ T3 (mkF m 42 #[.val (.ref a1), .val (.ref ca), .val (.int (0 : Int32)), .val (.int (Int32.ofNat N)), .val .null, .val (.ref t)] [(.ref a1)])
  refine X3.step (fun hA hx hq t_ k_ => XS.aload hA hx rfl (hb hq d3_42) rfl rfl k_) ?_
  show OFin _ _ _ _ _ _ T3 (mkF m 44 #[.val (.ref a1), .val (.ref ca), .val (.int (0 : Int32)), .val (.int (Int32.ofNat N)), .val .null, .val (.ref t)] [(.ref t), (.ref a1)])
  refine X3.step (fun hA hx hq t_ k_ => XS.iloadN hA hx rfl (hb hq d3_44) rfl k_) ?_
  show OFin _ _ _ _ _ _ T3 (mkF m 45 #[.val (.ref a1), .val (.ref ca), .val (.int (0 : Int32)), .val (.int (Int32.ofNat N)), .val .null, .val (.ref t)] [(.int (Int32.ofNat N)), (.ref t), (.ref a1)])
  refine X3.callS (y' := (⟨"java/lang/StringUTF16", "coderFromArrayLen", "([BI)B"⟩ : MethodName)) (hw _ (List.mem_of_getElem? (i := 87) rfl)) (hw _ (List.mem_of_getElem? (i := 88) rfl)) (hw _ (List.mem_of_getElem? (i := 82) rfl)) (hw _ (List.mem_of_getElem? (i := 89) rfl)) (by decide) (argsL := [(.ref t), (.int (Int32.ofNat N))]) (rest := [(.ref a1)]) (sm3 l Z a0 hw t N _ h3 n0 B3) (g := (mkF m 45 #[.val (.ref a1), .val (.ref ca), .val (.int (0 : Int32)), .val (.int (Int32.ofNat N)), .val .null, .val (.ref t)] [(.int (Int32.ofNat N)), (.ref t), (.ref a1)])) rfl rfl pd_pA_BIr_B rfl rfl (W := 1) (by show 2 * 0 + _ ≤ _; exact Nat.le_of_eq rfl) d3_45 (by decide) (by decide) (by decide) (by decide) ?_
  intro v4 T4 h4 X4 q4
  obtain ⟨rfl, rfl⟩ := q4
  show OFin _ _ _ _ _ _ T4 (mkF m 48 #[.val (.ref a1), .val (.ref ca), .val (.int (0 : Int32)), .val (.int (Int32.ofNat N)), .val .null, .val (.ref t)] [(.int (0 : Int32)), (.ref a1)])
  have ta : t ≠ a1 := Nat.ne_of_gt (Nat.lt_of_lt_of_le E.lt lt3)
  refine X4.putF (hw _ (List.mem_of_getElem? (i := 29) rfl)) (F2.keep K3 nin0) (E.keep K3) (Or.inr ⟨(hw _ (List.mem_of_getElem? (i := 25) rfl)), rfl, rfl⟩) (hw _ (List.mem_of_getElem? (i := 9) rfl)) (ty := .byte) (by decide) rfl rfl hn (g := (mkF m 48 #[.val (.ref a1), .val (.ref ca), .val (.int (0 : Int32)), .val (.int (Int32.ofNat N)), .val .null, .val (.ref t)] [(.int (0 : Int32)), (.ref a1)])) rfl rfl d3_48 ?_
  intro T5 h5 X5 W5
  show OFin _ _ _ _ _ _ T5 (mkF m 51 #[.val (.ref a1), .val (.ref ca), .val (.int (0 : Int32)), .val (.int (Int32.ofNat N)), .val .null, .val (.ref t)] [])
  refine X5.step (fun hA hx hq t_ k_ => XS.aloadN hA hx rfl (hb hq d3_51) rfl rfl k_) ?_
  show OFin _ _ _ _ _ _ T5 (mkF m 52 #[.val (.ref a1), .val (.ref ca), .val (.int (0 : Int32)), .val (.int (Int32.ofNat N)), .val .null, .val (.ref t)] [(.ref a1)])
  refine X5.step (fun hA hx hq t_ k_ => XS.aload hA hx rfl (hb hq d3_52) rfl rfl k_) ?_
  show OFin _ _ _ _ _ _ T5 (mkF m 54 #[.val (.ref a1), .val (.ref ca), .val (.int (0 : Int32)), .val (.int (Int32.ofNat N)), .val .null, .val (.ref t)] [(.ref t), (.ref a1)])
  refine X5.putF (hw _ (List.mem_of_getElem? (i := 28) rfl)) ((F1.keep K3 nin0).other W5 (Or.inr sne)) ((E.keep K3).wr W5) (Or.inr ⟨(hw _ (List.mem_of_getElem? (i := 24) rfl)), rfl, rfl⟩) (hw _ (List.mem_of_getElem? (i := 9) rfl)) (ty := (.array .byte)) (by decide) rfl rfl hn (g := (mkF m 54 #[.val (.ref a1), .val (.ref ca), .val (.int (0 : Int32)), .val (.int (Int32.ofNat N)), .val .null, .val (.ref t)] [(.ref t), (.ref a1)])) rfl rfl d3_54 ?_
  intro T6 h6 X6 W6
  show OFin _ _ _ _ _ _ T6 (mkF m 57 #[.val (.ref a1), .val (.ref ca), .val (.int (0 : Int32)), .val (.int (Int32.ofNat N)), .val .null, .val (.ref t)] [])
  exact X6.retV d3_57 (oN (by decide) (by decide)) (⟨rfl, (((Keep.refl h0 [a1]).trans K3 all0).wr W5 (Or.inl (List.mem_of_getElem? (i := 0) rfl))).wr W6 (Or.inl (List.mem_of_getElem? (i := 0) rfl)), t, ⟨((E.keep K3).wr W5).wr W6, ((F2.keep K3 nin0).same W5).other W6 (Or.inr (Ne.symm sne)), ((F1.keep K3 nin0).other W5 (Or.inr sne)).same W6, (B3.other W5 ta).other W6 ta⟩, lt3⟩)
theorem d2_0 : decode jdk_42_method_3_code 0 = .ok (.aload_n 0, 1) := by decide +kernel
theorem d2_1 : decode jdk_42_method_3_code 1 = .ok (.aload_n 1, 1) := by decide +kernel
theorem d2_2 : decode jdk_42_method_3_code 2 = .ok (.iconst 0, 1) := by decide +kernel
theorem d2_3 : decode jdk_42_method_3_code 3 = .ok (.aload_n 1, 1) := by decide +kernel
theorem d2_4 : decode jdk_42_method_3_code 4 = .ok (.arraylength, 1) := by decide +kernel
theorem d2_5 : decode jdk_42_method_3_code 5 = .ok (.aconst_null, 1) := by decide +kernel
theorem d2_6 : decode jdk_42_method_3_code 6 = .ok (.invokespecial 27, 3) := by decide +kernel
theorem pd_pA_CIILjava_lang_Void_r_V : parseMethodDescriptor "([CIILjava/lang/Void;)V" = some ⟨[(.array .char), .int, .int, (.object "java/lang/Void")], none⟩ := by decide +kernel
theorem d2_9 : decode jdk_42_method_3_code 9 = .ok (.return_, 1) := by decide +kernel
set_option maxRecDepth 65536 in
set_option maxHeartbeats 40000000 in
theorem sm5 (l : Launch) (Z : State) (a0 : Array Value) (hw : ∀ d ∈ tables_1, d.before a0 Z = true) (a1 ca : Addr) (N : Nat) (f : Nat → Int32) (cs : Int32) (h0 : Heap) (n0 : Nat) (F1 : Fld Z h0 a1 "java/lang/String" "value" "[B" .null) (F2 : Fld Z h0 a1 "java/lang/String" "coder" "B" (.int 0)) (E : Exa Z h0 a1 "java/lang/String") (hn : n0 ≤ a1) (FC : OArr Z h0 ca .char N (fun j => .int (f j))) (hN0 : 0 < N) (hN : N ≤ 2) (hch : ∀ j, j < N → 0 ≤ (f j).toInt ∧ (f j).toInt ≤ 255) (Z0 : n0 ≤ h0.size) (SS : Sta Z h0 "java/lang/String" "COMPACT_STRINGS" "Z" (.int cs)) (hcs : ¬ cs = 0) :
    OMeets l Z (⟨"java/lang/String", "<init>", "([C)V"⟩ : MethodName) [] jdk_42_method_3_code 2 none ({ frames := 3, cells := 1, slots := 2, locals := 52 } : Room) #[(.ref a1), (.ref ca)] h0 n0 (fun v h => v = none ∧ Keep h0 h [a1] ∧ ∃ t, OStr Z h a1 t N f ∧ h0.size ≤ t) := by
  refine o_enter (Z := Z) (plainFor_of_name pn_java_lang_String) ?_
  intro p e s m below meth c T0 X0
  refine OFin.cast (g' := (mkF m 0 #[.val (.ref a1), .val (.ref ca)] [])) (by first | (simp [entryFrame, mkF, argsToLocals, Value.category]; done) | rfl) ?_
  obtain ⟨c1, A1, S1, H1⟩ := id FC
  refine X0.step (fun hA hx hq t_ k_ => XS.aloadN hA hx rfl (hb hq d2_0) rfl rfl k_) ?_
  show OFin _ _ _ _ _ _ T0 (mkF m 1 #[.val (.ref a1), .val (.ref ca)] [(.ref a1)])
  refine X0.step (fun hA hx hq t_ k_ => XS.aloadN hA hx rfl (hb hq d2_1) rfl rfl k_) ?_
  show OFin _ _ _ _ _ _ T0 (mkF m 2 #[.val (.ref a1), .val (.ref ca)] [(.ref ca), (.ref a1)])
  refine X0.step (fun hA hx hq t_ k_ => XS.iconst hA hx rfl (hb hq d2_2) k_) ?_
  show OFin _ _ _ _ _ _ T0 (mkF m 3 #[.val (.ref a1), .val (.ref ca)] [(.int (0 : Int32)), (.ref ca), (.ref a1)])
  refine X0.step (fun hA hx hq t_ k_ => XS.aloadN hA hx rfl (hb hq d2_3) rfl rfl k_) ?_
  show OFin _ _ _ _ _ _ T0 (mkF m 4 #[.val (.ref a1), .val (.ref ca)] [(.ref ca), (.int (0 : Int32)), (.ref ca), (.ref a1)])
  refine X0.alen A1 (n := (Int32.ofNat N)) (by rw [S1]) (g := (mkF m 4 #[.val (.ref a1), .val (.ref ca)] [(.ref ca), (.int (0 : Int32)), (.ref ca), (.ref a1)])) rfl rfl d2_4 ?_
  show OFin _ _ _ _ _ _ T0 (mkF m 5 #[.val (.ref a1), .val (.ref ca)] [(.int (Int32.ofNat N)), (.int (0 : Int32)), (.ref ca), (.ref a1)])
  refine X0.step (fun hA hx hq t_ k_ => XS.aconstNull hA hx rfl (hb hq d2_5) k_) ?_
  show OFin _ _ _ _ _ _ T0 (mkF m 6 #[.val (.ref a1), .val (.ref ca)] [.null, (.int (Int32.ofNat N)), (.int (0 : Int32)), (.ref ca), (.ref a1)])
  refine X0.callI (y' := (⟨"java/lang/String", "<init>", "([CIILjava/lang/Void;)V"⟩ : MethodName)) rfl (hw _ (List.mem_of_getElem? (i := 15) rfl)) (hw _ (List.mem_of_getElem? (i := 16) rfl)) (hw _ (List.mem_of_getElem? (i := 10) rfl)) (hw _ (List.mem_of_getElem? (i := 18) rfl)) (by decide) (a := a1) (argsL := [(.ref ca), (.int (0 : Int32)), (.int (Int32.ofNat N)), .null]) (rest := []) (sm4 l Z a0 hw a1 ca N f cs h0 n0 F1 F2 E hn FC hN0 hN hch Z0 SS hcs) (g := (mkF m 6 #[.val (.ref a1), .val (.ref ca)] [.null, (.int (Int32.ofNat N)), (.int (0 : Int32)), (.ref ca), (.ref a1)])) rfl rfl pd_pA_CIILjava_lang_Void_r_V rfl rfl (W := 0) (by show 2 * 0 + _ ≤ _; exact Nat.le_of_eq rfl) d2_6 (by decide) (by decide) (by decide) (by decide) ?_
  intro v1 T1 h1 X1 q1
  obtain ⟨rfl, K1, t, S1, lt1⟩ := q1
  show OFin _ _ _ _ _ _ T1 (mkF m 9 #[.val (.ref a1), .val (.ref ca)] [])
  exact X1.retV d2_9 (oN (by decide) (by decide)) (⟨rfl, K1, t, S1, lt1⟩)
theorem d3_8 : decode jdk_42_method_149_code 8 = .ok (.aload_n 0, 1) := by decide +kernel
theorem d3_9 : decode jdk_42_method_149_code 9 = .ok (.ldc 7, 2) := by decide +kernel
theorem d3_11 : decode jdk_42_method_149_code 11 = .ok (.getfield 9, 3) := by decide +kernel
theorem d3_14 : decode jdk_42_method_149_code 14 = .ok (.putfield 9, 3) := by decide +kernel
theorem d3_17 : decode jdk_42_method_149_code 17 = .ok (.aload_n 0, 1) := by decide +kernel
theorem d3_18 : decode jdk_42_method_149_code 18 = .ok (.ldc 7, 2) := by decide +kernel
theorem d3_20 : decode jdk_42_method_149_code 20 = .ok (.getfield 15, 3) := by decide +kernel
theorem d3_23 : decode jdk_42_method_149_code 23 = .ok (.putfield 15, 3) := by decide +kernel
theorem d3_26 : decode jdk_42_method_149_code 26 = .ok (.return_, 1) := by decide +kernel
set_option maxRecDepth 65536 in
set_option maxHeartbeats 40000000 in
theorem sm4e (l : Launch) (Z : State) (a0 : Array Value) (hw : ∀ d ∈ tables_1, d.before a0 Z = true) (a1 ca : Addr) (f : Nat → Int32) (h0 : Heap) (n0 : Nat) (F1 : Fld Z h0 a1 "java/lang/String" "value" "[B" .null) (F2 : Fld Z h0 a1 "java/lang/String" "coder" "B" (.int 0)) (E : Exa Z h0 a1 "java/lang/String") (hn : n0 ≤ a1) :
    OMeetsW l Z own_EL (⟨"java/lang/String", "<init>", "([CIILjava/lang/Void;)V"⟩ : MethodName) [] jdk_42_method_149_code 6 none ({ frames := 1, cells := 4, slots := 8, locals := 12 } : Room) #[(.ref a1), (.ref ca), (.int (0 : Int32)), (.int (0 : Int32)), .null] h0 n0 (fun v h => v = none ∧ Keep h0 h [a1] ∧ ∃ t, OStr Z h a1 t 0 f) := by
  refine o_enterW (Z := Z) (own_EW hw) (plainFor_of_name pn_java_lang_String) ?_
  intro p e s m below meth c T0 X0 B0
  refine OFin.cast (g' := (mkF m 0 #[.val (.ref a1), .val (.ref ca), .val (.int (0 : Int32)), .val (.int (0 : Int32)), .val .null, .unset] [])) (by first | (simp [entryFrame, mkF, argsToLocals, Value.category]; done) | rfl) ?_
  have sne := (slot_ne (Or.inr (hw _ (List.mem_of_getElem? (i := 24) rfl))) (Or.inr (hw _ (List.mem_of_getElem? (i := 25) rfl))) (by decide) (t := (.array .byte)) (t' := .byte) (by decide) (by decide))
  refine X0.step (fun hA hx hq t_ k_ => XS.aloadN hA hx rfl (hb hq d3_0) rfl rfl k_) ?_
  show OFin _ _ _ _ _ _ T0 (mkF m 1 #[.val (.ref a1), .val (.ref ca), .val (.int (0 : Int32)), .val (.int (0 : Int32)), .val .null, .unset] [(.ref a1)])
  refine X0.initO (hw _ (List.mem_of_getElem? (i := 19) rfl)) (hw _ (List.mem_of_getElem? (i := 20) rfl)) (hw _ (List.mem_of_getElem? (i := 21) rfl)) (g := (mkF m 1 #[.val (.ref a1), .val (.ref ca), .val (.int (0 : Int32)), .val (.int (0 : Int32)), .val .null, .unset] [(.ref a1)])) rfl rfl rfl d3_1 (by decide) (W := 0) (by show 2 * 0 + _ ≤ _; exact Nat.le_of_eq rfl) (by decide) ?_
  intro T1 X1
  show OFin _ _ _ _ _ _ T1 (mkF m 4 #[.val (.ref a1), .val (.ref ca), .val (.int (0 : Int32)), .val (.int (0 : Int32)), .val .null, .unset] [])
  refine X1.step (fun hA hx hq t_ k_ => XS.iloadN hA hx rfl (hb hq d3_4) rfl k_) ?_
  show OFin _ _ _ _ _ _ T1 (mkF m 5 #[.val (.ref a1), .val (.ref ca), .val (.int (0 : Int32)), .val (.int (0 : Int32)), .val .null, .unset] [(.int (0 : Int32))])
  refine X1.step (fun hA hx hq t_ k_ => XS.ifNo hA hx rfl (hb hq d3_5) rfl ((if0 _ _).trans (teq ((rfl : (0 : Int32) = (0 : Int32)))).2) k_) ?_
  show OFin _ _ _ _ _ _ T1 (mkF m 8 #[.val (.ref a1), .val (.ref ca), .val (.int (0 : Int32)), .val (.int (0 : Int32)), .val .null, .unset] [])
  refine X1.step (fun hA hx hq t_ k_ => XS.aloadN hA hx rfl (hb hq d3_8) rfl rfl k_) ?_
  show OFin _ _ _ _ _ _ T1 (mkF m 9 #[.val (.ref a1), .val (.ref ca), .val (.int (0 : Int32)), .val (.int (0 : Int32)), .val .null, .unset] [(.ref a1)])
  refine X1.ldcC B0 (hw _ (List.mem_of_getElem? (i := 22) rfl)) (own_wS hw) (by decide) (vs := []) (z := 0) ⟨by decide, rfl⟩ (by decide) (by decide) (g := (mkF m 9 #[.val (.ref a1), .val (.ref ca), .val (.int (0 : Int32)), .val (.int (0 : Int32)), .val .null, .unset] [(.ref a1)])) rfl d3_9 (n := 0) (by decide) (by decide) (by decide) (by decide) ?_
  intro b2 t2 cA2 T2 h2 vm2 X2 B2 E2 Sf2 A2 Fc2 Fv2 V2 Ne2
  show OFin _ _ _ _ _ _ T2 (mkF m 11 #[.val (.ref a1), .val (.ref ca), .val (.int (0 : Int32)), .val (.int (0 : Int32)), .val .null, .unset] [(.ref b2), (.ref a1)])
  have S1 := own_safeNull (EL := own_EL) X2.1.2.1.alike (E.ext E2) (F1.ext E2)
  have na := Ne2 a1 S1
  refine X2.getF (hw _ (List.mem_of_getElem? (i := 28) rfl)) Fv2 (g := (mkF m 11 #[.val (.ref a1), .val (.ref ca), .val (.int (0 : Int32)), .val (.int (0 : Int32)), .val .null, .unset] [(.ref b2), (.ref a1)])) rfl rfl d3_11 ?_
  intro T3 X3
  show OFin _ _ _ _ _ _ T3 (mkF m 14 #[.val (.ref a1), .val (.ref ca), .val (.int (0 : Int32)), .val (.int (0 : Int32)), .val .null, .unset] [(.ref t2), (.ref a1)])
  refine X3.putF (hw _ (List.mem_of_getElem? (i := 28) rfl)) (F1.ext E2) (E.ext E2) (Or.inr ⟨(hw _ (List.mem_of_getElem? (i := 24) rfl)), rfl, rfl⟩) (hw _ (List.mem_of_getElem? (i := 9) rfl)) (ty := (.array .byte)) (by decide) rfl rfl hn (g := (mkF m 14 #[.val (.ref a1), .val (.ref ca), .val (.int (0 : Int32)), .val (.int (0 : Int32)), .val .null, .unset] [(.ref t2), (.ref a1)])) rfl rfl d3_14 ?_
  intro T4 h4 X4 W4
  have B5 := B2.wr W4 S1
  show OFin _ _ _ _ _ _ T4 (mkF m 17 #[.val (.ref a1), .val (.ref ca), .val (.int (0 : Int32)), .val (.int (0 : Int32)), .val .null, .unset] [])
  have S2 := Safe.wr W4 S1 B2.hv S1
  refine X4.step (fun hA hx hq t_ k_ => XS.aloadN hA hx rfl (hb hq d3_17) rfl rfl k_) ?_
  show OFin _ _ _ _ _ _ T4 (mkF m 18 #[.val (.ref a1), .val (.ref ca), .val (.int (0 : Int32)), .val (.int (0 : Int32)), .val .null, .unset] [(.ref a1)])
  refine X4.ldcC B5 (hw _ (List.mem_of_getElem? (i := 22) rfl)) (own_wS hw) (by decide) (vs := []) (z := 0) ⟨by decide, rfl⟩ (by decide) (by decide) (g := (mkF m 18 #[.val (.ref a1), .val (.ref ca), .val (.int (0 : Int32)), .val (.int (0 : Int32)), .val .null, .unset] [(.ref a1)])) rfl d3_18 (n := 0) (by decide) (by decide) (by decide) (by decide) ?_
  intro b6 t6 cA6 T6 h6 vm6 X6 B6 E6 Sf6 A6 Fc6 Fv6 V6 Ne6
  show OFin _ _ _ _ _ _ T6 (mkF m 20 #[.val (.ref a1), .val (.ref ca), .val (.int (0 : Int32)), .val (.int (0 : Int32)), .val .null, .unset] [(.ref b6), (.ref a1)])
  have S3 := Sf6 a1 ((E.ext E2).wr W4).lt S2
  refine X6.getF (hw _ (List.mem_of_getElem? (i := 29) rfl)) Fc6 (g := (mkF m 20 #[.val (.ref a1), .val (.ref ca), .val (.int (0 : Int32)), .val (.int (0 : Int32)), .val .null, .unset] [(.ref b6), (.ref a1)])) rfl rfl d3_20 ?_
  intro T7 X7
  show OFin _ _ _ _ _ _ T7 (mkF m 23 #[.val (.ref a1), .val (.ref ca), .val (.int (0 : Int32)), .val (.int (0 : Int32)), .val .null, .unset] [(.int (0 : Int32)), (.ref a1)])
  refine X7.putF (hw _ (List.mem_of_getElem? (i := 29) rfl)) (((F2.ext E2).other W4 (Or.inr (Ne.symm sne))).ext E6) (((E.ext E2).wr W4).ext E6) (Or.inr ⟨(hw _ (List.mem_of_getElem? (i := 25) rfl)), rfl, rfl⟩) (hw _ (List.mem_of_getElem? (i := 9) rfl)) (ty := .byte) (by decide) rfl rfl hn (g := (mkF m 23 #[.val (.ref a1), .val (.ref ca), .val (.int (0 : Int32)), .val (.int (0 : Int32)), .val .null, .unset] [(.int (0 : Int32)), (.ref a1)])) rfl rfl d3_23 ?_
  intro T8 h8 X8 W8
  have B9 := B6.wr W8 S3
  show OFin _ _ _ _ _ _ T8 (mkF m 26 #[.val (.ref a1), .val (.ref ca), .val (.int (0 : Int32)), .val (.int (0 : Int32)), .val .null, .unset] [])
  exact X8.retV d3_26 (oW X8 B9 (by decide) (by decide)) (⟨rfl, ((((Keep.refl h0 [a1]).ext E2).wr W4 (Or.inl (List.mem_of_getElem? (i := 0) rfl))).ext E6).wr W8 (Or.inl (List.mem_of_getElem? (i := 0) rfl)), t2, (((E.ext E2).wr W4).ext E6).wr W8, (((F2.ext E2).other W4 (Or.inr (Ne.symm sne))).ext E6).same W8, (((F1.ext E2).same W4).ext E6).other W8 (Or.inr sne), (((OArr.nil V2).other W4 (Ne.symm na.2)).ext E6).other W8 (Ne.symm na.2)⟩)
set_option maxRecDepth 65536 in
set_option maxHeartbeats 40000000 in
theorem sm5e (l : Launch) (Z : State) (a0 : Array Value) (hw : ∀ d ∈ tables_1, d.before a0 Z = true) (a1 ca : Addr) (f : Nat → Int32) (g_ : Nat → Value) (h0 : Heap) (n0 : Nat) (F1 : Fld Z h0 a1 "java/lang/String" "value" "[B" .null) (F2 : Fld Z h0 a1 "java/lang/String" "coder" "B" (.int 0)) (E : Exa Z h0 a1 "java/lang/String") (hn : n0 ≤ a1) (FC : OArr Z h0 ca .char 0 g_) :
    OMeetsW l Z own_EL (⟨"java/lang/String", "<init>", "([C)V"⟩ : MethodName) [] jdk_42_method_3_code 2 none ({ frames := 2, cells := 4, slots := 8, locals := 29 } : Room) #[(.ref a1), (.ref ca)] h0 n0 (fun v h => v = none ∧ Keep h0 h [a1] ∧ ∃ t, OStr Z h a1 t 0 f) := by
  refine o_enterW (Z := Z) (own_EW hw) (plainFor_of_name pn_java_lang_String) ?_
  intro p e s m below meth c T0 X0 B0
  refine OFin.cast (g' := (mkF m 0 #[.val (.ref a1), .val (.ref ca)] [])) (by first | (simp [entryFrame, mkF, argsToLocals, Value.category]; done) | rfl) ?_
  obtain ⟨c1, A1, S1, H1⟩ := id FC
  refine X0.step (fun hA hx hq t_ k_ => XS.aloadN hA hx rfl (hb hq d2_0) rfl rfl k_) ?_
  show OFin _ _ _ _ _ _ T0 (mkF m 1 #[.val (.ref a1), .val (.ref ca)] [(.ref a1)])
  refine X0.step (fun hA hx hq t_ k_ => XS.aloadN hA hx rfl (hb hq d2_1) rfl rfl k_) ?_
  show OFin _ _ _ _ _ _ T0 (mkF m 2 #[.val (.ref a1), .val (.ref ca)] [(.ref ca), (.ref a1)])
  refine X0.step (fun hA hx hq t_ k_ => XS.iconst hA hx rfl (hb hq d2_2) k_) ?_
  show OFin _ _ _ _ _ _ T0 (mkF m 3 #[.val (.ref a1), .val (.ref ca)] [(.int (0 : Int32)), (.ref ca), (.ref a1)])
  refine X0.step (fun hA hx hq t_ k_ => XS.aloadN hA hx rfl (hb hq d2_3) rfl rfl k_) ?_
  show OFin _ _ _ _ _ _ T0 (mkF m 4 #[.val (.ref a1), .val (.ref ca)] [(.ref ca), (.int (0 : Int32)), (.ref ca), (.ref a1)])
  refine X0.alen A1 (n := (0 : Int32)) (by rw [S1]; rfl) (g := (mkF m 4 #[.val (.ref a1), .val (.ref ca)] [(.ref ca), (.int (0 : Int32)), (.ref ca), (.ref a1)])) rfl rfl d2_4 ?_
  show OFin _ _ _ _ _ _ T0 (mkF m 5 #[.val (.ref a1), .val (.ref ca)] [(.int (0 : Int32)), (.int (0 : Int32)), (.ref ca), (.ref a1)])
  refine X0.step (fun hA hx hq t_ k_ => XS.aconstNull hA hx rfl (hb hq d2_5) k_) ?_
  show OFin _ _ _ _ _ _ T0 (mkF m 6 #[.val (.ref a1), .val (.ref ca)] [.null, (.int (0 : Int32)), (.int (0 : Int32)), (.ref ca), (.ref a1)])
  refine X0.callIW B0 (y' := (⟨"java/lang/String", "<init>", "([CIILjava/lang/Void;)V"⟩ : MethodName)) rfl (hw _ (List.mem_of_getElem? (i := 15) rfl)) (hw _ (List.mem_of_getElem? (i := 16) rfl)) (hw _ (List.mem_of_getElem? (i := 10) rfl)) (hw _ (List.mem_of_getElem? (i := 18) rfl)) (by decide) (a := a1) (argsL := [(.ref ca), (.int (0 : Int32)), (.int (0 : Int32)), .null]) (rest := []) (sm4e l Z a0 hw a1 ca f h0 n0 F1 F2 E hn) (g := (mkF m 6 #[.val (.ref a1), .val (.ref ca)] [.null, (.int (0 : Int32)), (.int (0 : Int32)), (.ref ca), (.ref a1)])) rfl rfl pd_pA_CIILjava_lang_Void_r_V rfl rfl (W := 0) (by show 2 * 0 + _ ≤ _; exact Nat.le_of_eq rfl) d2_6 (by decide) (by decide) (by decide) (by decide) ?_
  intro v1 T1 h1 vm1 X1 B1 G1 Sf1 q1
  obtain ⟨rfl, K1, t, S1⟩ := q1
  show OFin _ _ _ _ _ _ T1 (mkF m 9 #[.val (.ref a1), .val (.ref ca)] [])
  exact X1.retV d2_9 (oW X1 B1 (by decide) (by decide)) (⟨rfl, K1, t, S1⟩)
theorem d10_0 : decode jdk_42_method_66_code 0 = .ok (.aload_n 0, 1) := by decide +kernel
theorem d10_1 : decode jdk_42_method_66_code 1 = .ok (.aload_n 1, 1) := by decide +kernel
theorem d10_2 : decode jdk_42_method_66_code 2 = .ok (.if_acmp .ne 5, 3) := by decide +kernel
theorem d10_5 : decode jdk_42_method_66_code 5 = .ok (.iconst 1, 1) := by decide +kernel
theorem d10_6 : decode jdk_42_method_66_code 6 = .ok (.ireturn, 1) := by decide +kernel
set_option maxRecDepth 65536 in
set_option maxHeartbeats 40000000 in
theorem se1 (l : Launch) (Z : State) (a0 : Array Value) (hw : ∀ d ∈ tables_1, d.before a0 Z = true) (a1 : Addr) (h0 : Heap) (n0 : Nat)  :
    OMeets l Z (⟨"java/lang/String", "equals", "(Ljava/lang/Object;)Z"⟩ : MethodName) [] jdk_42_method_66_code 3 (some .boolean) ({ frames := 0, cells := 0, slots := 0, locals := 0 } : Room) #[(.ref a1), (.ref a1)] h0 n0 (fun v h => v = some (.int 1) ∧ h0 = h) := by
  refine o_enter (Z := Z) (plainFor_of_name pn_java_lang_String) ?_
  intro p e s m below meth c T0 X0
  refine OFin.cast (g' := (mkF m 0 #[.val (.ref a1), .val (.ref a1), .unset] [])) (by first | (simp [entryFrame, mkF, argsToLocals, Value.category]; done) | rfl) ?_
  refine X0.step (fun hA hx hq t_ k_ => XS.aloadN hA hx rfl (hb hq d10_0) rfl rfl k_) ?_
  show OFin _ _ _ _ _ _ T0 (mkF m 1 #[.val (.ref a1), .val (.ref a1), .unset] [(.ref a1)])
  refine X0.step (fun hA hx hq t_ k_ => XS.aloadN hA hx rfl (hb hq d10_1) rfl rfl k_) ?_
  show OFin _ _ _ _ _ _ T0 (mkF m 2 #[.val (.ref a1), .val (.ref a1), .unset] [(.ref a1), (.ref a1)])
  refine X0.acmp (g := (mkF m 2 #[.val (.ref a1), .val (.ref a1), .unset] [(.ref a1), (.ref a1)])) rfl rfl rfl (pc0 := 2) (pc' := 5) (same := true) rfl d10_2 rfl (decide_eq_true rfl) (by decide) (by decide) ?_
  show OFin _ _ _ _ _ _ T0 (mkF m 5 #[.val (.ref a1), .val (.ref a1), .unset] [])
  refine X0.step (fun hA hx hq t_ k_ => XS.iconst hA hx rfl (hb hq d10_5) k_) ?_
  show OFin _ _ _ _ _ _ T0 (mkF m 6 #[.val (.ref a1), .val (.ref a1), .unset] [(.int (1 : Int32))])
  exact X0.retN (by simp) d10_6 (oN (by decide) (by decide)) (⟨rfl, rfl⟩)
theorem pn_java_lang_StringLatin1 : plainName "java/lang/StringLatin1" = true := by first | (simp [plainName, overriddenIn]; done) | decide +kernel
theorem d11_0 : decode jdk_43_method_13_code 0 = .ok (.aload_n 0, 1) := by decide +kernel
theorem d11_1 : decode jdk_43_method_13_code 1 = .ok (.arraylength, 1) := by decide +kernel
theorem d11_2 : decode jdk_43_method_13_code 2 = .ok (.aload_n 1, 1) := by decide +kernel
theorem d11_3 : decode jdk_43_method_13_code 3 = .ok (.arraylength, 1) := by decide +kernel
theorem d11_4 : decode jdk_43_method_13_code 4 = .ok (.if_icmp .ne 30, 3) := by decide +kernel
theorem d11_34 : decode jdk_43_method_13_code 34 = .ok (.iconst 0, 1) := by decide +kernel
theorem d11_35 : decode jdk_43_method_13_code 35 = .ok (.ireturn, 1) := by decide +kernel
theorem d11_7 : decode jdk_43_method_13_code 7 = .ok (.iconst 0, 1) := by decide +kernel
theorem d11_8 : decode jdk_43_method_13_code 8 = .ok (.istore_n 2, 1) := by decide +kernel
theorem d11_9 : decode jdk_43_method_13_code 9 = .ok (.iload_n 2, 1) := by decide +kernel
theorem d11_10 : decode jdk_43_method_13_code 10 = .ok (.aload_n 0, 1) := by decide +kernel
theorem d11_11 : decode jdk_43_method_13_code 11 = .ok (.arraylength, 1) := by decide +kernel
theorem d11_12 : decode jdk_43_method_13_code 12 = .ok (.if_icmp .ge 20, 3) := by decide +kernel
theorem d11_32 : decode jdk_43_method_13_code 32 = .ok (.iconst 1, 1) := by decide +kernel
theorem d11_33 : decode jdk_43_method_13_code 33 = .ok (.ireturn, 1) := by decide +kernel
theorem d11_15 : decode jdk_43_method_13_code 15 = .ok (.aload_n 0, 1) := by decide +kernel
theorem d11_16 : decode jdk_43_method_13_code 16 = .ok (.iload_n 2, 1) := by decide +kernel
theorem d11_17 : decode jdk_43_method_13_code 17 = .ok (.baload, 1) := by decide +kernel
theorem d11_18 : decode jdk_43_method_13_code 18 = .ok (.aload_n 1, 1) := by decide +kernel
theorem d11_19 : decode jdk_43_method_13_code 19 = .ok (.iload_n 2, 1) := by decide +kernel
theorem d11_20 : decode jdk_43_method_13_code 20 = .ok (.baload, 1) := by decide +kernel
theorem d11_21 : decode jdk_43_method_13_code 21 = .ok (.if_icmp .eq 5, 3) := by decide +kernel
theorem d11_26 : decode jdk_43_method_13_code 26 = .ok (.iinc 2 1, 3) := by decide +kernel
theorem d11_29 : decode jdk_43_method_13_code 29 = .ok (.goto (-20), 3) := by decide +kernel
theorem d11_24 : decode jdk_43_method_13_code 24 = .ok (.iconst 0, 1) := by decide +kernel
theorem d11_25 : decode jdk_43_method_13_code 25 = .ok (.ireturn, 1) := by decide +kernel
set_option maxRecDepth 65536 in
set_option maxHeartbeats 40000000 in
theorem sq1 (l : Launch) (Z : State) (a0 : Array Value) (hw : ∀ d ∈ tables_1, d.before a0 Z = true) (t1 t2 : Addr) (N1 N2 : Nat) (u1 u2 : Nat → Int32) (h0 : Heap) (n0 : Nat) (F1 : OArr Z h0 t1 .byte N1 (fun j => .int (u1 j))) (F2 : OArr Z h0 t2 .byte N2 (fun j => .int (u2 j))) (hN1 : N1 ≤ 4000) (hN2 : N2 ≤ 4000) :
    OMeets l Z (⟨"java/lang/StringLatin1", "equals", "([B[B)Z"⟩ : MethodName) [] jdk_43_method_13_code 3 (some .boolean) ({ frames := 0, cells := 0, slots := 0, locals := 0 } : Room) #[(.ref t1), (.ref t2)] h0 n0 (fun v h => h0 = h ∧ ∃ g, v = some (.int g) ∧ own_tv g (N1 = N2 ∧ ∀ j, j < N1 → u1 j = u2 j)) := by
  refine o_enter (Z := Z) (plainFor_of_name pn_java_lang_StringLatin1) ?_
  intro p e s m below meth c T0 X0
  refine OFin.cast (g' := (mkF m 0 #[.val (.ref t1), .val (.ref t2), .unset] [])) (by first | (simp [entryFrame, mkF, argsToLocals, Value.category]; done) | rfl) ?_
  obtain ⟨c1, A1, S1, H1⟩ := id F1
  obtain ⟨c2, A2, S2, H2⟩ := id F2
  refine X0.step (fun hA hx hq t_ k_ => XS.aloadN hA hx rfl (hb hq d11_0) rfl rfl k_) ?_
  show OFin _ _ _ _ _ _ T0 (mkF m 1 #[.val (.ref t1), .val (.ref t2), .unset] [(.ref t1)])
  refine X0.alen A1 (n := (Int32.ofNat N1)) (by rw [S1]) (g := (mkF m 1 #[.val (.ref t1), .val (.ref t2), .unset] [(.ref t1)])) rfl rfl d11_1 ?_
  show OFin _ _ _ _ _ _ T0 (mkF m 2 #[.val (.ref t1), .val (.ref t2), .unset] [(.int (Int32.ofNat N1))])
  refine X0.step (fun hA hx hq t_ k_ => XS.aloadN hA hx rfl (hb hq d11_2) rfl rfl k_) ?_
  show OFin _ _ _ _ _ _ T0 (mkF m 3 #[.val (.ref t1), .val (.ref t2), .unset] [(.ref t2), (.int (Int32.ofNat N1))])
  refine X0.alen A2 (n := (Int32.ofNat N2)) (by rw [S2]) (g := (mkF m 3 #[.val (.ref t1), .val (.ref t2), .unset] [(.ref t2), (.int (Int32.ofNat N1))])) rfl rfl d11_3 ?_
  show OFin _ _ _ _ _ _ T0 (mkF m 4 #[.val (.ref t1), .val (.ref t2), .unset] [(.int (Int32.ofNat N2)), (.int (Int32.ofNat N1))])
  by_cases c : (Int32.ofNat N1) = (Int32.ofNat N2)
  · refine X0.step (fun hA hx hq t_ k_ => XS.icmpNo hA hx rfl (hb hq d11_4) rfl (teq (c)).2 k_) ?_
    show OFin _ _ _ _ _ _ T0 (mkF m 7 #[.val (.ref t1), .val (.ref t2), .unset] [])
    have e := (own_eq32 N1 N2 (by omega) (by omega)).mp c
    subst e
    refine X0.step (fun hA hx hq t_ k_ => XS.iconst hA hx rfl (hb hq d11_7) k_) ?_
    show OFin _ _ _ _ _ _ T0 (mkF m 8 #[.val (.ref t1), .val (.ref t2), .unset] [(.int (0 : Int32))])
    refine X0.step (fun hA hx hq t_ k_ => XS.istoreN hA hx rfl (hb hq d11_8) rfl (l' := #[.val (.ref t1), .val (.ref t2), .val (.int (0 : Int32))]) rfl k_) ?_
    show OFin _ _ _ _ _ _ T0 (mkF m 9 #[.val (.ref t1), .val (.ref t2), .val (.int (0 : Int32))] [])
    have loop : ∀ (k i : Nat), i + k = N1 → (∀ j, j < i → u1 j = u2 j) → OFin n0 p e (fun o t L => FrameEnd s o t L ({ frames := 0, cells := 0, slots := 0, locals := 0 } : Room).cells ({ frames := 0, cells := 0, slots := 0, locals := 0 } : Room).slots) below (fun v h => h0 = h ∧ ∃ g, v = some (.int g) ∧ own_tv g (N1 = N1 ∧ ∀ j, j < N1 → u1 j = u2 j)) T0 (mkF m 9 #[.val (.ref t1), .val (.ref t2), .val (.int (Int32.ofNat i))] []) := by
      intro k
      induction k with
      | zero =>
        intro i hik hj
        have hiN : i = N1 := by omega
        refine X0.step (fun hA hx hq t_ k_ => XS.iloadN hA hx rfl (hb hq d11_9) rfl k_) ?_
        show OFin _ _ _ _ _ _ T0 (mkF m 10 #[.val (.ref t1), .val (.ref t2), .val (.int (Int32.ofNat i))] [(.int (Int32.ofNat i))])
        refine X0.step (fun hA hx hq t_ k_ => XS.aloadN hA hx rfl (hb hq d11_10) rfl rfl k_) ?_
        show OFin _ _ _ _ _ _ T0 (mkF m 11 #[.val (.ref t1), .val (.ref t2), .val (.int (Int32.ofNat i))] [(.ref t1), (.int (Int32.ofNat i))])
        refine X0.alen A1 (n := (Int32.ofNat N1)) (by rw [S1]) (g := (mkF m 11 #[.val (.ref t1), .val (.ref t2), .val (.int (Int32.ofNat i))] [(.ref t1), (.int (Int32.ofNat i))])) rfl rfl d11_11 ?_
        show OFin _ _ _ _ _ _ T0 (mkF m 12 #[.val (.ref t1), .val (.ref t2), .val (.int (Int32.ofNat i))] [(.int (Int32.ofNat N1)), (.int (Int32.ofNat i))])
        refine X0.step (fun hA hx hq t_ k_ => XS.icmpYes hA hx rfl (pc0 := 12) (pc' := 32) rfl (hb hq d11_12) rfl (flt (fun c => by rw [own_lt32 i N1 (by omega) (by omega)] at c; omega)).2.1 (by decide) (by decide) k_) ?_
        show OFin _ _ _ _ _ _ T0 (mkF m 32 #[.val (.ref t1), .val (.ref t2), .val (.int (Int32.ofNat i))] [])
        refine X0.step (fun hA hx hq t_ k_ => XS.iconst hA hx rfl (hb hq d11_32) k_) ?_
        show OFin _ _ _ _ _ _ T0 (mkF m 33 #[.val (.ref t1), .val (.ref t2), .val (.int (Int32.ofNat i))] [(.int (1 : Int32))])
        exact X0.retN (by simp) d11_33 (oN (by decide) (by decide)) (⟨rfl, 1, rfl, Or.inl ⟨rfl, rfl, fun j h => hj j (by omega)⟩⟩)
      | succ k ih =>
        intro i hik hj
        have hlt : i < N1 := by omega
        refine X0.step (fun hA hx hq t_ k_ => XS.iloadN hA hx rfl (hb hq d11_9) rfl k_) ?_
        show OFin _ _ _ _ _ _ T0 (mkF m 10 #[.val (.ref t1), .val (.ref t2), .val (.int (Int32.ofNat i))] [(.int (Int32.ofNat i))])
        refine X0.step (fun hA hx hq t_ k_ => XS.aloadN hA hx rfl (hb hq d11_10) rfl rfl k_) ?_
        show OFin _ _ _ _ _ _ T0 (mkF m 11 #[.val (.ref t1), .val (.ref t2), .val (.int (Int32.ofNat i))] [(.ref t1), (.int (Int32.ofNat i))])
        refine X0.alen A1 (n := (Int32.ofNat N1)) (by rw [S1]) (g := (mkF m 11 #[.val (.ref t1), .val (.ref t2), .val (.int (Int32.ofNat i))] [(.ref t1), (.int (Int32.ofNat i))])) rfl rfl d11_11 ?_
        show OFin _ _ _ _ _ _ T0 (mkF m 12 #[.val (.ref t1), .val (.ref t2), .val (.int (Int32.ofNat i))] [(.int (Int32.ofNat N1)), (.int (Int32.ofNat i))])
        refine X0.step (fun hA hx hq t_ k_ => XS.icmpNo hA hx rfl (hb hq d11_12) rfl (tlt ((own_lt32 i N1 (by omega) (by omega)).mpr hlt)).2.1 k_) ?_
        show OFin _ _ _ _ _ _ T0 (mkF m 15 #[.val (.ref t1), .val (.ref t2), .val (.int (Int32.ofNat i))] [])
        refine X0.step (fun hA hx hq t_ k_ => XS.aloadN hA hx rfl (hb hq d11_15) rfl rfl k_) ?_
        show OFin _ _ _ _ _ _ T0 (mkF m 16 #[.val (.ref t1), .val (.ref t2), .val (.int (Int32.ofNat i))] [(.ref t1)])
        refine X0.step (fun hA hx hq t_ k_ => XS.iloadN hA hx rfl (hb hq d11_16) rfl k_) ?_
        show OFin _ _ _ _ _ _ T0 (mkF m 17 #[.val (.ref t1), .val (.ref t2), .val (.int (Int32.ofNat i))] [(.int (Int32.ofNat i)), (.ref t1)])
        refine X0.aload0 A1 (v := (.int (u1 i))) (own_inN S1 hlt (by omega)) (by rw [own_iN i (by omega)]; exact H1 i hlt) (g := (mkF m 17 #[.val (.ref t1), .val (.ref t2), .val (.int (Int32.ofNat i))] [(.int (Int32.ofNat i)), (.ref t1)])) rfl rfl (Or.inr (Or.inr (Or.inr (Or.inl ⟨rfl, rfl⟩)))) d11_17 ?_
        show OFin _ _ _ _ _ _ T0 (mkF m 18 #[.val (.ref t1), .val (.ref t2), .val (.int (Int32.ofNat i))] [(.int (u1 i))])
        refine X0.step (fun hA hx hq t_ k_ => XS.aloadN hA hx rfl (hb hq d11_18) rfl rfl k_) ?_
        show OFin _ _ _ _ _ _ T0 (mkF m 19 #[.val (.ref t1), .val (.ref t2), .val (.int (Int32.ofNat i))] [(.ref t2), (.int (u1 i))])
        refine X0.step (fun hA hx hq t_ k_ => XS.iloadN hA hx rfl (hb hq d11_19) rfl k_) ?_
        show OFin _ _ _ _ _ _ T0 (mkF m 20 #[.val (.ref t1), .val (.ref t2), .val (.int (Int32.ofNat i))] [(.int (Int32.ofNat i)), (.ref t2), (.int (u1 i))])
        refine X0.aload0 A2 (v := (.int (u2 i))) (own_inN S2 hlt (by omega)) (by rw [own_iN i (by omega)]; exact H2 i hlt) (g := (mkF m 20 #[.val (.ref t1), .val (.ref t2), .val (.int (Int32.ofNat i))] [(.int (Int32.ofNat i)), (.ref t2), (.int (u1 i))])) rfl rfl (Or.inr (Or.inr (Or.inr (Or.inl ⟨rfl, rfl⟩)))) d11_20 ?_
        show OFin _ _ _ _ _ _ T0 (mkF m 21 #[.val (.ref t1), .val (.ref t2), .val (.int (Int32.ofNat i))] [(.int (u2 i)), (.int (u1 i))])
        by_cases c2 : (u1 i) = (u2 i)
        · refine X0.step (fun hA hx hq t_ k_ => XS.icmpYes hA hx rfl (pc0 := 21) (pc' := 26) rfl (hb hq d11_21) rfl (teq (c2)).1 (by decide) (by decide) k_) ?_
          show OFin _ _ _ _ _ _ T0 (mkF m 26 #[.val (.ref t1), .val (.ref t2), .val (.int (Int32.ofNat i))] [])
          refine X0.step (fun hA hx hq t_ k_ => XS.iinc hA hx rfl (hb hq d11_26) rfl (l' := #[.val (.ref t1), .val (.ref t2), .val (.int ((Int32.ofNat i) + (1 : Int32)))]) rfl k_) ?_
          show OFin _ _ _ _ _ _ T0 (mkF m 29 #[.val (.ref t1), .val (.ref t2), .val (.int ((Int32.ofNat i) + (1 : Int32)))] [])
          rw [own_succ i (by omega)]
          show OFin _ _ _ _ _ _ T0 (mkF m 29 #[.val (.ref t1), .val (.ref t2), .val (.int (Int32.ofNat (i + 1)))] [])
          refine X0.step (fun hA hx hq t_ k_ => XS.goto hA hx rfl (pc0 := 29) (pc' := 9) rfl (hb hq d11_29) (by decide) (by decide) k_) ?_
          show OFin _ _ _ _ _ _ T0 (mkF m 9 #[.val (.ref t1), .val (.ref t2), .val (.int (Int32.ofNat (i + 1)))] [])
          exact ih (i + 1) (by omega) fun j h => by
            rcases (by omega : j < i ∨ j = i) with z | z
            · exact hj j z
            · rw [z]; exact c2
        · refine X0.step (fun hA hx hq t_ k_ => XS.icmpNo hA hx rfl (hb hq d11_21) rfl (feq (c2)).1 k_) ?_
          show OFin _ _ _ _ _ _ T0 (mkF m 24 #[.val (.ref t1), .val (.ref t2), .val (.int (Int32.ofNat i))] [])
          refine X0.step (fun hA hx hq t_ k_ => XS.iconst hA hx rfl (hb hq d11_24) k_) ?_
          show OFin _ _ _ _ _ _ T0 (mkF m 25 #[.val (.ref t1), .val (.ref t2), .val (.int (Int32.ofNat i))] [(.int (0 : Int32))])
          exact X0.retN (by simp) d11_25 (oN (by decide) (by decide)) (⟨rfl, 0, rfl, Or.inr ⟨rfl, fun q => c2 (q.2 i hlt)⟩⟩)
    exact loop N1 0 (by omega) (fun j h => absurd h (Nat.not_lt_zero j))
  · refine X0.step (fun hA hx hq t_ k_ => XS.icmpYes hA hx rfl (pc0 := 4) (pc' := 34) rfl (hb hq d11_4) rfl (feq (c)).2 (by decide) (by decide) k_) ?_
    show OFin _ _ _ _ _ _ T0 (mkF m 34 #[.val (.ref t1), .val (.ref t2), .unset] [])
    refine X0.step (fun hA hx hq t_ k_ => XS.iconst hA hx rfl (hb hq d11_34) k_) ?_
    show OFin _ _ _ _ _ _ T0 (mkF m 35 #[.val (.ref t1), .val (.ref t2), .unset] [(.int (0 : Int32))])
    exact X0.retN (by simp) d11_35 (oN (by decide) (by decide)) (⟨rfl, 0, rfl, Or.inr ⟨rfl, fun q => c (congrArg Int32.ofNat q.1)⟩⟩)
theorem d10_7 : decode jdk_42_method_66_code 7 = .ok (.aload_n 1, 1) := by decide +kernel
theorem d10_8 : decode jdk_42_method_66_code 8 = .ok (.instanceof 10, 3) := by decide +kernel
theorem d10_11 : decode jdk_42_method_66_code 11 = .ok (.ifCond .eq 43, 3) := by decide +kernel
theorem d10_14 : decode jdk_42_method_66_code 14 = .ok (.aload_n 1, 1) := by decide +kernel
theorem d10_15 : decode jdk_42_method_66_code 15 = .ok (.checkcast 10, 3) := by decide +kernel
theorem d10_18 : decode jdk_42_method_66_code 18 = .ok (.astore_n 2, 1) := by decide +kernel
theorem d10_19 : decode jdk_42_method_66_code 19 = .ok (.getstatic 38, 3) := by decide +kernel
theorem d10_22 : decode jdk_42_method_66_code 22 = .ok (.ifCond .eq 14, 3) := by decide +kernel
theorem d10_25 : decode jdk_42_method_66_code 25 = .ok (.aload_n 0, 1) := by decide +kernel
theorem d10_26 : decode jdk_42_method_66_code 26 = .ok (.getfield 15, 3) := by decide +kernel
theorem d10_29 : decode jdk_42_method_66_code 29 = .ok (.aload_n 2, 1) := by decide +kernel
theorem d10_30 : decode jdk_42_method_66_code 30 = .ok (.getfield 15, 3) := by decide +kernel
theorem d10_33 : decode jdk_42_method_66_code 33 = .ok (.if_icmp .ne 21, 3) := by decide +kernel
theorem d10_36 : decode jdk_42_method_66_code 36 = .ok (.aload_n 0, 1) := by decide +kernel
theorem d10_37 : decode jdk_42_method_66_code 37 = .ok (.getfield 9, 3) := by decide +kernel
theorem d10_40 : decode jdk_42_method_66_code 40 = .ok (.aload_n 2, 1) := by decide +kernel
theorem d10_41 : decode jdk_42_method_66_code 41 = .ok (.getfield 9, 3) := by decide +kernel
theorem pd_pA_BA_Br_Z : parseMethodDescriptor "([B[B)Z" = some ⟨[(.array .byte), (.array .byte)], some .boolean⟩ := by decide +kernel
theorem d10_44 : decode jdk_42_method_66_code 44 = .ok (.invokestatic 541, 3) := by decide +kernel
theorem d10_47 : decode jdk_42_method_66_code 47 = .ok (.ifCond .eq 7, 3) := by decide +kernel
theorem d10_50 : decode jdk_42_method_66_code 50 = .ok (.iconst 1, 1) := by decide +kernel
theorem d10_51 : decode jdk_42_method_66_code 51 = .ok (.goto 4, 3) := by decide +kernel
theorem d10_55 : decode jdk_42_method_66_code 55 = .ok (.ireturn, 1) := by decide +kernel
theorem d10_54 : decode jdk_42_method_66_code 54 = .ok (.iconst 0, 1) := by decide +kernel
set_option maxRecDepth 65536 in
set_option maxHeartbeats 40000000 in
theorem sq2 (l : Launch) (Z : State) (a0 : Array Value) (hw : ∀ d ∈ tables_1, d.before a0 Z = true) (a1 a2 t1 t2 : Addr) (N1 N2 : Nat) (f1 f2 : Nat → Int32) (cs : Int32) (h0 : Heap) (n0 : Nat) (S1 : OStr Z h0 a1 t1 N1 f1) (S2 : OStr Z h0 a2 t2 N2 f2) (hN1 : N1 ≤ 4000) (hN2 : N2 ≤ 4000) (ne : a1 ≠ a2) (SS : Sta Z h0 "java/lang/String" "COMPACT_STRINGS" "Z" (.int cs)) (hcs : ¬ cs = 0) :
    OMeets l Z (⟨"java/lang/String", "equals", "(Ljava/lang/Object;)Z"⟩ : MethodName) [] jdk_42_method_66_code 3 (some .boolean) ({ frames := 1, cells := 0, slots := 0, locals := 14 } : Room) #[(.ref a1), (.ref a2)] h0 n0 (fun v h => h0 = h ∧ ∃ g, v = some (.int g) ∧ own_tv g (N1 = N2 ∧ ∀ j, j < N1 → (f1 j).toInt8.toInt32 = (f2 j).toInt8.toInt32)) := by
  refine o_enter (Z := Z) (plainFor_of_name pn_java_lang_String) ?_
  intro p e s m below meth c T0 X0
  refine OFin.cast (g' := (mkF m 0 #[.val (.ref a1), .val (.ref a2), .unset] [])) (by first | (simp [entryFrame, mkF, argsToLocals, Value.category]; done) | rfl) ?_
  refine X0.step (fun hA hx hq t_ k_ => XS.aloadN hA hx rfl (hb hq d10_0) rfl rfl k_) ?_
  show OFin _ _ _ _ _ _ T0 (mkF m 1 #[.val (.ref a1), .val (.ref a2), .unset] [(.ref a1)])
  refine X0.step (fun hA hx hq t_ k_ => XS.aloadN hA hx rfl (hb hq d10_1) rfl rfl k_) ?_
  show OFin _ _ _ _ _ _ T0 (mkF m 2 #[.val (.ref a1), .val (.ref a2), .unset] [(.ref a2), (.ref a1)])
  refine X0.acmp (g := (mkF m 2 #[.val (.ref a1), .val (.ref a2), .unset] [(.ref a2), (.ref a1)])) rfl rfl rfl (pc0 := 2) (pc' := 7) (same := false) rfl d10_2 rfl (decide_eq_false fun q => ne (Value.ref.inj q)) (by decide) (by decide) ?_
  show OFin _ _ _ _ _ _ T0 (mkF m 7 #[.val (.ref a1), .val (.ref a2), .unset] [])
  refine X0.step (fun hA hx hq t_ k_ => XS.aloadN hA hx rfl (hb hq d10_7) rfl rfl k_) ?_
  show OFin _ _ _ _ _ _ T0 (mkF m 8 #[.val (.ref a1), .val (.ref a2), .unset] [(.ref a2)])
  refine X0.instY (hw _ (List.mem_of_getElem? (i := 70) rfl)) (Ins.self S2.1) (g := (mkF m 8 #[.val (.ref a1), .val (.ref a2), .unset] [(.ref a2)])) rfl rfl d10_8 ?_
  intro T1 X1
  show OFin _ _ _ _ _ _ T1 (mkF m 11 #[.val (.ref a1), .val (.ref a2), .unset] [(.int (1 : Int32))])
  refine X1.step (fun hA hx hq t_ k_ => XS.ifNo hA hx rfl (hb hq d10_11) rfl ((if0 _ _).trans (feq ((by decide))).1) k_) ?_
  show OFin _ _ _ _ _ _ T1 (mkF m 14 #[.val (.ref a1), .val (.ref a2), .unset] [])
  refine X1.step (fun hA hx hq t_ k_ => XS.aloadN hA hx rfl (hb hq d10_14) rfl rfl k_) ?_
  show OFin _ _ _ _ _ _ T1 (mkF m 15 #[.val (.ref a1), .val (.ref a2), .unset] [(.ref a2)])
  refine X1.castY (hw _ (List.mem_of_getElem? (i := 70) rfl)) (Ins.self S2.1) (g := (mkF m 15 #[.val (.ref a1), .val (.ref a2), .unset] [(.ref a2)])) rfl rfl d10_15 ?_
  intro T2 X2
  show OFin _ _ _ _ _ _ T2 (mkF m 18 #[.val (.ref a1), .val (.ref a2), .unset] [(.ref a2)])
  refine X2.step (fun hA hx hq t_ k_ => XS.astoreN hA hx rfl (hb hq d10_18) rfl rfl (l' := #[.val (.ref a1), .val (.ref a2), .val (.ref a2)]) rfl k_) ?_
  show OFin _ _ _ _ _ _ T2 (mkF m 19 #[.val (.ref a1), .val (.ref a2), .val (.ref a2)] [])
  refine X2.getS (hw _ (List.mem_of_getElem? (i := 71) rfl)) SS (g := (mkF m 19 #[.val (.ref a1), .val (.ref a2), .val (.ref a2)] [])) rfl d10_19 ?_
  intro T3 X3
  show OFin _ _ _ _ _ _ T3 (mkF m 22 #[.val (.ref a1), .val (.ref a2), .val (.ref a2)] [(.int cs)])
  refine X3.step (fun hA hx hq t_ k_ => XS.ifNo hA hx rfl (hb hq d10_22) rfl ((if0 _ _).trans (feq (hcs)).1) k_) ?_
  show OFin _ _ _ _ _ _ T3 (mkF m 25 #[.val (.ref a1), .val (.ref a2), .val (.ref a2)] [])
  refine X3.step (fun hA hx hq t_ k_ => XS.aloadN hA hx rfl (hb hq d10_25) rfl rfl k_) ?_
  show OFin _ _ _ _ _ _ T3 (mkF m 26 #[.val (.ref a1), .val (.ref a2), .val (.ref a2)] [(.ref a1)])
  refine X3.getF (hw _ (List.mem_of_getElem? (i := 29) rfl)) S1.2.1 (g := (mkF m 26 #[.val (.ref a1), .val (.ref a2), .val (.ref a2)] [(.ref a1)])) rfl rfl d10_26 ?_
  intro T4 X4
  show OFin _ _ _ _ _ _ T4 (mkF m 29 #[.val (.ref a1), .val (.ref a2), .val (.ref a2)] [(.int (0 : Int32))])
  refine X4.step (fun hA hx hq t_ k_ => XS.aloadN hA hx rfl (hb hq d10_29) rfl rfl k_) ?_
  show OFin _ _ _ _ _ _ T4 (mkF m 30 #[.val (.ref a1), .val (.ref a2), .val (.ref a2)] [(.ref a2), (.int (0 : Int32))])
  refine X4.getF (hw _ (List.mem_of_getElem? (i := 29) rfl)) S2.2.1 (g := (mkF m 30 #[.val (.ref a1), .val (.ref a2), .val (.ref a2)] [(.ref a2), (.int (0 : Int32))])) rfl rfl d10_30 ?_
  intro T5 X5
  show OFin _ _ _ _ _ _ T5 (mkF m 33 #[.val (.ref a1), .val (.ref a2), .val (.ref a2)] [(.int (0 : Int32)), (.int (0 : Int32))])
  refine X5.step (fun hA hx hq t_ k_ => XS.icmpNo hA hx rfl (hb hq d10_33) rfl (teq ((rfl : (0 : Int32) = (0 : Int32)))).2 k_) ?_
  show OFin _ _ _ _ _ _ T5 (mkF m 36 #[.val (.ref a1), .val (.ref a2), .val (.ref a2)] [])
  refine X5.step (fun hA hx hq t_ k_ => XS.aloadN hA hx rfl (hb hq d10_36) rfl rfl k_) ?_
  show OFin _ _ _ _ _ _ T5 (mkF m 37 #[.val (.ref a1), .val (.ref a2), .val (.ref a2)] [(.ref a1)])
  refine X5.getF (hw _ (List.mem_of_getElem? (i := 28) rfl)) S1.2.2.1 (g := (mkF m 37 #[.val (.ref a1), .val (.ref a2), .val (.ref a2)] [(.ref a1)])) rfl rfl d10_37 ?_
  intro T6 X6
  show OFin _ _ _ _ _ _ T6 (mkF m 40 #[.val (.ref a1), .val (.ref a2), .val (.ref a2)] [(.ref t1)])
  refine X6.step (fun hA hx hq t_ k_ => XS.aloadN hA hx rfl (hb hq d10_40) rfl rfl k_) ?_
  show OFin _ _ _ _ _ _ T6 (mkF m 41 #[.val (.ref a1), .val (.ref a2), .val (.ref a2)] [(.ref a2), (.ref t1)])
  refine X6.getF (hw _ (List.mem_of_getElem? (i := 28) rfl)) S2.2.2.1 (g := (mkF m 41 #[.val (.ref a1), .val (.ref a2), .val (.ref a2)] [(.ref a2), (.ref t1)])) rfl rfl d10_41 ?_
  intro T7 X7
  show OFin _ _ _ _ _ _ T7 (mkF m 44 #[.val (.ref a1), .val (.ref a2), .val (.ref a2)] [(.ref t2), (.ref t1)])
  refine X7.callS (y' := (⟨"java/lang/StringLatin1", "equals", "([B[B)Z"⟩ : MethodName)) (hw _ (List.mem_of_getElem? (i := 72) rfl)) (hw _ (List.mem_of_getElem? (i := 73) rfl)) (hw _ (List.mem_of_getElem? (i := 74) rfl)) (hw _ (List.mem_of_getElem? (i := 75) rfl)) (by decide) (argsL := [(.ref t1), (.ref t2)]) (rest := []) (sq1 l Z a0 hw t1 t2 N1 N2 _ _ h0 n0 S1.2.2.2 S2.2.2.2 hN1 hN2) (g := (mkF m 44 #[.val (.ref a1), .val (.ref a2), .val (.ref a2)] [(.ref t2), (.ref t1)])) rfl rfl pd_pA_BA_Br_Z rfl rfl (W := 0) (by show 2 * 0 + _ ≤ _; exact Nat.le_of_eq rfl) d10_44 (by decide) (by decide) (by decide) (by decide) ?_
  intro v8 T8 h8 X8 q8
  obtain ⟨rfl, g, rfl, hg⟩ := q8
  show OFin _ _ _ _ _ _ T8 (mkF m 47 #[.val (.ref a1), .val (.ref a2), .val (.ref a2)] [(.int g)])
  rcases hg with ⟨rfl, hg⟩ | ⟨rfl, hg⟩
  · show OFin _ _ _ _ _ _ T8 (mkF m 47 #[.val (.ref a1), .val (.ref a2), .val (.ref a2)] [(.int (1 : Int32))])
    refine X8.step (fun hA hx hq t_ k_ => XS.ifNo hA hx rfl (hb hq d10_47) rfl ((if0 _ _).trans (feq ((by decide))).1) k_) ?_
    show OFin _ _ _ _ _ _ T8 (mkF m 50 #[.val (.ref a1), .val (.ref a2), .val (.ref a2)] [])
    refine X8.step (fun hA hx hq t_ k_ => XS.iconst hA hx rfl (hb hq d10_50) k_) ?_
    show OFin _ _ _ _ _ _ T8 (mkF m 51 #[.val (.ref a1), .val (.ref a2), .val (.ref a2)] [(.int (1 : Int32))])
    refine X8.step (fun hA hx hq t_ k_ => XS.goto hA hx rfl (pc0 := 51) (pc' := 55) rfl (hb hq d10_51) (by decide) (by decide) k_) ?_
    show OFin _ _ _ _ _ _ T8 (mkF m 55 #[.val (.ref a1), .val (.ref a2), .val (.ref a2)] [(.int (1 : Int32))])
    exact X8.retN (by simp) d10_55 (oN (by decide) (by decide)) (⟨rfl, 1, rfl, Or.inl ⟨rfl, hg⟩⟩)
  · show OFin _ _ _ _ _ _ T8 (mkF m 47 #[.val (.ref a1), .val (.ref a2), .val (.ref a2)] [(.int (0 : Int32))])
    refine X8.step (fun hA hx hq t_ k_ => XS.ifYes hA hx rfl (pc0 := 47) (pc' := 54) rfl (hb hq d10_47) rfl ((if0 _ _).trans (teq ((by decide))).1) (by decide) (by decide) k_) ?_
    show OFin _ _ _ _ _ _ T8 (mkF m 54 #[.val (.ref a1), .val (.ref a2), .val (.ref a2)] [])
    refine X8.step (fun hA hx hq t_ k_ => XS.iconst hA hx rfl (hb hq d10_54) k_) ?_
    show OFin _ _ _ _ _ _ T8 (mkF m 55 #[.val (.ref a1), .val (.ref a2), .val (.ref a2)] [(.int (0 : Int32))])
    exact X8.retN (by simp) d10_55 (oN (by decide) (by decide)) (⟨rfl, 0, rfl, Or.inr ⟨rfl, hg⟩⟩)
/-! the kinds, the chars -/
def own_kind (i : Int32) (kR kC kT kN kK kA : Addr) : Addr := if i = 0 then kR else if i = 1 then kC else if i = 2 then kT else if i = 3 then kN else if i = 4 then kK else kA
def own_k6 (i : Int32) : Prop := i = 0 ∨ i = 1 ∨ i = 2 ∨ i = 3 ∨ i = 4 ∨ i = 5
theorem own_kp {P : Addr → Int32 → Prop} {i : Int32} (hi : own_k6 i) {kR kC kT kN kK kA : Addr} (h0 : P kR 0) (h1 : P kC 1) (h2 : P kT 2) (h3 : P kN 3) (h4 : P kK 4) (h5 : P kA 5) : P (own_kind i kR kC kT kN kK kA) i := by
  rcases hi with rfl | rfl | rfl | rfl | rfl | rfl
  · exact h0
  · exact h1
  · exact h2
  · exact h3
  · exact h4
  · exact h5
theorem own_i6 (x : Int32) : own_k6 ((x &&& (2147483647 : Int32)) % (6 : Int32)) := by
  have e1 := (c_and x (2147483647 : Int32) (by decide)).1
  have e2 := (c_iremV (x &&& (2147483647 : Int32)) (6 : Int32)).1 e1 (by decide)
  have e3 : (6 : Int32).toInt = 6 := by decide
  generalize (x &&& (2147483647 : Int32)) % (6 : Int32) = z at e2
  unfold own_k6
  rcases (by omega : z.toInt = 0 ∨ z.toInt = 1 ∨ z.toInt = 2 ∨ z.toInt = 3 ∨ z.toInt = 4 ∨ z.toInt = 5) with q | q | q | q | q | q
  · exact Or.inl (Int32.toInt_inj.mp (q.trans (by decide)))
  · exact Or.inr (Or.inl (Int32.toInt_inj.mp (q.trans (by decide))))
  · exact Or.inr (Or.inr (Or.inl (Int32.toInt_inj.mp (q.trans (by decide)))))
  · exact Or.inr (Or.inr (Or.inr (Or.inl (Int32.toInt_inj.mp (q.trans (by decide))))))
  · exact Or.inr (Or.inr (Or.inr (Or.inr (Or.inl (Int32.toInt_inj.mp (q.trans (by decide)))))))
  · exact Or.inr (Or.inr (Or.inr (Or.inr (Or.inr (Int32.toInt_inj.mp (q.trans (by decide)))))))
theorem own_m4 (x : Int32) : (x &&& (3 : Int32)) = 0 ∨ (x &&& (3 : Int32)) = 1 ∨ (x &&& (3 : Int32)) = 2 ∨ (x &&& (3 : Int32)) = 3 := by
  have e1 := c_and x (3 : Int32) (by decide)
  have e3 : (3 : Int32).toInt = 3 := by decide
  generalize x &&& (3 : Int32) = z at e1
  rcases (by omega : z.toInt = 0 ∨ z.toInt = 1 ∨ z.toInt = 2 ∨ z.toInt = 3) with q | q | q | q
  · exact Or.inl (Int32.toInt_inj.mp (q.trans (by decide)))
  · exact Or.inr (Or.inl (Int32.toInt_inj.mp (q.trans (by decide))))
  · exact Or.inr (Or.inr (Or.inl (Int32.toInt_inj.mp (q.trans (by decide)))))
  · exact Or.inr (Or.inr (Or.inr (Int32.toInt_inj.mp (q.trans (by decide)))))
theorem own_l3 (x : Int32) : ∃ l : Nat, l ≤ 2 ∧ (x &&& (3 : Int32)) % (3 : Int32) = Int32.ofNat l := by
  rcases own_m4 x with q | q | q | q <;> rw [q]
  · exact ⟨0, by decide, by decide⟩
  · exact ⟨1, by decide, by decide⟩
  · exact ⟨2, by decide, by decide⟩
  · exact ⟨0, by decide, by decide⟩
def own_ok (x : Int32) : Prop := 0 ≤ x.toInt ∧ x.toInt ≤ 255
theorem own_c8 (x : Int32) : own_ok ((x &&& (255 : Int32)).toUInt32.toUInt16.toUInt32.toInt32) := by
  have e1 := c_and x (255 : Int32) (by decide)
  have e3 : (255 : Int32).toInt = 255 := by decide
  rw [i2c_mask]
  exact ⟨e1.1, by omega⟩
def own_g (ca cb : Int32) (j : Nat) : Int32 := if j = 0 then ca else cb
theorem own_gok {ca cb : Int32} (h1 : own_ok ca) (h2 : own_ok cb) (j : Nat) : own_ok (own_g ca cb j) := by
  unfold own_g
  split
  · exact h1
  · exact h2
def own_st (l1 l2 : Nat) (ca1 ca2 cb1 cb2 : Int32) : Prop := l1 = l2 ∧ (1 ≤ l1 → ca1 = ca2) ∧ (2 ≤ l1 → cb1 = cb2)
theorem own_sti {l1 l2 : Nat} {ca1 ca2 cb1 cb2 : Int32} (hl : l1 ≤ 2) (h1 : own_ok ca1) (h2 : own_ok ca2) (h3 : own_ok cb1) (h4 : own_ok cb2) : (l1 = l2 ∧ ∀ j, j < l1 → (own_g ca1 cb1 j).toInt8.toInt32 = (own_g ca2 cb2 j).toInt8.toInt32) ↔ own_st l1 l2 ca1 ca2 cb1 cb2 := by
  constructor
  · rintro ⟨e, q⟩
    exact ⟨e, fun z => own_b8 h1 h2 (q 0 (by omega)), fun z => own_b8 h3 h4 (q 1 (by omega))⟩
  · rintro ⟨e, q1, q2⟩
    refine ⟨e, fun j hj => ?_⟩
    rcases (by omega : j = 0 ∨ (j = 1 ∧ 2 ≤ l1)) with rfl | ⟨rfl, z⟩
    · show ca1.toInt8.toInt32 = ca2.toInt8.toInt32
      rw [q1 (by omega)]
    · show cb1.toInt8.toInt32 = cb2.toInt8.toInt32
      rw [q2 z]
theorem pn_com_example_replay_proof_replayproof_model_NameEqualsPinLaw : plainName "com/example/replay_proof/replayproof/model/NameEqualsPinLaw" = true := by first | (simp [plainName, overriddenIn]; done) | decide +kernel
theorem d1_0 : decode method_3_code 0 = .ok (.iload_n 0, 1) := by decide +kernel
theorem d1_1 : decode method_3_code 1 = .ok (.ifCond .ne 14, 3) := by decide +kernel
theorem d1_4 : decode method_3_code 4 = .ok (.new 28, 3) := by decide +kernel
theorem d1_7 : decode method_3_code 7 = .ok (.dup, 1) := by decide +kernel
theorem d1_8 : decode method_3_code 8 = .ok (.iconst 0, 1) := by decide +kernel
theorem d1_9 : decode method_3_code 9 = .ok (.newarray .char, 2) := by decide +kernel
theorem pd_pA_Cr_V : parseMethodDescriptor "([C)V" = some ⟨[(.array .char)], none⟩ := by decide +kernel
theorem d1_11 : decode method_3_code 11 = .ok (.invokespecial 30, 3) := by decide +kernel
theorem d1_14 : decode method_3_code 14 = .ok (.areturn, 1) := by decide +kernel
theorem d1_15 : decode method_3_code 15 = .ok (.iload_n 0, 1) := by decide +kernel
theorem d1_16 : decode method_3_code 16 = .ok (.iconst 1, 1) := by decide +kernel
theorem d1_17 : decode method_3_code 17 = .ok (.if_icmp .ne 20, 3) := by decide +kernel
theorem d1_20 : decode method_3_code 20 = .ok (.iconst 1, 1) := by decide +kernel
theorem d1_21 : decode method_3_code 21 = .ok (.newarray .char, 2) := by decide +kernel
theorem d1_23 : decode method_3_code 23 = .ok (.astore_n 3, 1) := by decide +kernel
theorem d1_24 : decode method_3_code 24 = .ok (.aload_n 3, 1) := by decide +kernel
theorem d1_25 : decode method_3_code 25 = .ok (.iconst 0, 1) := by decide +kernel
theorem d1_26 : decode method_3_code 26 = .ok (.iload_n 1, 1) := by decide +kernel
theorem d1_27 : decode method_3_code 27 = .ok (.castore, 1) := by decide +kernel
theorem d1_28 : decode method_3_code 28 = .ok (.new 28, 3) := by decide +kernel
theorem d1_31 : decode method_3_code 31 = .ok (.dup, 1) := by decide +kernel
theorem d1_32 : decode method_3_code 32 = .ok (.aload_n 3, 1) := by decide +kernel
theorem d1_33 : decode method_3_code 33 = .ok (.invokespecial 30, 3) := by decide +kernel
theorem d1_36 : decode method_3_code 36 = .ok (.areturn, 1) := by decide +kernel
theorem d1_37 : decode method_3_code 37 = .ok (.iconst 2, 1) := by decide +kernel
theorem d1_38 : decode method_3_code 38 = .ok (.newarray .char, 2) := by decide +kernel
theorem d1_40 : decode method_3_code 40 = .ok (.astore_n 3, 1) := by decide +kernel
theorem d1_41 : decode method_3_code 41 = .ok (.aload_n 3, 1) := by decide +kernel
theorem d1_42 : decode method_3_code 42 = .ok (.iconst 0, 1) := by decide +kernel
theorem d1_43 : decode method_3_code 43 = .ok (.iload_n 1, 1) := by decide +kernel
theorem d1_44 : decode method_3_code 44 = .ok (.castore, 1) := by decide +kernel
theorem d1_45 : decode method_3_code 45 = .ok (.aload_n 3, 1) := by decide +kernel
theorem d1_46 : decode method_3_code 46 = .ok (.iconst 1, 1) := by decide +kernel
theorem d1_47 : decode method_3_code 47 = .ok (.iload_n 2, 1) := by decide +kernel
theorem d1_48 : decode method_3_code 48 = .ok (.castore, 1) := by decide +kernel
theorem d1_49 : decode method_3_code 49 = .ok (.new 28, 3) := by decide +kernel
theorem d1_52 : decode method_3_code 52 = .ok (.dup, 1) := by decide +kernel
theorem d1_53 : decode method_3_code 53 = .ok (.aload_n 3, 1) := by decide +kernel
theorem d1_54 : decode method_3_code 54 = .ok (.invokespecial 30, 3) := by decide +kernel
theorem d1_57 : decode method_3_code 57 = .ok (.areturn, 1) := by decide +kernel
set_option maxRecDepth 65536 in
set_option maxHeartbeats 40000000 in
theorem rm1 (l : Launch) (Z : State) (a0 : Array Value) (hw : ∀ d ∈ tables_1, d.before a0 Z = true) (l1 : Nat) (ca cb cs : Int32) (h0 : Heap) (n0 : Nat) (hl : l1 ≤ 2) (h1 : own_ok ca) (h2 : own_ok cb) (Z0 : n0 ≤ h0.size) (SS : Sta Z h0 "java/lang/String" "COMPACT_STRINGS" "Z" (.int cs)) (hcs : ¬ cs = 0) :
    OMeetsW l Z own_EL (⟨"com/example/replay_proof/replayproof/model/NameEqualsPinLaw", "text", "(ICC)Ljava/lang/String;"⟩ : MethodName) [] method_3_code 4 (some (.object "java/lang/String")) ({ frames := 4, cells := 6, slots := 12, locals := 66 } : Room) #[(.int (Int32.ofNat l1)), (.int ca), (.int cb)] h0 n0 (fun v h => ∃ a t, v = some (.ref a) ∧ OStr Z h a t l1 (own_g ca cb) ∧ Keep h0 h [] ∧ h0.size ≤ a) := by
  refine o_enterW (Z := Z) (own_EW hw) (plainFor_of_name pn_com_example_replay_proof_replayproof_model_NameEqualsPinLaw) ?_
  intro p e s m below meth c T0 X0 B0
  refine OFin.cast (g' := (mkF m 0 #[.val (.int (Int32.ofNat l1)), .val (.int ca), .val (.int cb), .unset] [])) (by first | (simp [entryFrame, mkF, argsToLocals, Value.category]; done) | rfl) ?_
  rcases (by omega : l1 = 0 ∨ l1 = 1 ∨ l1 = 2) with rfl | rfl | rfl
  · show OFin _ _ _ _ _ _ T0 (mkF m 0 #[.val (.int (0 : Int32)), .val (.int ca), .val (.int cb), .unset] [])
    refine X0.step (fun hA hx hq t_ k_ => XS.iloadN hA hx rfl (hb hq d1_0) rfl k_) ?_
    show OFin _ _ _ _ _ _ T0 (mkF m 1 #[.val (.int (0 : Int32)), .val (.int ca), .val (.int cb), .unset] [(.int (0 : Int32))])
    refine X0.step (fun hA hx hq t_ k_ => XS.ifNo hA hx rfl (hb hq d1_1) rfl ((if0 _ _).trans (teq ((rfl : (0 : Int32) = (0 : Int32)))).2) k_) ?_
    show OFin _ _ _ _ _ _ T0 (mkF m 4 #[.val (.int (0 : Int32)), .val (.int ca), .val (.int cb), .unset] [])
    refine X0.newO (hw _ (List.mem_of_getElem? (i := 8) rfl)) (hw _ (List.mem_of_getElem? (i := 9) rfl)) (hw _ (List.mem_of_getElem? (i := 10) rfl)) (g := (mkF m 4 #[.val (.int (0 : Int32)), .val (.int ca), .val (.int cb), .unset] [])) rfl d1_4 (by decide) (by decide) ?_
    intro T1 h1 b1 gb1 X1 E1 A1 D1
    have B2 := B0.ext E1
    show OFin _ _ _ _ _ _ T1 (mkF m 7 #[.val (.int (0 : Int32)), .val (.int ca), .val (.int cb), .unset] [(.ref b1)])
    have Fv : Fld Z h1 b1 "java/lang/String" "value" "[B" .null := D1 (Or.inr (hw _ (List.mem_of_getElem? (i := 24) rfl))) (ty := (.array .byte)) (by decide)
    have Fc : Fld Z h1 b1 "java/lang/String" "coder" "B" (.int (0 : Int32)) := D1 (Or.inr (hw _ (List.mem_of_getElem? (i := 25) rfl))) (ty := .byte) (by decide)
    have hs : h0.size ≤ b1 := by rw [gb1]; exact Nat.le_refl _
    have hm : n0 ≤ b1 := Nat.le_trans Z0 hs
    refine X1.step (fun hA hx hq t_ k_ => XS.dup hA hx rfl (hb hq d1_7) rfl rfl k_) ?_
    show OFin _ _ _ _ _ _ T1 (mkF m 8 #[.val (.int (0 : Int32)), .val (.int ca), .val (.int cb), .unset] [(.ref b1), (.ref b1)])
    refine X1.step (fun hA hx hq t_ k_ => XS.iconst hA hx rfl (hb hq d1_8) k_) ?_
    show OFin _ _ _ _ _ _ T1 (mkF m 9 #[.val (.int (0 : Int32)), .val (.int ca), .val (.int cb), .unset] [(.int (0 : Int32)), (.ref b1), (.ref b1)])
    refine X1.newP (hw _ (List.mem_of_getElem? (i := 11) rfl)) (g := (mkF m 9 #[.val (.int (0 : Int32)), .val (.int ca), .val (.int cb), .unset] [(.int (0 : Int32)), (.ref b1), (.ref b1)])) rfl d1_9 rfl (by decide) (cap := 0) (by decide) (by decide) (by decide) (by decide) (ad := "[C") (by first | rfl | decide) ?_
    intro T3 h3 k3 b3 gb3 X3 E3 A3 G3
    have B4 := B2.ext E3
    show OFin _ _ _ _ _ _ T3 (mkF m 11 #[.val (.int (0 : Int32)), .val (.int ca), .val (.int cb), .unset] [(.ref b3), (.ref b1), (.ref b1)])
    have V0 := OArr.new A3
    refine X3.callIW B4 (y' := (⟨"java/lang/String", "<init>", "([C)V"⟩ : MethodName)) rfl (hw _ (List.mem_of_getElem? (i := 12) rfl)) (hw _ (List.mem_of_getElem? (i := 13) rfl)) (hw _ (List.mem_of_getElem? (i := 10) rfl)) (hw _ (List.mem_of_getElem? (i := 14) rfl)) (by decide) (a := b1) (argsL := [(.ref b3)]) (rest := [(.ref b1)]) (sm5e l Z a0 hw b1 b3 (own_g ca cb) _ h3 n0 (Fv.ext E3) (Fc.ext E3) (A1.ext E3) hm V0) (g := (mkF m 11 #[.val (.int (0 : Int32)), .val (.int ca), .val (.int cb), .unset] [(.ref b3), (.ref b1), (.ref b1)])) rfl rfl pd_pA_Cr_V rfl rfl (W := 1) (by show 2 * 0 + _ ≤ _; exact Nat.le_of_eq rfl) d1_11 (by decide) (by decide) (by decide) (by decide) ?_
    intro v5 T5 h5 vm5 X5 B5 G5 Sf5 q5
    obtain ⟨rfl, K5, t, S5⟩ := q5
    show OFin _ _ _ _ _ _ T5 (mkF m 14 #[.val (.int (0 : Int32)), .val (.int ca), .val (.int cb), .unset] [(.ref b1)])
    exact X5.retR rfl rfl d1_14 (oW X5 B5 (by decide) (by decide)) (⟨b1, t, rfl, S5, (((Keep.refl h0 []).ext E1).ext E3).trans K5 (allS (Or.inr hs) all0), hs⟩)
  · show OFin _ _ _ _ _ _ T0 (mkF m 0 #[.val (.int (1 : Int32)), .val (.int ca), .val (.int cb), .unset] [])
    refine X0.step (fun hA hx hq t_ k_ => XS.iloadN hA hx rfl (hb hq d1_0) rfl k_) ?_
    show OFin _ _ _ _ _ _ T0 (mkF m 1 #[.val (.int (1 : Int32)), .val (.int ca), .val (.int cb), .unset] [(.int (1 : Int32))])
    refine X0.step (fun hA hx hq t_ k_ => XS.ifYes hA hx rfl (pc0 := 1) (pc' := 15) rfl (hb hq d1_1) rfl ((if0 _ _).trans (feq ((by decide))).2) (by decide) (by decide) k_) ?_
    show OFin _ _ _ _ _ _ T0 (mkF m 15 #[.val (.int (1 : Int32)), .val (.int ca), .val (.int cb), .unset] [])
    refine X0.step (fun hA hx hq t_ k_ => XS.iloadN hA hx rfl (hb hq d1_15) rfl k_) ?_
    show OFin _ _ _ _ _ _ T0 (mkF m 16 #[.val (.int (1 : Int32)), .val (.int ca), .val (.int cb), .unset] [(.int (1 : Int32))])
    refine X0.step (fun hA hx hq t_ k_ => XS.iconst hA hx rfl (hb hq d1_16) k_) ?_
    show OFin _ _ _ _ _ _ T0 (mkF m 17 #[.val (.int (1 : Int32)), .val (.int ca), .val (.int cb), .unset] [(.int (1 : Int32)), (.int (1 : Int32))])
    refine X0.step (fun hA hx hq t_ k_ => XS.icmpNo hA hx rfl (hb hq d1_17) rfl (teq ((rfl : (1 : Int32) = (1 : Int32)))).2 k_) ?_
    show OFin _ _ _ _ _ _ T0 (mkF m 20 #[.val (.int (1 : Int32)), .val (.int ca), .val (.int cb), .unset] [])
    refine X0.step (fun hA hx hq t_ k_ => XS.iconst hA hx rfl (hb hq d1_20) k_) ?_
    show OFin _ _ _ _ _ _ T0 (mkF m 21 #[.val (.int (1 : Int32)), .val (.int ca), .val (.int cb), .unset] [(.int (1 : Int32))])
    refine X0.newP (hw _ (List.mem_of_getElem? (i := 11) rfl)) (g := (mkF m 21 #[.val (.int (1 : Int32)), .val (.int ca), .val (.int cb), .unset] [(.int (1 : Int32))])) rfl d1_21 rfl (by decide) (cap := 1) (by decide) (by decide) (by decide) (by decide) (ad := "[C") (by first | rfl | decide) ?_
    intro T6 h6 k6 b6 gb6 X6 E6 A6 G6
    have B7 := B0.ext E6
    show OFin _ _ _ _ _ _ T6 (mkF m 23 #[.val (.int (1 : Int32)), .val (.int ca), .val (.int cb), .unset] [(.ref b6)])
    have V0 := OArr.new A6
    have hB : n0 ≤ b6 := by rw [gb6]; exact Z0
    refine X6.step (fun hA hx hq t_ k_ => XS.astoreN hA hx rfl (hb hq d1_23) rfl rfl (l' := #[.val (.int (1 : Int32)), .val (.int ca), .val (.int cb), .val (.ref b6)]) rfl k_) ?_
    show OFin _ _ _ _ _ _ T6 (mkF m 24 #[.val (.int (1 : Int32)), .val (.int ca), .val (.int cb), .val (.ref b6)] [])
    refine X6.step (fun hA hx hq t_ k_ => XS.aloadN hA hx rfl (hb hq d1_24) rfl rfl k_) ?_
    show OFin _ _ _ _ _ _ T6 (mkF m 25 #[.val (.int (1 : Int32)), .val (.int ca), .val (.int cb), .val (.ref b6)] [(.ref b6)])
    refine X6.step (fun hA hx hq t_ k_ => XS.iconst hA hx rfl (hb hq d1_25) k_) ?_
    show OFin _ _ _ _ _ _ T6 (mkF m 26 #[.val (.int (1 : Int32)), .val (.int ca), .val (.int cb), .val (.ref b6)] [(.int (0 : Int32)), (.ref b6)])
    refine X6.step (fun hA hx hq t_ k_ => XS.iloadN hA hx rfl (hb hq d1_26) rfl k_) ?_
    show OFin _ _ _ _ _ _ T6 (mkF m 27 #[.val (.int (1 : Int32)), .val (.int ca), .val (.int cb), .val (.ref b6)] [(.int ca), (.int (0 : Int32)), (.ref b6)])
    obtain ⟨c0, Ar0, Sr0, Hr0⟩ := id V0
    refine X6.stC Ar0 (by rw [Sr0]; decide) (hB) (g := (mkF m 27 #[.val (.int (1 : Int32)), .val (.int ca), .val (.int cb), .val (.ref b6)] [(.int ca), (.int (0 : Int32)), (.ref b6)])) rfl rfl d1_27 ?_
    intro T8 h8 X8 W8
    have B9 := B7.wr W8 (Safe.arr X6.1.2.1.alike Ar0 (by decide))
    show OFin _ _ _ _ _ _ T8 (mkF m 28 #[.val (.int (1 : Int32)), .val (.int ca), .val (.int cb), .val (.ref b6)] [])
    rw [own_narC _ (by have := h1.1; omega) (by have := h1.2; omega)] at W8
    have V1 := V0.set W8
    have VC : OArr Z h8 b6 .char 1 (fun j => .int ((own_g ca cb) j)) := V1.congr fun j hj => by
      have hj' : j < 1 := hj
      match j, hj' with
      | 0, _ => rfl
    have Kc : Keep h0 h8 [] := (((Keep.refl h0 []).ext E6).wr W8 (Or.inr (Nat.le_of_eq gb6.symm)))
    refine X8.newO (hw _ (List.mem_of_getElem? (i := 8) rfl)) (hw _ (List.mem_of_getElem? (i := 9) rfl)) (hw _ (List.mem_of_getElem? (i := 10) rfl)) (g := (mkF m 28 #[.val (.int (1 : Int32)), .val (.int ca), .val (.int cb), .val (.ref b6)] [])) rfl d1_28 (by decide) (by decide) ?_
    intro T10 h10 b10 gb10 X10 E10 A10 D10
    have B11 := B9.ext E10
    show OFin _ _ _ _ _ _ T10 (mkF m 31 #[.val (.int (1 : Int32)), .val (.int ca), .val (.int cb), .val (.ref b6)] [(.ref b10)])
    have Fv : Fld Z h10 b10 "java/lang/String" "value" "[B" .null := D10 (Or.inr (hw _ (List.mem_of_getElem? (i := 24) rfl))) (ty := (.array .byte)) (by decide)
    have Fc : Fld Z h10 b10 "java/lang/String" "coder" "B" (.int (0 : Int32)) := D10 (Or.inr (hw _ (List.mem_of_getElem? (i := 25) rfl))) (ty := .byte) (by decide)
    have hs : h0.size ≤ b10 := by rw [gb10]; exact Kc.1
    have hm : n0 ≤ b10 := Nat.le_trans Z0 hs
    refine X10.step (fun hA hx hq t_ k_ => XS.dup hA hx rfl (hb hq d1_31) rfl rfl k_) ?_
    show OFin _ _ _ _ _ _ T10 (mkF m 32 #[.val (.int (1 : Int32)), .val (.int ca), .val (.int cb), .val (.ref b6)] [(.ref b10), (.ref b10)])
    refine X10.step (fun hA hx hq t_ k_ => XS.aloadN hA hx rfl (hb hq d1_32) rfl rfl k_) ?_
    show OFin _ _ _ _ _ _ T10 (mkF m 33 #[.val (.int (1 : Int32)), .val (.int ca), .val (.int cb), .val (.ref b6)] [(.ref b6), (.ref b10), (.ref b10)])
    refine X10.callI (y' := (⟨"java/lang/String", "<init>", "([C)V"⟩ : MethodName)) rfl (hw _ (List.mem_of_getElem? (i := 12) rfl)) (hw _ (List.mem_of_getElem? (i := 13) rfl)) (hw _ (List.mem_of_getElem? (i := 10) rfl)) (hw _ (List.mem_of_getElem? (i := 14) rfl)) (by decide) (a := b10) (argsL := [(.ref b6)]) (rest := [(.ref b10)]) (sm5 l Z a0 hw b10 b6 1 (own_g ca cb) cs h10 n0 Fv Fc A10 hm (VC.ext E10) (by decide) (by decide) (fun j _ => own_gok h1 h2 j) (Nat.le_trans Z0 (Nat.le_trans Kc.1 E10.1)) (((SS.ext E6).wr W8).ext E10) hcs) (g := (mkF m 33 #[.val (.int (1 : Int32)), .val (.int ca), .val (.int cb), .val (.ref b6)] [(.ref b6), (.ref b10), (.ref b10)])) rfl rfl pd_pA_Cr_V rfl rfl (W := 1) (by show 2 * 0 + _ ≤ _; exact Nat.le_of_eq rfl) d1_33 (by decide) (by decide) (by decide) (by decide) ?_
    intro v12 T12 h12 X12 q12
    obtain ⟨rfl, K12, t, S12, lt12⟩ := q12
    have B13 := B11.keep K12 (sfS (own_safeNull X10.1.2.1.alike A10 Fv) sf0)
    show OFin _ _ _ _ _ _ T12 (mkF m 36 #[.val (.int (1 : Int32)), .val (.int ca), .val (.int cb), .val (.ref b6)] [(.ref b10)])
    exact X12.retR rfl rfl d1_36 (oW X12 B13 (by decide) (by decide)) (⟨b10, t, rfl, S12, (Kc.ext E10).trans K12 (allS (Or.inr hs) all0), hs⟩)
  · show OFin _ _ _ _ _ _ T0 (mkF m 0 #[.val (.int (2 : Int32)), .val (.int ca), .val (.int cb), .unset] [])
    refine X0.step (fun hA hx hq t_ k_ => XS.iloadN hA hx rfl (hb hq d1_0) rfl k_) ?_
    show OFin _ _ _ _ _ _ T0 (mkF m 1 #[.val (.int (2 : Int32)), .val (.int ca), .val (.int cb), .unset] [(.int (2 : Int32))])
    refine X0.step (fun hA hx hq t_ k_ => XS.ifYes hA hx rfl (pc0 := 1) (pc' := 15) rfl (hb hq d1_1) rfl ((if0 _ _).trans (feq ((by decide))).2) (by decide) (by decide) k_) ?_
    show OFin _ _ _ _ _ _ T0 (mkF m 15 #[.val (.int (2 : Int32)), .val (.int ca), .val (.int cb), .unset] [])
    refine X0.step (fun hA hx hq t_ k_ => XS.iloadN hA hx rfl (hb hq d1_15) rfl k_) ?_
    show OFin _ _ _ _ _ _ T0 (mkF m 16 #[.val (.int (2 : Int32)), .val (.int ca), .val (.int cb), .unset] [(.int (2 : Int32))])
    refine X0.step (fun hA hx hq t_ k_ => XS.iconst hA hx rfl (hb hq d1_16) k_) ?_
    show OFin _ _ _ _ _ _ T0 (mkF m 17 #[.val (.int (2 : Int32)), .val (.int ca), .val (.int cb), .unset] [(.int (1 : Int32)), (.int (2 : Int32))])
    refine X0.step (fun hA hx hq t_ k_ => XS.icmpYes hA hx rfl (pc0 := 17) (pc' := 37) rfl (hb hq d1_17) rfl (feq ((by decide))).2 (by decide) (by decide) k_) ?_
    show OFin _ _ _ _ _ _ T0 (mkF m 37 #[.val (.int (2 : Int32)), .val (.int ca), .val (.int cb), .unset] [])
    refine X0.step (fun hA hx hq t_ k_ => XS.iconst hA hx rfl (hb hq d1_37) k_) ?_
    show OFin _ _ _ _ _ _ T0 (mkF m 38 #[.val (.int (2 : Int32)), .val (.int ca), .val (.int cb), .unset] [(.int (2 : Int32))])
    refine X0.newP (hw _ (List.mem_of_getElem? (i := 11) rfl)) (g := (mkF m 38 #[.val (.int (2 : Int32)), .val (.int ca), .val (.int cb), .unset] [(.int (2 : Int32))])) rfl d1_38 rfl (by decide) (cap := 2) (by decide) (by decide) (by decide) (by decide) (ad := "[C") (by first | rfl | decide) ?_
    intro T14 h14 k14 b14 gb14 X14 E14 A14 G14
    have B15 := B0.ext E14
    show OFin _ _ _ _ _ _ T14 (mkF m 40 #[.val (.int (2 : Int32)), .val (.int ca), .val (.int cb), .unset] [(.ref b14)])
    have V0 := OArr.new A14
    have hB : n0 ≤ b14 := by rw [gb14]; exact Z0
    refine X14.step (fun hA hx hq t_ k_ => XS.astoreN hA hx rfl (hb hq d1_40) rfl rfl (l' := #[.val (.int (2 : Int32)), .val (.int ca), .val (.int cb), .val (.ref b14)]) rfl k_) ?_
    show OFin _ _ _ _ _ _ T14 (mkF m 41 #[.val (.int (2 : Int32)), .val (.int ca), .val (.int cb), .val (.ref b14)] [])
    refine X14.step (fun hA hx hq t_ k_ => XS.aloadN hA hx rfl (hb hq d1_41) rfl rfl k_) ?_
    show OFin _ _ _ _ _ _ T14 (mkF m 42 #[.val (.int (2 : Int32)), .val (.int ca), .val (.int cb), .val (.ref b14)] [(.ref b14)])
    refine X14.step (fun hA hx hq t_ k_ => XS.iconst hA hx rfl (hb hq d1_42) k_) ?_
    show OFin _ _ _ _ _ _ T14 (mkF m 43 #[.val (.int (2 : Int32)), .val (.int ca), .val (.int cb), .val (.ref b14)] [(.int (0 : Int32)), (.ref b14)])
    refine X14.step (fun hA hx hq t_ k_ => XS.iloadN hA hx rfl (hb hq d1_43) rfl k_) ?_
    show OFin _ _ _ _ _ _ T14 (mkF m 44 #[.val (.int (2 : Int32)), .val (.int ca), .val (.int cb), .val (.ref b14)] [(.int ca), (.int (0 : Int32)), (.ref b14)])
    obtain ⟨c0, Ar0, Sr0, Hr0⟩ := id V0
    refine X14.stC Ar0 (by rw [Sr0]; decide) (hB) (g := (mkF m 44 #[.val (.int (2 : Int32)), .val (.int ca), .val (.int cb), .val (.ref b14)] [(.int ca), (.int (0 : Int32)), (.ref b14)])) rfl rfl d1_44 ?_
    intro T16 h16 X16 W16
    have B17 := B15.wr W16 (Safe.arr X14.1.2.1.alike Ar0 (by decide))
    show OFin _ _ _ _ _ _ T16 (mkF m 45 #[.val (.int (2 : Int32)), .val (.int ca), .val (.int cb), .val (.ref b14)] [])
    rw [own_narC _ (by have := h1.1; omega) (by have := h1.2; omega)] at W16
    have V1 := V0.set W16
    refine X16.step (fun hA hx hq t_ k_ => XS.aloadN hA hx rfl (hb hq d1_45) rfl rfl k_) ?_
    show OFin _ _ _ _ _ _ T16 (mkF m 46 #[.val (.int (2 : Int32)), .val (.int ca), .val (.int cb), .val (.ref b14)] [(.ref b14)])
    refine X16.step (fun hA hx hq t_ k_ => XS.iconst hA hx rfl (hb hq d1_46) k_) ?_
    show OFin _ _ _ _ _ _ T16 (mkF m 47 #[.val (.int (2 : Int32)), .val (.int ca), .val (.int cb), .val (.ref b14)] [(.int (1 : Int32)), (.ref b14)])
    refine X16.step (fun hA hx hq t_ k_ => XS.iloadN hA hx rfl (hb hq d1_47) rfl k_) ?_
    show OFin _ _ _ _ _ _ T16 (mkF m 48 #[.val (.int (2 : Int32)), .val (.int ca), .val (.int cb), .val (.ref b14)] [(.int cb), (.int (1 : Int32)), (.ref b14)])
    obtain ⟨c1, Ar1, Sr1, Hr1⟩ := id V1
    refine X16.stC Ar1 (by rw [Sr1]; decide) (hB) (g := (mkF m 48 #[.val (.int (2 : Int32)), .val (.int ca), .val (.int cb), .val (.ref b14)] [(.int cb), (.int (1 : Int32)), (.ref b14)])) rfl rfl d1_48 ?_
    intro T18 h18 X18 W18
    have B19 := B17.wr W18 (Safe.arr X16.1.2.1.alike Ar1 (by decide))
    show OFin _ _ _ _ _ _ T18 (mkF m 49 #[.val (.int (2 : Int32)), .val (.int ca), .val (.int cb), .val (.ref b14)] [])
    rw [own_narC _ (by have := h2.1; omega) (by have := h2.2; omega)] at W18
    have V2 := V1.set W18
    have VC : OArr Z h18 b14 .char 2 (fun j => .int ((own_g ca cb) j)) := V2.congr fun j hj => by
      have hj' : j < 2 := hj
      match j, hj' with
      | 0, _ => rfl
      | 1, _ => rfl
    have Kc : Keep h0 h18 [] := ((((Keep.refl h0 []).ext E14).wr W16 (Or.inr (Nat.le_of_eq gb14.symm))).wr W18 (Or.inr (Nat.le_of_eq gb14.symm)))
    refine X18.newO (hw _ (List.mem_of_getElem? (i := 8) rfl)) (hw _ (List.mem_of_getElem? (i := 9) rfl)) (hw _ (List.mem_of_getElem? (i := 10) rfl)) (g := (mkF m 49 #[.val (.int (2 : Int32)), .val (.int ca), .val (.int cb), .val (.ref b14)] [])) rfl d1_49 (by decide) (by decide) ?_
    intro T20 h20 b20 gb20 X20 E20 A20 D20
    have B21 := B19.ext E20
    show OFin _ _ _ _ _ _ T20 (mkF m 52 #[.val (.int (2 : Int32)), .val (.int ca), .val (.int cb), .val (.ref b14)] [(.ref b20)])
    have Fv : Fld Z h20 b20 "java/lang/String" "value" "[B" .null := D20 (Or.inr (hw _ (List.mem_of_getElem? (i := 24) rfl))) (ty := (.array .byte)) (by decide)
    have Fc : Fld Z h20 b20 "java/lang/String" "coder" "B" (.int (0 : Int32)) := D20 (Or.inr (hw _ (List.mem_of_getElem? (i := 25) rfl))) (ty := .byte) (by decide)
    have hs : h0.size ≤ b20 := by rw [gb20]; exact Kc.1
    have hm : n0 ≤ b20 := Nat.le_trans Z0 hs
    refine X20.step (fun hA hx hq t_ k_ => XS.dup hA hx rfl (hb hq d1_52) rfl rfl k_) ?_
    show OFin _ _ _ _ _ _ T20 (mkF m 53 #[.val (.int (2 : Int32)), .val (.int ca), .val (.int cb), .val (.ref b14)] [(.ref b20), (.ref b20)])
    refine X20.step (fun hA hx hq t_ k_ => XS.aloadN hA hx rfl (hb hq d1_53) rfl rfl k_) ?_
    show OFin _ _ _ _ _ _ T20 (mkF m 54 #[.val (.int (2 : Int32)), .val (.int ca), .val (.int cb), .val (.ref b14)] [(.ref b14), (.ref b20), (.ref b20)])
    refine X20.callI (y' := (⟨"java/lang/String", "<init>", "([C)V"⟩ : MethodName)) rfl (hw _ (List.mem_of_getElem? (i := 12) rfl)) (hw _ (List.mem_of_getElem? (i := 13) rfl)) (hw _ (List.mem_of_getElem? (i := 10) rfl)) (hw _ (List.mem_of_getElem? (i := 14) rfl)) (by decide) (a := b20) (argsL := [(.ref b14)]) (rest := [(.ref b20)]) (sm5 l Z a0 hw b20 b14 2 (own_g ca cb) cs h20 n0 Fv Fc A20 hm (VC.ext E20) (by decide) (by decide) (fun j _ => own_gok h1 h2 j) (Nat.le_trans Z0 (Nat.le_trans Kc.1 E20.1)) ((((SS.ext E14).wr W16).wr W18).ext E20) hcs) (g := (mkF m 54 #[.val (.int (2 : Int32)), .val (.int ca), .val (.int cb), .val (.ref b14)] [(.ref b14), (.ref b20), (.ref b20)])) rfl rfl pd_pA_Cr_V rfl rfl (W := 1) (by show 2 * 0 + _ ≤ _; exact Nat.le_of_eq rfl) d1_54 (by decide) (by decide) (by decide) (by decide) ?_
    intro v22 T22 h22 X22 q22
    obtain ⟨rfl, K22, t, S22, lt22⟩ := q22
    have B23 := B21.keep K22 (sfS (own_safeNull X20.1.2.1.alike A20 Fv) sf0)
    show OFin _ _ _ _ _ _ T22 (mkF m 57 #[.val (.int (2 : Int32)), .val (.int ca), .val (.int cb), .val (.ref b14)] [(.ref b20)])
    exact X22.retR rfl rfl d1_57 (oW X22 B23 (by decide) (by decide)) (⟨b20, t, rfl, S22, (Kc.ext E20).trans K22 (allS (Or.inr hs) all0), hs⟩)
theorem d5_0 : decode method_2_code 0 = .ok (.iload_n 0, 1) := by decide +kernel
theorem d5_1 : decode method_2_code 1 = .ok (.ifCond .ne 7, 3) := by decide +kernel
theorem d5_4 : decode method_2_code 4 = .ok (.getstatic 7, 3) := by decide +kernel
theorem d5_7 : decode method_2_code 7 = .ok (.areturn, 1) := by decide +kernel
theorem d5_8 : decode method_2_code 8 = .ok (.iload_n 0, 1) := by decide +kernel
theorem d5_9 : decode method_2_code 9 = .ok (.iconst 1, 1) := by decide +kernel
theorem d5_10 : decode method_2_code 10 = .ok (.if_icmp .ne 7, 3) := by decide +kernel
theorem d5_13 : decode method_2_code 13 = .ok (.getstatic 13, 3) := by decide +kernel
theorem d5_16 : decode method_2_code 16 = .ok (.areturn, 1) := by decide +kernel
theorem d5_17 : decode method_2_code 17 = .ok (.iload_n 0, 1) := by decide +kernel
theorem d5_18 : decode method_2_code 18 = .ok (.iconst 2, 1) := by decide +kernel
theorem d5_19 : decode method_2_code 19 = .ok (.if_icmp .ne 7, 3) := by decide +kernel
theorem d5_22 : decode method_2_code 22 = .ok (.getstatic 16, 3) := by decide +kernel
theorem d5_25 : decode method_2_code 25 = .ok (.areturn, 1) := by decide +kernel
theorem d5_26 : decode method_2_code 26 = .ok (.iload_n 0, 1) := by decide +kernel
theorem d5_27 : decode method_2_code 27 = .ok (.iconst 3, 1) := by decide +kernel
theorem d5_28 : decode method_2_code 28 = .ok (.if_icmp .ne 7, 3) := by decide +kernel
theorem d5_31 : decode method_2_code 31 = .ok (.getstatic 19, 3) := by decide +kernel
theorem d5_34 : decode method_2_code 34 = .ok (.areturn, 1) := by decide +kernel
theorem d5_35 : decode method_2_code 35 = .ok (.iload_n 0, 1) := by decide +kernel
theorem d5_36 : decode method_2_code 36 = .ok (.iconst 4, 1) := by decide +kernel
theorem d5_37 : decode method_2_code 37 = .ok (.if_icmp .ne 7, 3) := by decide +kernel
theorem d5_40 : decode method_2_code 40 = .ok (.getstatic 22, 3) := by decide +kernel
theorem d5_43 : decode method_2_code 43 = .ok (.areturn, 1) := by decide +kernel
theorem d5_44 : decode method_2_code 44 = .ok (.getstatic 25, 3) := by decide +kernel
theorem d5_47 : decode method_2_code 47 = .ok (.areturn, 1) := by decide +kernel
set_option maxRecDepth 65536 in
set_option maxHeartbeats 40000000 in
theorem rm2 (l : Launch) (Z : State) (a0 : Array Value) (hw : ∀ d ∈ tables_1, d.before a0 Z = true) (p0 : Int32) (kR kC kT kN kK kA : Addr) (h0 : Heap) (n0 : Nat) (SR : Sta Z h0 "com/example/replay_proof/replayproof/model/Name$Kind" "ROLE" "Lcom/example/replay_proof/replayproof/model/Name$Kind;" (.ref kR)) (SC : Sta Z h0 "com/example/replay_proof/replayproof/model/Name$Kind" "CONSTANT" "Lcom/example/replay_proof/replayproof/model/Name$Kind;" (.ref kC)) (ST : Sta Z h0 "com/example/replay_proof/replayproof/model/Name$Kind" "TIMESTAMP" "Lcom/example/replay_proof/replayproof/model/Name$Kind;" (.ref kT)) (SN : Sta Z h0 "com/example/replay_proof/replayproof/model/Name$Kind" "NONCE" "Lcom/example/replay_proof/replayproof/model/Name$Kind;" (.ref kN)) (SK : Sta Z h0 "com/example/replay_proof/replayproof/model/Name$Kind" "KEY" "Lcom/example/replay_proof/replayproof/model/Name$Kind;" (.ref kK)) (SA : Sta Z h0 "com/example/replay_proof/replayproof/model/Name$Kind" "AGENT" "Lcom/example/replay_proof/replayproof/model/Name$Kind;" (.ref kA)) :
    OMeets l Z (⟨"com/example/replay_proof/replayproof/model/NameEqualsPinLaw", "kindOf", "(I)Lcom/example/replay_proof/replayproof/model/Name$Kind;"⟩ : MethodName) [] method_2_code 1 (some (.object "com/example/replay_proof/replayproof/model/Name$Kind")) ({ frames := 0, cells := 0, slots := 0, locals := 0 } : Room) #[(.int p0)] h0 n0 (fun v h => v = some (.ref (own_kind p0 kR kC kT kN kK kA)) ∧ h0 = h) := by
  refine o_enter (Z := Z) (plainFor_of_name pn_com_example_replay_proof_replayproof_model_NameEqualsPinLaw) ?_
  intro p e s m below meth c T0 X0
  refine OFin.cast (g' := (mkF m 0 #[.val (.int p0)] [])) (by first | (simp [entryFrame, mkF, argsToLocals, Value.category]; done) | rfl) ?_
  refine X0.step (fun hA hx hq t_ k_ => XS.iloadN hA hx rfl (hb hq d5_0) rfl k_) ?_
  show OFin _ _ _ _ _ _ T0 (mkF m 1 #[.val (.int p0)] [(.int p0)])
  by_cases c0 : p0 = (0 : Int32)
  · refine X0.step (fun hA hx hq t_ k_ => XS.ifNo hA hx rfl (hb hq d5_1) rfl ((if0 _ _).trans (teq (c0)).2) k_) ?_
    show OFin _ _ _ _ _ _ T0 (mkF m 4 #[.val (.int p0)] [])
    refine X0.getS (hw _ (List.mem_of_getElem? (i := 56) rfl)) SR (g := (mkF m 4 #[.val (.int p0)] [])) rfl d5_4 ?_
    intro T1 X1
    show OFin _ _ _ _ _ _ T1 (mkF m 7 #[.val (.int p0)] [(.ref kR)])
    exact X1.retR rfl rfl d5_7 (oN (by decide) (by decide)) (⟨by unfold own_kind; rw [if_pos c0], rfl⟩)
  · refine X0.step (fun hA hx hq t_ k_ => XS.ifYes hA hx rfl (pc0 := 1) (pc' := 8) rfl (hb hq d5_1) rfl ((if0 _ _).trans (feq (c0)).2) (by decide) (by decide) k_) ?_
    show OFin _ _ _ _ _ _ T0 (mkF m 8 #[.val (.int p0)] [])
    refine X0.step (fun hA hx hq t_ k_ => XS.iloadN hA hx rfl (hb hq d5_8) rfl k_) ?_
    show OFin _ _ _ _ _ _ T0 (mkF m 9 #[.val (.int p0)] [(.int p0)])
    refine X0.step (fun hA hx hq t_ k_ => XS.iconst hA hx rfl (hb hq d5_9) k_) ?_
    show OFin _ _ _ _ _ _ T0 (mkF m 10 #[.val (.int p0)] [(.int (1 : Int32)), (.int p0)])
    by_cases c1 : p0 = (1 : Int32)
    · refine X0.step (fun hA hx hq t_ k_ => XS.icmpNo hA hx rfl (hb hq d5_10) rfl (teq (c1)).2 k_) ?_
      show OFin _ _ _ _ _ _ T0 (mkF m 13 #[.val (.int p0)] [])
      refine X0.getS (hw _ (List.mem_of_getElem? (i := 92) rfl)) SC (g := (mkF m 13 #[.val (.int p0)] [])) rfl d5_13 ?_
      intro T2 X2
      show OFin _ _ _ _ _ _ T2 (mkF m 16 #[.val (.int p0)] [(.ref kC)])
      exact X2.retR rfl rfl d5_16 (oN (by decide) (by decide)) (⟨by unfold own_kind; rw [if_neg c0, if_pos c1], rfl⟩)
    · refine X0.step (fun hA hx hq t_ k_ => XS.icmpYes hA hx rfl (pc0 := 10) (pc' := 17) rfl (hb hq d5_10) rfl (feq (c1)).2 (by decide) (by decide) k_) ?_
      show OFin _ _ _ _ _ _ T0 (mkF m 17 #[.val (.int p0)] [])
      refine X0.step (fun hA hx hq t_ k_ => XS.iloadN hA hx rfl (hb hq d5_17) rfl k_) ?_
      show OFin _ _ _ _ _ _ T0 (mkF m 18 #[.val (.int p0)] [(.int p0)])
      refine X0.step (fun hA hx hq t_ k_ => XS.iconst hA hx rfl (hb hq d5_18) k_) ?_
      show OFin _ _ _ _ _ _ T0 (mkF m 19 #[.val (.int p0)] [(.int (2 : Int32)), (.int p0)])
      by_cases c2 : p0 = (2 : Int32)
      · refine X0.step (fun hA hx hq t_ k_ => XS.icmpNo hA hx rfl (hb hq d5_19) rfl (teq (c2)).2 k_) ?_
        show OFin _ _ _ _ _ _ T0 (mkF m 22 #[.val (.int p0)] [])
        refine X0.getS (hw _ (List.mem_of_getElem? (i := 33) rfl)) ST (g := (mkF m 22 #[.val (.int p0)] [])) rfl d5_22 ?_
        intro T3 X3
        show OFin _ _ _ _ _ _ T3 (mkF m 25 #[.val (.int p0)] [(.ref kT)])
        exact X3.retR rfl rfl d5_25 (oN (by decide) (by decide)) (⟨by unfold own_kind; rw [if_neg c0, if_neg c1, if_pos c2], rfl⟩)
      · refine X0.step (fun hA hx hq t_ k_ => XS.icmpYes hA hx rfl (pc0 := 19) (pc' := 26) rfl (hb hq d5_19) rfl (feq (c2)).2 (by decide) (by decide) k_) ?_
        show OFin _ _ _ _ _ _ T0 (mkF m 26 #[.val (.int p0)] [])
        refine X0.step (fun hA hx hq t_ k_ => XS.iloadN hA hx rfl (hb hq d5_26) rfl k_) ?_
        show OFin _ _ _ _ _ _ T0 (mkF m 27 #[.val (.int p0)] [(.int p0)])
        refine X0.step (fun hA hx hq t_ k_ => XS.iconst hA hx rfl (hb hq d5_27) k_) ?_
        show OFin _ _ _ _ _ _ T0 (mkF m 28 #[.val (.int p0)] [(.int (3 : Int32)), (.int p0)])
        by_cases c3 : p0 = (3 : Int32)
        · refine X0.step (fun hA hx hq t_ k_ => XS.icmpNo hA hx rfl (hb hq d5_28) rfl (teq (c3)).2 k_) ?_
          show OFin _ _ _ _ _ _ T0 (mkF m 31 #[.val (.int p0)] [])
          refine X0.getS (hw _ (List.mem_of_getElem? (i := 94) rfl)) SN (g := (mkF m 31 #[.val (.int p0)] [])) rfl d5_31 ?_
          intro T4 X4
          show OFin _ _ _ _ _ _ T4 (mkF m 34 #[.val (.int p0)] [(.ref kN)])
          exact X4.retR rfl rfl d5_34 (oN (by decide) (by decide)) (⟨by unfold own_kind; rw [if_neg c0, if_neg c1, if_neg c2, if_pos c3], rfl⟩)
        · refine X0.step (fun hA hx hq t_ k_ => XS.icmpYes hA hx rfl (pc0 := 28) (pc' := 35) rfl (hb hq d5_28) rfl (feq (c3)).2 (by decide) (by decide) k_) ?_
          show OFin _ _ _ _ _ _ T0 (mkF m 35 #[.val (.int p0)] [])
          refine X0.step (fun hA hx hq t_ k_ => XS.iloadN hA hx rfl (hb hq d5_35) rfl k_) ?_
          show OFin _ _ _ _ _ _ T0 (mkF m 36 #[.val (.int p0)] [(.int p0)])
          refine X0.step (fun hA hx hq t_ k_ => XS.iconst hA hx rfl (hb hq d5_36) k_) ?_
          show OFin _ _ _ _ _ _ T0 (mkF m 37 #[.val (.int p0)] [(.int (4 : Int32)), (.int p0)])
          by_cases c4 : p0 = (4 : Int32)
          · refine X0.step (fun hA hx hq t_ k_ => XS.icmpNo hA hx rfl (hb hq d5_37) rfl (teq (c4)).2 k_) ?_
            show OFin _ _ _ _ _ _ T0 (mkF m 40 #[.val (.int p0)] [])
            refine X0.getS (hw _ (List.mem_of_getElem? (i := 76) rfl)) SK (g := (mkF m 40 #[.val (.int p0)] [])) rfl d5_40 ?_
            intro T5 X5
            show OFin _ _ _ _ _ _ T5 (mkF m 43 #[.val (.int p0)] [(.ref kK)])
            exact X5.retR rfl rfl d5_43 (oN (by decide) (by decide)) (⟨by unfold own_kind; rw [if_neg c0, if_neg c1, if_neg c2, if_neg c3, if_pos c4], rfl⟩)
          · refine X0.step (fun hA hx hq t_ k_ => XS.icmpYes hA hx rfl (pc0 := 37) (pc' := 44) rfl (hb hq d5_37) rfl (feq (c4)).2 (by decide) (by decide) k_) ?_
            show OFin _ _ _ _ _ _ T0 (mkF m 44 #[.val (.int p0)] [])
            refine X0.getS (hw _ (List.mem_of_getElem? (i := 90) rfl)) SA (g := (mkF m 44 #[.val (.int p0)] [])) rfl d5_44 ?_
            intro T6 X6
            show OFin _ _ _ _ _ _ T6 (mkF m 47 #[.val (.int p0)] [(.ref kA)])
            exact X6.retR rfl rfl d5_47 (oN (by decide) (by decide)) (⟨by unfold own_kind; rw [if_neg c0, if_neg c1, if_neg c2, if_neg c3, if_neg c4], rfl⟩)
theorem pn_com_example_replay_proof_replayproof_model_Message : plainName "com/example/replay_proof/replayproof/model/Message" = true := by first | (simp [plainName, overriddenIn]; done) | decide +kernel
theorem d7_0 : decode prog_80_method_1_code 0 = .ok (.aload_n 0, 1) := by decide +kernel
theorem d7_1 : decode prog_80_method_1_code 1 = .ok (.invokespecial 1, 3) := by decide +kernel
theorem d7_4 : decode prog_80_method_1_code 4 = .ok (.return_, 1) := by decide +kernel
set_option maxRecDepth 65536 in
set_option maxHeartbeats 40000000 in
theorem rm3 (l : Launch) (Z : State) (a0 : Array Value) (hw : ∀ d ∈ tables_1, d.before a0 Z = true) (a1 : Addr) (h0 : Heap) (n0 : Nat)  :
    OMeets l Z (⟨"com/example/replay_proof/replayproof/model/Message", "<init>", "()V"⟩ : MethodName) [] prog_80_method_1_code 1 none ({ frames := 1, cells := 0, slots := 0, locals := 12 } : Room) #[(.ref a1)] h0 n0 (fun v h => v = none ∧ h0 = h) := by
  refine o_enter (Z := Z) (plainFor_of_name pn_com_example_replay_proof_replayproof_model_Message) ?_
  intro p e s m below meth c T0 X0
  refine OFin.cast (g' := (mkF m 0 #[.val (.ref a1)] [])) (by first | (simp [entryFrame, mkF, argsToLocals, Value.category]; done) | rfl) ?_
  refine X0.step (fun hA hx hq t_ k_ => XS.aloadN hA hx rfl (hb hq d7_0) rfl rfl k_) ?_
  show OFin _ _ _ _ _ _ T0 (mkF m 1 #[.val (.ref a1)] [(.ref a1)])
  refine X0.initO (hw _ (List.mem_of_getElem? (i := 44) rfl)) (hw _ (List.mem_of_getElem? (i := 20) rfl)) (hw _ (List.mem_of_getElem? (i := 21) rfl)) (g := (mkF m 1 #[.val (.ref a1)] [(.ref a1)])) rfl rfl rfl d7_1 (by decide) (W := 0) (by show 2 * 0 + _ ≤ _; exact Nat.le_of_eq rfl) (by decide) ?_
  intro T1 X1
  show OFin _ _ _ _ _ _ T1 (mkF m 4 #[.val (.ref a1)] [])
  exact X1.retV d7_4 (oN (by decide) (by decide)) (⟨rfl, rfl⟩)
theorem pn_java_util_Objects : plainName "java/util/Objects" = true := by first | (simp [plainName, overriddenIn]; done) | decide +kernel
theorem d8_0 : decode jdk_31_method_10_code 0 = .ok (.aload_n 0, 1) := by decide +kernel
theorem d8_1 : decode jdk_31_method_10_code 1 = .ok (.ifnonnull 11, 3) := by decide +kernel
theorem d8_12 : decode jdk_31_method_10_code 12 = .ok (.aload_n 0, 1) := by decide +kernel
theorem d8_13 : decode jdk_31_method_10_code 13 = .ok (.areturn, 1) := by decide +kernel
set_option maxRecDepth 65536 in
set_option maxHeartbeats 40000000 in
theorem rm4 (l : Launch) (Z : State) (a0 : Array Value) (hw : ∀ d ∈ tables_1, d.before a0 Z = true) (a1 : Addr) (h0 : Heap) (n0 : Nat)  :
    OMeets l Z (⟨"java/util/Objects", "requireNonNull", "(Ljava/lang/Object;)Ljava/lang/Object;"⟩ : MethodName) [] jdk_31_method_10_code 1 (some (.object "java/lang/Object")) ({ frames := 0, cells := 0, slots := 0, locals := 0 } : Room) #[(.ref a1)] h0 n0 (fun v h => v = some (.ref a1) ∧ h0 = h) := by
  refine o_enter (Z := Z) (plainFor_of_name pn_java_util_Objects) ?_
  intro p e s m below meth c T0 X0
  refine OFin.cast (g' := (mkF m 0 #[.val (.ref a1)] [])) (by first | (simp [entryFrame, mkF, argsToLocals, Value.category]; done) | rfl) ?_
  refine X0.step (fun hA hx hq t_ k_ => XS.aloadN hA hx rfl (hb hq d8_0) rfl rfl k_) ?_
  show OFin _ _ _ _ _ _ T0 (mkF m 1 #[.val (.ref a1)] [(.ref a1)])
  refine X0.step (fun hA hx hq t_ k_ => XS.ifnonnullYes hA hx rfl (pc0 := 1) (pc' := 12) rfl (hb hq d8_1) rfl (by decide) (by decide) k_) ?_
  show OFin _ _ _ _ _ _ T0 (mkF m 12 #[.val (.ref a1)] [])
  refine X0.step (fun hA hx hq t_ k_ => XS.aloadN hA hx rfl (hb hq d8_12) rfl rfl k_) ?_
  show OFin _ _ _ _ _ _ T0 (mkF m 13 #[.val (.ref a1)] [(.ref a1)])
  exact X0.retR rfl rfl d8_13 (oN (by decide) (by decide)) (⟨rfl, rfl⟩)
theorem pn_com_example_replay_proof_replayproof_model_Name : plainName "com/example/replay_proof/replayproof/model/Name" = true := by first | (simp [plainName, overriddenIn]; done) | decide +kernel
theorem d6_0 : decode prog_81_method_1_code 0 = .ok (.aload_n 0, 1) := by decide +kernel
theorem d6_1 : decode prog_81_method_1_code 1 = .ok (.invokespecial 1, 3) := by decide +kernel
theorem pd_pr_V : parseMethodDescriptor "()V" = some ⟨[], none⟩ := by decide +kernel
theorem d6_4 : decode prog_81_method_1_code 4 = .ok (.aload_n 0, 1) := by decide +kernel
theorem d6_5 : decode prog_81_method_1_code 5 = .ok (.aload_n 1, 1) := by decide +kernel
theorem d6_6 : decode prog_81_method_1_code 6 = .ok (.invokestatic 7, 3) := by decide +kernel
theorem pd_pLjava_lang_Object_r_Ljava_lang_Object_ : parseMethodDescriptor "(Ljava/lang/Object;)Ljava/lang/Object;" = some ⟨[(.object "java/lang/Object")], some (.object "java/lang/Object")⟩ := by decide +kernel
theorem d6_9 : decode prog_81_method_1_code 9 = .ok (.checkcast 13, 3) := by decide +kernel
theorem d6_12 : decode prog_81_method_1_code 12 = .ok (.putfield 15, 3) := by decide +kernel
theorem d6_15 : decode prog_81_method_1_code 15 = .ok (.aload_n 0, 1) := by decide +kernel
theorem d6_16 : decode prog_81_method_1_code 16 = .ok (.aload_n 2, 1) := by decide +kernel
theorem d6_17 : decode prog_81_method_1_code 17 = .ok (.invokestatic 7, 3) := by decide +kernel
theorem d6_20 : decode prog_81_method_1_code 20 = .ok (.checkcast 21, 3) := by decide +kernel
theorem d6_23 : decode prog_81_method_1_code 23 = .ok (.putfield 23, 3) := by decide +kernel
theorem d6_26 : decode prog_81_method_1_code 26 = .ok (.return_, 1) := by decide +kernel
set_option maxRecDepth 65536 in
set_option maxHeartbeats 40000000 in
theorem rm5 (l : Launch) (Z : State) (a0 : Array Value) (hw : ∀ d ∈ tables_1, d.before a0 Z = true) (a1 tx kd : Addr) (h0 : Heap) (n0 : Nat) (F1 : Fld Z h0 a1 "com/example/replay_proof/replayproof/model/Name" "text" "Ljava/lang/String;" .null) (F2 : Fld Z h0 a1 "com/example/replay_proof/replayproof/model/Name" "kind" "Lcom/example/replay_proof/replayproof/model/Name$Kind;" .null) (E : Exa Z h0 a1 "com/example/replay_proof/replayproof/model/Name") (hn : n0 ≤ a1) (ET : Exa Z h0 tx "java/lang/String") (EK : Exa Z h0 kd "com/example/replay_proof/replayproof/model/Name$Kind") :
    OMeets l Z (⟨"com/example/replay_proof/replayproof/model/Name", "<init>", "(Ljava/lang/String;Lcom/example/replay_proof/replayproof/model/Name$Kind;)V"⟩ : MethodName) [] prog_81_method_1_code 3 none ({ frames := 2, cells := 0, slots := 0, locals := 24 } : Room) #[(.ref a1), (.ref tx), (.ref kd)] h0 n0 (fun v h => v = none ∧ Keep h0 h [a1] ∧ Exa Z h a1 "com/example/replay_proof/replayproof/model/Name" ∧ Fld Z h a1 "com/example/replay_proof/replayproof/model/Name" "text" "Ljava/lang/String;" (.ref tx) ∧ Fld Z h a1 "com/example/replay_proof/replayproof/model/Name" "kind" "Lcom/example/replay_proof/replayproof/model/Name$Kind;" (.ref kd)) := by
  refine o_enter (Z := Z) (plainFor_of_name pn_com_example_replay_proof_replayproof_model_Name) ?_
  intro p e s m below meth c T0 X0
  refine OFin.cast (g' := (mkF m 0 #[.val (.ref a1), .val (.ref tx), .val (.ref kd)] [])) (by first | (simp [entryFrame, mkF, argsToLocals, Value.category]; done) | rfl) ?_
  have sne := slot_ne (Or.inr (hw _ (List.mem_of_getElem? (i := 55) rfl))) (Or.inr (hw _ (List.mem_of_getElem? (i := 51) rfl))) (by decide) (t := (.object "com/example/replay_proof/replayproof/model/Name$Kind")) (t' := (.object "java/lang/String")) (by decide) (by decide)
  refine X0.step (fun hA hx hq t_ k_ => XS.aloadN hA hx rfl (hb hq d6_0) rfl rfl k_) ?_
  show OFin _ _ _ _ _ _ T0 (mkF m 1 #[.val (.ref a1), .val (.ref tx), .val (.ref kd)] [(.ref a1)])
  refine X0.callI (y' := (⟨"com/example/replay_proof/replayproof/model/Message", "<init>", "()V"⟩ : MethodName)) rfl (hw _ (List.mem_of_getElem? (i := 39) rfl)) (hw _ (List.mem_of_getElem? (i := 40) rfl)) (hw _ (List.mem_of_getElem? (i := 42) rfl)) (hw _ (List.mem_of_getElem? (i := 43) rfl)) (by decide) (a := a1) (argsL := []) (rest := []) (rm3 l Z a0 hw a1 h0 n0) (g := (mkF m 1 #[.val (.ref a1), .val (.ref tx), .val (.ref kd)] [(.ref a1)])) rfl rfl pd_pr_V rfl rfl (W := 0) (by show 2 * 0 + _ ≤ _; exact Nat.le_of_eq rfl) d6_1 (by decide) (by decide) (by decide) (by decide) ?_
  intro v1 T1 h1 X1 q1
  obtain ⟨rfl, rfl⟩ := q1
  show OFin _ _ _ _ _ _ T1 (mkF m 4 #[.val (.ref a1), .val (.ref tx), .val (.ref kd)] [])
  refine X1.step (fun hA hx hq t_ k_ => XS.aloadN hA hx rfl (hb hq d6_4) rfl rfl k_) ?_
  show OFin _ _ _ _ _ _ T1 (mkF m 5 #[.val (.ref a1), .val (.ref tx), .val (.ref kd)] [(.ref a1)])
  refine X1.step (fun hA hx hq t_ k_ => XS.aloadN hA hx rfl (hb hq d6_5) rfl rfl k_) ?_
  show OFin _ _ _ _ _ _ T1 (mkF m 6 #[.val (.ref a1), .val (.ref tx), .val (.ref kd)] [(.ref tx), (.ref a1)])
  refine X1.callS (y' := (⟨"java/util/Objects", "requireNonNull", "(Ljava/lang/Object;)Ljava/lang/Object;"⟩ : MethodName)) (hw _ (List.mem_of_getElem? (i := 45) rfl)) (hw _ (List.mem_of_getElem? (i := 46) rfl)) (hw _ (List.mem_of_getElem? (i := 47) rfl)) (hw _ (List.mem_of_getElem? (i := 48) rfl)) (by decide) (argsL := [(.ref tx)]) (rest := [(.ref a1)]) (rm4 l Z a0 hw tx h0 n0) (g := (mkF m 6 #[.val (.ref a1), .val (.ref tx), .val (.ref kd)] [(.ref tx), (.ref a1)])) rfl rfl pd_pLjava_lang_Object_r_Ljava_lang_Object_ rfl rfl (W := 1) (by show 2 * 0 + _ ≤ _; exact Nat.le_of_eq rfl) d6_6 (by decide) (by decide) (by decide) (by decide) ?_
  intro v2 T2 h2 X2 q2
  obtain ⟨rfl, rfl⟩ := q2
  show OFin _ _ _ _ _ _ T2 (mkF m 9 #[.val (.ref a1), .val (.ref tx), .val (.ref kd)] [(.ref tx), (.ref a1)])
  refine X2.castY (hw _ (List.mem_of_getElem? (i := 49) rfl)) (Ins.self ET) (g := (mkF m 9 #[.val (.ref a1), .val (.ref tx), .val (.ref kd)] [(.ref tx), (.ref a1)])) rfl rfl d6_9 ?_
  intro T3 X3
  show OFin _ _ _ _ _ _ T3 (mkF m 12 #[.val (.ref a1), .val (.ref tx), .val (.ref kd)] [(.ref tx), (.ref a1)])
  refine X3.putF (hw _ (List.mem_of_getElem? (i := 50) rfl)) F1 E (Or.inr ⟨(hw _ (List.mem_of_getElem? (i := 51) rfl)), rfl, rfl⟩) (hw _ (List.mem_of_getElem? (i := 2) rfl)) (ty := (.object "java/lang/String")) (by decide) rfl rfl hn (g := (mkF m 12 #[.val (.ref a1), .val (.ref tx), .val (.ref kd)] [(.ref tx), (.ref a1)])) rfl rfl d6_12 ?_
  intro T4 h4 X4 W4
  show OFin _ _ _ _ _ _ T4 (mkF m 15 #[.val (.ref a1), .val (.ref tx), .val (.ref kd)] [])
  refine X4.step (fun hA hx hq t_ k_ => XS.aloadN hA hx rfl (hb hq d6_15) rfl rfl k_) ?_
  show OFin _ _ _ _ _ _ T4 (mkF m 16 #[.val (.ref a1), .val (.ref tx), .val (.ref kd)] [(.ref a1)])
  refine X4.step (fun hA hx hq t_ k_ => XS.aloadN hA hx rfl (hb hq d6_16) rfl rfl k_) ?_
  show OFin _ _ _ _ _ _ T4 (mkF m 17 #[.val (.ref a1), .val (.ref tx), .val (.ref kd)] [(.ref kd), (.ref a1)])
  refine X4.callS (y' := (⟨"java/util/Objects", "requireNonNull", "(Ljava/lang/Object;)Ljava/lang/Object;"⟩ : MethodName)) (hw _ (List.mem_of_getElem? (i := 45) rfl)) (hw _ (List.mem_of_getElem? (i := 46) rfl)) (hw _ (List.mem_of_getElem? (i := 47) rfl)) (hw _ (List.mem_of_getElem? (i := 48) rfl)) (by decide) (argsL := [(.ref kd)]) (rest := [(.ref a1)]) (rm4 l Z a0 hw kd h4 n0) (g := (mkF m 17 #[.val (.ref a1), .val (.ref tx), .val (.ref kd)] [(.ref kd), (.ref a1)])) rfl rfl pd_pLjava_lang_Object_r_Ljava_lang_Object_ rfl rfl (W := 1) (by show 2 * 0 + _ ≤ _; exact Nat.le_of_eq rfl) d6_17 (by decide) (by decide) (by decide) (by decide) ?_
  intro v5 T5 h5 X5 q5
  obtain ⟨rfl, rfl⟩ := q5
  show OFin _ _ _ _ _ _ T5 (mkF m 20 #[.val (.ref a1), .val (.ref tx), .val (.ref kd)] [(.ref kd), (.ref a1)])
  refine X5.castY (hw _ (List.mem_of_getElem? (i := 52) rfl)) (Ins.self (EK.wr W4)) (g := (mkF m 20 #[.val (.ref a1), .val (.ref tx), .val (.ref kd)] [(.ref kd), (.ref a1)])) rfl rfl d6_20 ?_
  intro T6 X6
  show OFin _ _ _ _ _ _ T6 (mkF m 23 #[.val (.ref a1), .val (.ref tx), .val (.ref kd)] [(.ref kd), (.ref a1)])
  refine X6.putF (hw _ (List.mem_of_getElem? (i := 54) rfl)) (F2.other W4 (Or.inr sne)) (E.wr W4) (Or.inr ⟨(hw _ (List.mem_of_getElem? (i := 55) rfl)), rfl, rfl⟩) (hw _ (List.mem_of_getElem? (i := 2) rfl)) (ty := (.object "com/example/replay_proof/replayproof/model/Name$Kind")) (by decide) rfl rfl hn (g := (mkF m 23 #[.val (.ref a1), .val (.ref tx), .val (.ref kd)] [(.ref kd), (.ref a1)])) rfl rfl d6_23 ?_
  intro T7 h7 X7 W7
  show OFin _ _ _ _ _ _ T7 (mkF m 26 #[.val (.ref a1), .val (.ref tx), .val (.ref kd)] [])
  exact X7.retV d6_26 (oN (by decide) (by decide)) (⟨rfl, (Keep.of_wr W4).wr W7 (Or.inl (List.mem_of_getElem? (i := 0) rfl)), (E.wr W4).wr W7, (F1.same W4).other W7 (Or.inr (Ne.symm sne)), (F2.other W4 (Or.inr sne)).same W7⟩)
theorem d9_0 : decode prog_81_method_6_code 0 = .ok (.aload_n 1, 1) := by decide +kernel
theorem d9_1 : decode prog_81_method_6_code 1 = .ok (.instanceof 16, 3) := by decide +kernel
theorem d9_4 : decode prog_81_method_6_code 4 = .ok (.ifCond .eq 37, 3) := by decide +kernel
theorem d9_7 : decode prog_81_method_6_code 7 = .ok (.aload_n 1, 1) := by decide +kernel
theorem d9_8 : decode prog_81_method_6_code 8 = .ok (.checkcast 16, 3) := by decide +kernel
theorem d9_11 : decode prog_81_method_6_code 11 = .ok (.astore_n 2, 1) := by decide +kernel
theorem d9_12 : decode prog_81_method_6_code 12 = .ok (.aload_n 0, 1) := by decide +kernel
theorem d9_13 : decode prog_81_method_6_code 13 = .ok (.getfield 15, 3) := by decide +kernel
theorem d9_16 : decode prog_81_method_6_code 16 = .ok (.aload_n 2, 1) := by decide +kernel
theorem d9_17 : decode prog_81_method_6_code 17 = .ok (.getfield 15, 3) := by decide +kernel
theorem pd_pLjava_lang_Object_r_Z : parseMethodDescriptor "(Ljava/lang/Object;)Z" = some ⟨[(.object "java/lang/Object")], some .boolean⟩ := by decide +kernel
theorem d9_20 : decode prog_81_method_6_code 20 = .ok (.invokevirtual 45, 3) := by decide +kernel
theorem d9_23 : decode prog_81_method_6_code 23 = .ok (.ifCond .eq 18, 3) := by decide +kernel
theorem d9_41 : decode prog_81_method_6_code 41 = .ok (.iconst 0, 1) := by decide +kernel
theorem d9_42 : decode prog_81_method_6_code 42 = .ok (.ireturn, 1) := by decide +kernel
theorem d9_26 : decode prog_81_method_6_code 26 = .ok (.aload_n 0, 1) := by decide +kernel
theorem d9_27 : decode prog_81_method_6_code 27 = .ok (.getfield 23, 3) := by decide +kernel
theorem d9_30 : decode prog_81_method_6_code 30 = .ok (.aload_n 2, 1) := by decide +kernel
theorem d9_31 : decode prog_81_method_6_code 31 = .ok (.getfield 23, 3) := by decide +kernel
theorem d9_34 : decode prog_81_method_6_code 34 = .ok (.if_acmp .ne 7, 3) := by decide +kernel
theorem d9_37 : decode prog_81_method_6_code 37 = .ok (.iconst 1, 1) := by decide +kernel
theorem d9_38 : decode prog_81_method_6_code 38 = .ok (.goto 4, 3) := by decide +kernel
set_option maxRecDepth 65536 in
set_option maxHeartbeats 40000000 in
theorem rm6 (l : Launch) (Z : State) (a0 : Array Value) (hw : ∀ d ∈ tables_1, d.before a0 Z = true) (a1 a2 s1 s2 t1 t2 k1 k2 : Addr) (N1 N2 : Nat) (f1 f2 : Nat → Int32) (cs : Int32) (h0 : Heap) (n0 : Nat) (F1 : Fld Z h0 a1 "com/example/replay_proof/replayproof/model/Name" "text" "Ljava/lang/String;" (.ref s1)) (F2 : Fld Z h0 a1 "com/example/replay_proof/replayproof/model/Name" "kind" "Lcom/example/replay_proof/replayproof/model/Name$Kind;" (.ref k1)) (G1 : Fld Z h0 a2 "com/example/replay_proof/replayproof/model/Name" "text" "Ljava/lang/String;" (.ref s2)) (G2 : Fld Z h0 a2 "com/example/replay_proof/replayproof/model/Name" "kind" "Lcom/example/replay_proof/replayproof/model/Name$Kind;" (.ref k2)) (E : Exa Z h0 a2 "com/example/replay_proof/replayproof/model/Name") (S1 : OStr Z h0 s1 t1 N1 f1) (S2 : OStr Z h0 s2 t2 N2 f2) (hN1 : N1 ≤ 4000) (hN2 : N2 ≤ 4000) (ne : s1 ≠ s2) (SS : Sta Z h0 "java/lang/String" "COMPACT_STRINGS" "Z" (.int cs)) (hcs : ¬ cs = 0) :
    OMeets l Z (⟨"com/example/replay_proof/replayproof/model/Name", "equals", "(Ljava/lang/Object;)Z"⟩ : MethodName) [] prog_81_method_6_code 3 (some .boolean) ({ frames := 2, cells := 0, slots := 0, locals := 28 } : Room) #[(.ref a1), (.ref a2)] h0 n0 (fun v h => h0 = h ∧ ∃ g, v = some (.int g) ∧ own_tv g ((N1 = N2 ∧ ∀ j, j < N1 → (f1 j).toInt8.toInt32 = (f2 j).toInt8.toInt32) ∧ k1 = k2)) := by
  refine o_enter (Z := Z) (plainFor_of_name pn_com_example_replay_proof_replayproof_model_Name) ?_
  intro p e s m below meth c T0 X0
  refine OFin.cast (g' := (mkF m 0 #[.val (.ref a1), .val (.ref a2), .unset] [])) (by first | (simp [entryFrame, mkF, argsToLocals, Value.category]; done) | rfl) ?_
  refine X0.step (fun hA hx hq t_ k_ => XS.aloadN hA hx rfl (hb hq d9_0) rfl rfl k_) ?_
  show OFin _ _ _ _ _ _ T0 (mkF m 1 #[.val (.ref a1), .val (.ref a2), .unset] [(.ref a2)])
  refine X0.instY (hw _ (List.mem_of_getElem? (i := 63) rfl)) (Ins.self E) (g := (mkF m 1 #[.val (.ref a1), .val (.ref a2), .unset] [(.ref a2)])) rfl rfl d9_1 ?_
  intro T1 X1
  show OFin _ _ _ _ _ _ T1 (mkF m 4 #[.val (.ref a1), .val (.ref a2), .unset] [(.int (1 : Int32))])
  refine X1.step (fun hA hx hq t_ k_ => XS.ifNo hA hx rfl (hb hq d9_4) rfl ((if0 _ _).trans (feq ((by decide))).1) k_) ?_
  show OFin _ _ _ _ _ _ T1 (mkF m 7 #[.val (.ref a1), .val (.ref a2), .unset] [])
  refine X1.step (fun hA hx hq t_ k_ => XS.aloadN hA hx rfl (hb hq d9_7) rfl rfl k_) ?_
  show OFin _ _ _ _ _ _ T1 (mkF m 8 #[.val (.ref a1), .val (.ref a2), .unset] [(.ref a2)])
  refine X1.castY (hw _ (List.mem_of_getElem? (i := 63) rfl)) (Ins.self E) (g := (mkF m 8 #[.val (.ref a1), .val (.ref a2), .unset] [(.ref a2)])) rfl rfl d9_8 ?_
  intro T2 X2
  show OFin _ _ _ _ _ _ T2 (mkF m 11 #[.val (.ref a1), .val (.ref a2), .unset] [(.ref a2)])
  refine X2.step (fun hA hx hq t_ k_ => XS.astoreN hA hx rfl (hb hq d9_11) rfl rfl (l' := #[.val (.ref a1), .val (.ref a2), .val (.ref a2)]) rfl k_) ?_
  show OFin _ _ _ _ _ _ T2 (mkF m 12 #[.val (.ref a1), .val (.ref a2), .val (.ref a2)] [])
  refine X2.step (fun hA hx hq t_ k_ => XS.aloadN hA hx rfl (hb hq d9_12) rfl rfl k_) ?_
  show OFin _ _ _ _ _ _ T2 (mkF m 13 #[.val (.ref a1), .val (.ref a2), .val (.ref a2)] [(.ref a1)])
  refine X2.getF (hw _ (List.mem_of_getElem? (i := 50) rfl)) F1 (g := (mkF m 13 #[.val (.ref a1), .val (.ref a2), .val (.ref a2)] [(.ref a1)])) rfl rfl d9_13 ?_
  intro T3 X3
  show OFin _ _ _ _ _ _ T3 (mkF m 16 #[.val (.ref a1), .val (.ref a2), .val (.ref a2)] [(.ref s1)])
  refine X3.step (fun hA hx hq t_ k_ => XS.aloadN hA hx rfl (hb hq d9_16) rfl rfl k_) ?_
  show OFin _ _ _ _ _ _ T3 (mkF m 17 #[.val (.ref a1), .val (.ref a2), .val (.ref a2)] [(.ref a2), (.ref s1)])
  refine X3.getF (hw _ (List.mem_of_getElem? (i := 50) rfl)) G1 (g := (mkF m 17 #[.val (.ref a1), .val (.ref a2), .val (.ref a2)] [(.ref a2), (.ref s1)])) rfl rfl d9_17 ?_
  intro T4 X4
  show OFin _ _ _ _ _ _ T4 (mkF m 20 #[.val (.ref a1), .val (.ref a2), .val (.ref a2)] [(.ref s2), (.ref s1)])
  refine X4.callV (y' := (⟨"java/lang/String", "equals", "(Ljava/lang/Object;)Z"⟩ : MethodName)) (z' := (⟨"java/lang/String", "equals", "(Ljava/lang/Object;)Z"⟩ : MethodName)) (hw _ (List.mem_of_getElem? (i := 65) rfl)) (hw _ (List.mem_of_getElem? (i := 66) rfl)) (X4.notFace (hw _ (List.mem_of_getElem? (i := 68) rfl)) rfl) (hw _ (List.mem_of_getElem? (i := 68) rfl)) (hw _ (List.mem_of_getElem? (i := 67) rfl)) (hw _ (List.mem_of_getElem? (i := 10) rfl)) (hw _ (List.mem_of_getElem? (i := 69) rfl)) (by decide) S1.1 (argsL := [(.ref s2)]) (rest := []) (sq2 l Z a0 hw s1 s2 t1 t2 N1 N2 f1 f2 cs h0 n0 S1 S2 hN1 hN2 ne SS hcs) (g := (mkF m 20 #[.val (.ref a1), .val (.ref a2), .val (.ref a2)] [(.ref s2), (.ref s1)])) rfl rfl pd_pLjava_lang_Object_r_Z rfl rfl (W := 0) (by show 2 * 0 + _ ≤ _; exact Nat.le_of_eq rfl) d9_20 (by decide) (by decide) (by decide) (by decide) ?_
  intro v5 T5 h5 X5 q5
  obtain ⟨rfl, g, rfl, hg⟩ := q5
  show OFin _ _ _ _ _ _ T5 (mkF m 23 #[.val (.ref a1), .val (.ref a2), .val (.ref a2)] [(.int g)])
  rcases hg with ⟨rfl, hg⟩ | ⟨rfl, hg⟩
  · show OFin _ _ _ _ _ _ T5 (mkF m 23 #[.val (.ref a1), .val (.ref a2), .val (.ref a2)] [(.int (1 : Int32))])
    refine X5.step (fun hA hx hq t_ k_ => XS.ifNo hA hx rfl (hb hq d9_23) rfl ((if0 _ _).trans (feq ((by decide))).1) k_) ?_
    show OFin _ _ _ _ _ _ T5 (mkF m 26 #[.val (.ref a1), .val (.ref a2), .val (.ref a2)] [])
    refine X5.step (fun hA hx hq t_ k_ => XS.aloadN hA hx rfl (hb hq d9_26) rfl rfl k_) ?_
    show OFin _ _ _ _ _ _ T5 (mkF m 27 #[.val (.ref a1), .val (.ref a2), .val (.ref a2)] [(.ref a1)])
    refine X5.getF (hw _ (List.mem_of_getElem? (i := 54) rfl)) F2 (g := (mkF m 27 #[.val (.ref a1), .val (.ref a2), .val (.ref a2)] [(.ref a1)])) rfl rfl d9_27 ?_
    intro T6 X6
    show OFin _ _ _ _ _ _ T6 (mkF m 30 #[.val (.ref a1), .val (.ref a2), .val (.ref a2)] [(.ref k1)])
    refine X6.step (fun hA hx hq t_ k_ => XS.aloadN hA hx rfl (hb hq d9_30) rfl rfl k_) ?_
    show OFin _ _ _ _ _ _ T6 (mkF m 31 #[.val (.ref a1), .val (.ref a2), .val (.ref a2)] [(.ref a2), (.ref k1)])
    refine X6.getF (hw _ (List.mem_of_getElem? (i := 54) rfl)) G2 (g := (mkF m 31 #[.val (.ref a1), .val (.ref a2), .val (.ref a2)] [(.ref a2), (.ref k1)])) rfl rfl d9_31 ?_
    intro T7 X7
    show OFin _ _ _ _ _ _ T7 (mkF m 34 #[.val (.ref a1), .val (.ref a2), .val (.ref a2)] [(.ref k2), (.ref k1)])
    by_cases c1 : k1 = k2
    · refine X7.acmp (g := (mkF m 34 #[.val (.ref a1), .val (.ref a2), .val (.ref a2)] [(.ref k2), (.ref k1)])) rfl rfl rfl (pc0 := 34) (pc' := 37) (same := true) rfl d9_34 rfl (decide_eq_true (congrArg Value.ref c1)) (by decide) (by decide) ?_
      show OFin _ _ _ _ _ _ T7 (mkF m 37 #[.val (.ref a1), .val (.ref a2), .val (.ref a2)] [])
      refine X7.step (fun hA hx hq t_ k_ => XS.iconst hA hx rfl (hb hq d9_37) k_) ?_
      show OFin _ _ _ _ _ _ T7 (mkF m 38 #[.val (.ref a1), .val (.ref a2), .val (.ref a2)] [(.int (1 : Int32))])
      refine X7.step (fun hA hx hq t_ k_ => XS.goto hA hx rfl (pc0 := 38) (pc' := 42) rfl (hb hq d9_38) (by decide) (by decide) k_) ?_
      show OFin _ _ _ _ _ _ T7 (mkF m 42 #[.val (.ref a1), .val (.ref a2), .val (.ref a2)] [(.int (1 : Int32))])
      exact X7.retN (by simp) d9_42 (oN (by decide) (by decide)) (⟨rfl, 1, rfl, Or.inl ⟨rfl, hg, c1⟩⟩)
    · refine X7.acmp (g := (mkF m 34 #[.val (.ref a1), .val (.ref a2), .val (.ref a2)] [(.ref k2), (.ref k1)])) rfl rfl rfl (pc0 := 34) (pc' := 41) (same := false) rfl d9_34 rfl (decide_eq_false fun q => c1 (Value.ref.inj q)) (by decide) (by decide) ?_
      show OFin _ _ _ _ _ _ T7 (mkF m 41 #[.val (.ref a1), .val (.ref a2), .val (.ref a2)] [])
      refine X7.step (fun hA hx hq t_ k_ => XS.iconst hA hx rfl (hb hq d9_41) k_) ?_
      show OFin _ _ _ _ _ _ T7 (mkF m 42 #[.val (.ref a1), .val (.ref a2), .val (.ref a2)] [(.int (0 : Int32))])
      exact X7.retN (by simp) d9_42 (oN (by decide) (by decide)) (⟨rfl, 0, rfl, Or.inr ⟨rfl, fun q => c1 q.2⟩⟩)
  · show OFin _ _ _ _ _ _ T5 (mkF m 23 #[.val (.ref a1), .val (.ref a2), .val (.ref a2)] [(.int (0 : Int32))])
    refine X5.step (fun hA hx hq t_ k_ => XS.ifYes hA hx rfl (pc0 := 23) (pc' := 41) rfl (hb hq d9_23) rfl ((if0 _ _).trans (teq ((by decide))).1) (by decide) (by decide) k_) ?_
    show OFin _ _ _ _ _ _ T5 (mkF m 41 #[.val (.ref a1), .val (.ref a2), .val (.ref a2)] [])
    refine X5.step (fun hA hx hq t_ k_ => XS.iconst hA hx rfl (hb hq d9_41) k_) ?_
    show OFin _ _ _ _ _ _ T5 (mkF m 42 #[.val (.ref a1), .val (.ref a2), .val (.ref a2)] [(.int (0 : Int32))])
    exact X5.retN (by simp) d9_42 (oN (by decide) (by decide)) (⟨rfl, 0, rfl, Or.inr ⟨rfl, fun q => hg q.1⟩⟩)
set_option maxRecDepth 65536 in
set_option maxHeartbeats 40000000 in
theorem rm7 (l : Launch) (Z : State) (a0 : Array Value) (hw : ∀ d ∈ tables_1, d.before a0 Z = true) (a1 : Addr) (h0 : Heap) (n0 : Nat)  :
    OMeets l Z (⟨"com/example/replay_proof/replayproof/model/Name", "equals", "(Ljava/lang/Object;)Z"⟩ : MethodName) [] prog_81_method_6_code 3 (some .boolean) ({ frames := 0, cells := 0, slots := 0, locals := 0 } : Room) #[(.ref a1), .null] h0 n0 (fun v h => v = some (.int 0) ∧ h0 = h) := by
  refine o_enter (Z := Z) (plainFor_of_name pn_com_example_replay_proof_replayproof_model_Name) ?_
  intro p e s m below meth c T0 X0
  refine OFin.cast (g' := (mkF m 0 #[.val (.ref a1), .val .null, .unset] [])) (by first | (simp [entryFrame, mkF, argsToLocals, Value.category]; done) | rfl) ?_
  refine X0.step (fun hA hx hq t_ k_ => XS.aloadN hA hx rfl (hb hq d9_0) rfl rfl k_) ?_
  show OFin _ _ _ _ _ _ T0 (mkF m 1 #[.val (.ref a1), .val .null, .unset] [.null])
  refine X0.instNull (g := (mkF m 1 #[.val (.ref a1), .val .null, .unset] [.null])) rfl rfl d9_1 ?_
  show OFin _ _ _ _ _ _ T0 (mkF m 4 #[.val (.ref a1), .val .null, .unset] [(.int (0 : Int32))])
  refine X0.step (fun hA hx hq t_ k_ => XS.ifYes hA hx rfl (pc0 := 4) (pc' := 41) rfl (hb hq d9_4) rfl ((if0 _ _).trans (teq ((by decide))).1) (by decide) (by decide) k_) ?_
  show OFin _ _ _ _ _ _ T0 (mkF m 41 #[.val (.ref a1), .val .null, .unset] [])
  refine X0.step (fun hA hx hq t_ k_ => XS.iconst hA hx rfl (hb hq d9_41) k_) ?_
  show OFin _ _ _ _ _ _ T0 (mkF m 42 #[.val (.ref a1), .val .null, .unset] [(.int (0 : Int32))])
  exact X0.retN (by simp) d9_42 (oN (by decide) (by decide)) (⟨rfl, rfl⟩)
set_option maxRecDepth 65536 in
set_option maxHeartbeats 40000000 in
theorem rm8 (l : Launch) (Z : State) (a0 : Array Value) (hw : ∀ d ∈ tables_1, d.before a0 Z = true) (a1 a2 : Addr) (h0 : Heap) (n0 : Nat) (E : Exa Z h0 a2 "java/lang/String") :
    OMeets l Z (⟨"com/example/replay_proof/replayproof/model/Name", "equals", "(Ljava/lang/Object;)Z"⟩ : MethodName) [] prog_81_method_6_code 3 (some .boolean) ({ frames := 0, cells := 0, slots := 0, locals := 0 } : Room) #[(.ref a1), (.ref a2)] h0 n0 (fun v h => v = some (.int 0) ∧ h0 = h) := by
  refine o_enter (Z := Z) (plainFor_of_name pn_com_example_replay_proof_replayproof_model_Name) ?_
  intro p e s m below meth c T0 X0
  refine OFin.cast (g' := (mkF m 0 #[.val (.ref a1), .val (.ref a2), .unset] [])) (by first | (simp [entryFrame, mkF, argsToLocals, Value.category]; done) | rfl) ?_
  refine X0.step (fun hA hx hq t_ k_ => XS.aloadN hA hx rfl (hb hq d9_0) rfl rfl k_) ?_
  show OFin _ _ _ _ _ _ T0 (mkF m 1 #[.val (.ref a1), .val (.ref a2), .unset] [(.ref a2)])
  refine X0.instNo (hw _ (List.mem_of_getElem? (i := 63) rfl)) (E) (o_nsNo (hw _ (List.mem_of_getElem? (i := 78) rfl)) (hw _ (List.mem_of_getElem? (i := 2) rfl)) (NS.step (hw _ (List.mem_of_getElem? (i := 78) rfl)) (o_nsRoot (hw _ (List.mem_of_getElem? (i := 79) rfl)) (hw _ (List.mem_of_getElem? (i := 2) rfl)) (by decide)) (by decide)) (by decide)) (g := (mkF m 1 #[.val (.ref a1), .val (.ref a2), .unset] [(.ref a2)])) rfl rfl d9_1 ?_
  intro T1 X1
  show OFin _ _ _ _ _ _ T1 (mkF m 4 #[.val (.ref a1), .val (.ref a2), .unset] [(.int (0 : Int32))])
  refine X1.step (fun hA hx hq t_ k_ => XS.ifYes hA hx rfl (pc0 := 4) (pc' := 41) rfl (hb hq d9_4) rfl ((if0 _ _).trans (teq ((by decide))).1) (by decide) (by decide) k_) ?_
  show OFin _ _ _ _ _ _ T1 (mkF m 41 #[.val (.ref a1), .val (.ref a2), .unset] [])
  refine X1.step (fun hA hx hq t_ k_ => XS.iconst hA hx rfl (hb hq d9_41) k_) ?_
  show OFin _ _ _ _ _ _ T1 (mkF m 42 #[.val (.ref a1), .val (.ref a2), .unset] [(.int (0 : Int32))])
  exact X1.retN (by simp) d9_42 (oN (by decide) (by decide)) (⟨rfl, rfl⟩)
set_option maxRecDepth 65536 in
set_option maxHeartbeats 40000000 in
theorem rm9 (l : Launch) (Z : State) (a0 : Array Value) (hw : ∀ d ∈ tables_1, d.before a0 Z = true) (a1 s1 k1 : Addr) (h0 : Heap) (n0 : Nat) (F1 : Fld Z h0 a1 "com/example/replay_proof/replayproof/model/Name" "text" "Ljava/lang/String;" (.ref s1)) (F2 : Fld Z h0 a1 "com/example/replay_proof/replayproof/model/Name" "kind" "Lcom/example/replay_proof/replayproof/model/Name$Kind;" (.ref k1)) (E : Exa Z h0 a1 "com/example/replay_proof/replayproof/model/Name") (ES : Exa Z h0 s1 "java/lang/String") :
    OMeets l Z (⟨"com/example/replay_proof/replayproof/model/Name", "equals", "(Ljava/lang/Object;)Z"⟩ : MethodName) [] prog_81_method_6_code 3 (some .boolean) ({ frames := 1, cells := 0, slots := 0, locals := 14 } : Room) #[(.ref a1), (.ref a1)] h0 n0 (fun v h => v = some (.int 1) ∧ h0 = h) := by
  refine o_enter (Z := Z) (plainFor_of_name pn_com_example_replay_proof_replayproof_model_Name) ?_
  intro p e s m below meth c T0 X0
  refine OFin.cast (g' := (mkF m 0 #[.val (.ref a1), .val (.ref a1), .unset] [])) (by first | (simp [entryFrame, mkF, argsToLocals, Value.category]; done) | rfl) ?_
  refine X0.step (fun hA hx hq t_ k_ => XS.aloadN hA hx rfl (hb hq d9_0) rfl rfl k_) ?_
  show OFin _ _ _ _ _ _ T0 (mkF m 1 #[.val (.ref a1), .val (.ref a1), .unset] [(.ref a1)])
  refine X0.instY (hw _ (List.mem_of_getElem? (i := 63) rfl)) (Ins.self E) (g := (mkF m 1 #[.val (.ref a1), .val (.ref a1), .unset] [(.ref a1)])) rfl rfl d9_1 ?_
  intro T1 X1
  show OFin _ _ _ _ _ _ T1 (mkF m 4 #[.val (.ref a1), .val (.ref a1), .unset] [(.int (1 : Int32))])
  refine X1.step (fun hA hx hq t_ k_ => XS.ifNo hA hx rfl (hb hq d9_4) rfl ((if0 _ _).trans (feq ((by decide))).1) k_) ?_
  show OFin _ _ _ _ _ _ T1 (mkF m 7 #[.val (.ref a1), .val (.ref a1), .unset] [])
  refine X1.step (fun hA hx hq t_ k_ => XS.aloadN hA hx rfl (hb hq d9_7) rfl rfl k_) ?_
  show OFin _ _ _ _ _ _ T1 (mkF m 8 #[.val (.ref a1), .val (.ref a1), .unset] [(.ref a1)])
  refine X1.castY (hw _ (List.mem_of_getElem? (i := 63) rfl)) (Ins.self E) (g := (mkF m 8 #[.val (.ref a1), .val (.ref a1), .unset] [(.ref a1)])) rfl rfl d9_8 ?_
  intro T2 X2
  show OFin _ _ _ _ _ _ T2 (mkF m 11 #[.val (.ref a1), .val (.ref a1), .unset] [(.ref a1)])
  refine X2.step (fun hA hx hq t_ k_ => XS.astoreN hA hx rfl (hb hq d9_11) rfl rfl (l' := #[.val (.ref a1), .val (.ref a1), .val (.ref a1)]) rfl k_) ?_
  show OFin _ _ _ _ _ _ T2 (mkF m 12 #[.val (.ref a1), .val (.ref a1), .val (.ref a1)] [])
  refine X2.step (fun hA hx hq t_ k_ => XS.aloadN hA hx rfl (hb hq d9_12) rfl rfl k_) ?_
  show OFin _ _ _ _ _ _ T2 (mkF m 13 #[.val (.ref a1), .val (.ref a1), .val (.ref a1)] [(.ref a1)])
  refine X2.getF (hw _ (List.mem_of_getElem? (i := 50) rfl)) F1 (g := (mkF m 13 #[.val (.ref a1), .val (.ref a1), .val (.ref a1)] [(.ref a1)])) rfl rfl d9_13 ?_
  intro T3 X3
  show OFin _ _ _ _ _ _ T3 (mkF m 16 #[.val (.ref a1), .val (.ref a1), .val (.ref a1)] [(.ref s1)])
  refine X3.step (fun hA hx hq t_ k_ => XS.aloadN hA hx rfl (hb hq d9_16) rfl rfl k_) ?_
  show OFin _ _ _ _ _ _ T3 (mkF m 17 #[.val (.ref a1), .val (.ref a1), .val (.ref a1)] [(.ref a1), (.ref s1)])
  refine X3.getF (hw _ (List.mem_of_getElem? (i := 50) rfl)) F1 (g := (mkF m 17 #[.val (.ref a1), .val (.ref a1), .val (.ref a1)] [(.ref a1), (.ref s1)])) rfl rfl d9_17 ?_
  intro T4 X4
  show OFin _ _ _ _ _ _ T4 (mkF m 20 #[.val (.ref a1), .val (.ref a1), .val (.ref a1)] [(.ref s1), (.ref s1)])
  refine X4.callV (y' := (⟨"java/lang/String", "equals", "(Ljava/lang/Object;)Z"⟩ : MethodName)) (z' := (⟨"java/lang/String", "equals", "(Ljava/lang/Object;)Z"⟩ : MethodName)) (hw _ (List.mem_of_getElem? (i := 65) rfl)) (hw _ (List.mem_of_getElem? (i := 66) rfl)) (X4.notFace (hw _ (List.mem_of_getElem? (i := 68) rfl)) rfl) (hw _ (List.mem_of_getElem? (i := 68) rfl)) (hw _ (List.mem_of_getElem? (i := 67) rfl)) (hw _ (List.mem_of_getElem? (i := 10) rfl)) (hw _ (List.mem_of_getElem? (i := 69) rfl)) (by decide) ES (argsL := [(.ref s1)]) (rest := []) (se1 l Z a0 hw s1 h0 n0) (g := (mkF m 20 #[.val (.ref a1), .val (.ref a1), .val (.ref a1)] [(.ref s1), (.ref s1)])) rfl rfl pd_pLjava_lang_Object_r_Z rfl rfl (W := 0) (by show 2 * 0 + _ ≤ _; exact Nat.le_of_eq rfl) d9_20 (by decide) (by decide) (by decide) (by decide) ?_
  intro v5 T5 h5 X5 q5
  obtain ⟨rfl, rfl⟩ := q5
  show OFin _ _ _ _ _ _ T5 (mkF m 23 #[.val (.ref a1), .val (.ref a1), .val (.ref a1)] [(.int (1 : Int32))])
  refine X5.step (fun hA hx hq t_ k_ => XS.ifNo hA hx rfl (hb hq d9_23) rfl ((if0 _ _).trans (feq ((by decide))).1) k_) ?_
  show OFin _ _ _ _ _ _ T5 (mkF m 26 #[.val (.ref a1), .val (.ref a1), .val (.ref a1)] [])
  refine X5.step (fun hA hx hq t_ k_ => XS.aloadN hA hx rfl (hb hq d9_26) rfl rfl k_) ?_
  show OFin _ _ _ _ _ _ T5 (mkF m 27 #[.val (.ref a1), .val (.ref a1), .val (.ref a1)] [(.ref a1)])
  refine X5.getF (hw _ (List.mem_of_getElem? (i := 54) rfl)) F2 (g := (mkF m 27 #[.val (.ref a1), .val (.ref a1), .val (.ref a1)] [(.ref a1)])) rfl rfl d9_27 ?_
  intro T6 X6
  show OFin _ _ _ _ _ _ T6 (mkF m 30 #[.val (.ref a1), .val (.ref a1), .val (.ref a1)] [(.ref k1)])
  refine X6.step (fun hA hx hq t_ k_ => XS.aloadN hA hx rfl (hb hq d9_30) rfl rfl k_) ?_
  show OFin _ _ _ _ _ _ T6 (mkF m 31 #[.val (.ref a1), .val (.ref a1), .val (.ref a1)] [(.ref a1), (.ref k1)])
  refine X6.getF (hw _ (List.mem_of_getElem? (i := 54) rfl)) F2 (g := (mkF m 31 #[.val (.ref a1), .val (.ref a1), .val (.ref a1)] [(.ref a1), (.ref k1)])) rfl rfl d9_31 ?_
  intro T7 X7
  show OFin _ _ _ _ _ _ T7 (mkF m 34 #[.val (.ref a1), .val (.ref a1), .val (.ref a1)] [(.ref k1), (.ref k1)])
  refine X7.acmp (g := (mkF m 34 #[.val (.ref a1), .val (.ref a1), .val (.ref a1)] [(.ref k1), (.ref k1)])) rfl rfl rfl (pc0 := 34) (pc' := 37) (same := true) rfl d9_34 rfl (decide_eq_true rfl) (by decide) (by decide) ?_
  show OFin _ _ _ _ _ _ T7 (mkF m 37 #[.val (.ref a1), .val (.ref a1), .val (.ref a1)] [])
  refine X7.step (fun hA hx hq t_ k_ => XS.iconst hA hx rfl (hb hq d9_37) k_) ?_
  show OFin _ _ _ _ _ _ T7 (mkF m 38 #[.val (.ref a1), .val (.ref a1), .val (.ref a1)] [(.int (1 : Int32))])
  refine X7.step (fun hA hx hq t_ k_ => XS.goto hA hx rfl (pc0 := 38) (pc' := 42) rfl (hb hq d9_38) (by decide) (by decide) k_) ?_
  show OFin _ _ _ _ _ _ T7 (mkF m 42 #[.val (.ref a1), .val (.ref a1), .val (.ref a1)] [(.int (1 : Int32))])
  exact X7.retN (by simp) d9_42 (oN (by decide) (by decide)) (⟨rfl, rfl⟩)
theorem pd_pICCr_Ljava_lang_String_ : parseMethodDescriptor "(ICC)Ljava/lang/String;" = some ⟨[.int, .char, .char], some (.object "java/lang/String")⟩ := by decide +kernel
theorem pd_pIr_Lcom_example_replay_proof_replayproof_model_Name_Kind_ : parseMethodDescriptor "(I)Lcom/example/replay_proof/replayproof/model/Name$Kind;" = some ⟨[.int], some (.object "com/example/replay_proof/replayproof/model/Name$Kind")⟩ := by decide +kernel
theorem pd_pLjava_lang_String_Lcom_example_replay_proof_replayproof_model_Name_Kind_r_V : parseMethodDescriptor "(Ljava/lang/String;Lcom/example/replay_proof/replayproof/model/Name$Kind;)V" = some ⟨[(.object "java/lang/String"), (.object "com/example/replay_proof/replayproof/model/Name$Kind")], none⟩ := by decide +kernel
set_option maxRecDepth 65536 in
set_option maxHeartbeats 40000000 in
theorem rm0 (l : Launch) (Z : State) (a0 : Array Value) (hw : ∀ d ∈ tables_1, d.before a0 Z = true) (ws : List Jvm.Cond) (p0 p1 p2 p3 cs : Int32) (kR kC kT kN kK kA : Addr) (h0 : Heap) (n0 : Nat) (O0 : Old Z n0 h0) (SR : Sta Z Z.heap "com/example/replay_proof/replayproof/model/Name$Kind" "ROLE" "Lcom/example/replay_proof/replayproof/model/Name$Kind;" (.ref kR)) (ER : Exa Z Z.heap kR "com/example/replay_proof/replayproof/model/Name$Kind") (FR : Fld Z Z.heap kR "java/lang/Enum" "ordinal" "I" (.int 0)) (SC : Sta Z Z.heap "com/example/replay_proof/replayproof/model/Name$Kind" "CONSTANT" "Lcom/example/replay_proof/replayproof/model/Name$Kind;" (.ref kC)) (EC : Exa Z Z.heap kC "com/example/replay_proof/replayproof/model/Name$Kind") (FC : Fld Z Z.heap kC "java/lang/Enum" "ordinal" "I" (.int 1)) (ST : Sta Z Z.heap "com/example/replay_proof/replayproof/model/Name$Kind" "TIMESTAMP" "Lcom/example/replay_proof/replayproof/model/Name$Kind;" (.ref kT)) (ET : Exa Z Z.heap kT "com/example/replay_proof/replayproof/model/Name$Kind") (FT : Fld Z Z.heap kT "java/lang/Enum" "ordinal" "I" (.int 2)) (SN : Sta Z Z.heap "com/example/replay_proof/replayproof/model/Name$Kind" "NONCE" "Lcom/example/replay_proof/replayproof/model/Name$Kind;" (.ref kN)) (EN : Exa Z Z.heap kN "com/example/replay_proof/replayproof/model/Name$Kind") (FN : Fld Z Z.heap kN "java/lang/Enum" "ordinal" "I" (.int 3)) (SK : Sta Z Z.heap "com/example/replay_proof/replayproof/model/Name$Kind" "KEY" "Lcom/example/replay_proof/replayproof/model/Name$Kind;" (.ref kK)) (EK : Exa Z Z.heap kK "com/example/replay_proof/replayproof/model/Name$Kind") (FK : Fld Z Z.heap kK "java/lang/Enum" "ordinal" "I" (.int 4)) (SA : Sta Z Z.heap "com/example/replay_proof/replayproof/model/Name$Kind" "AGENT" "Lcom/example/replay_proof/replayproof/model/Name$Kind;" (.ref kA)) (EA : Exa Z Z.heap kA "com/example/replay_proof/replayproof/model/Name$Kind") (FA : Fld Z Z.heap kA "java/lang/Enum" "ordinal" "I" (.int 5)) (SS : Sta Z Z.heap "java/lang/String" "COMPACT_STRINGS" "Z" (.int cs)) (hcs : ¬ cs = 0) :
    OMeetsW l Z own_EL x ws code maxLocals ret room_1 #[(.int p0), (.int p1), (.int p2), (.int p3)] h0 n0 (fun v h => v = some (.int 1)) := by
  refine o_enterW (Z := Z) (own_EW hw) (plainFor_of_name pn_com_example_replay_proof_replayproof_model_NameEqualsPinLaw) ?_
  intro p e s m below meth c T0 X0 B0
  refine OFin.cast (g' := (mkF m 0 #[.val (.int p0), .val (.int p1), .val (.int p2), .val (.int p3), .unset, .unset, .unset, .unset, .unset, .unset, .unset, .unset, .unset, .unset, .unset, .unset, .unset, .unset, .unset, .unset, .unset] [])) (by first | (simp [entryFrame, mkF, argsToLocals, Value.category, maxLocals]; done) | rfl) ?_
  have Z0 : n0 ≤ h0.size := by rw [← O0.1]; exact O0.2.1
  refine X0.step (fun hA hx hq t_ k_ => XS.iloadN hA hx rfl (hb hq at_0) rfl k_) ?_
  show OFin _ _ _ _ _ _ T0 (mkF m 1 #[.val (.int p0), .val (.int p1), .val (.int p2), .val (.int p3), .unset, .unset, .unset, .unset, .unset, .unset, .unset, .unset, .unset, .unset, .unset, .unset, .unset, .unset, .unset, .unset, .unset] [(.int p0)])
  refine X0.step (fun hA hx hq t_ k_ => XS.iconst hA hx rfl (hb hq at_1) k_) ?_
  show OFin _ _ _ _ _ _ T0 (mkF m 2 #[.val (.int p0), .val (.int p1), .val (.int p2), .val (.int p3), .unset, .unset, .unset, .unset, .unset, .unset, .unset, .unset, .unset, .unset, .unset, .unset, .unset, .unset, .unset, .unset, .unset] [(.int (3 : Int32)), (.int p0)])
  refine X0.step (fun hA hx hq t_ k_ => XS.iand hA hx rfl (hb hq at_2) rfl k_) ?_
  show OFin _ _ _ _ _ _ T0 (mkF m 3 #[.val (.int p0), .val (.int p1), .val (.int p2), .val (.int p3), .unset, .unset, .unset, .unset, .unset, .unset, .unset, .unset, .unset, .unset, .unset, .unset, .unset, .unset, .unset, .unset, .unset] [(.int (p0 &&& (3 : Int32)))])
  refine X0.step (fun hA hx hq t_ k_ => XS.iconst hA hx rfl (hb hq at_3) k_) ?_
  show OFin _ _ _ _ _ _ T0 (mkF m 4 #[.val (.int p0), .val (.int p1), .val (.int p2), .val (.int p3), .unset, .unset, .unset, .unset, .unset, .unset, .unset, .unset, .unset, .unset, .unset, .unset, .unset, .unset, .unset, .unset, .unset] [(.int (3 : Int32)), (.int (p0 &&& (3 : Int32)))])
  refine X0.irem (g := (mkF m 4 #[.val (.int p0), .val (.int p1), .val (.int p2), .val (.int p3), .unset, .unset, .unset, .unset, .unset, .unset, .unset, .unset, .unset, .unset, .unset, .unset, .unset, .unset, .unset, .unset, .unset] [(.int (3 : Int32)), (.int (p0 &&& (3 : Int32)))])) rfl at_4 rfl (by decide) ?_
  show OFin _ _ _ _ _ _ T0 (mkF m 5 #[.val (.int p0), .val (.int p1), .val (.int p2), .val (.int p3), .unset, .unset, .unset, .unset, .unset, .unset, .unset, .unset, .unset, .unset, .unset, .unset, .unset, .unset, .unset, .unset, .unset] [(.int ((p0 &&& (3 : Int32)) % (3 : Int32)))])
  obtain ⟨l1, hl1, el1⟩ : ∃ l : Nat, l ≤ 2 ∧ ((p0 &&& (3 : Int32)) % (3 : Int32)) = Int32.ofNat l := own_l3 _
  generalize ((p0 &&& (3 : Int32)) % (3 : Int32)) = z_ at el1 ⊢
  subst el1
  show OFin _ _ _ _ _ _ T0 (mkF m 5 #[.val (.int p0), .val (.int p1), .val (.int p2), .val (.int p3), .unset, .unset, .unset, .unset, .unset, .unset, .unset, .unset, .unset, .unset, .unset, .unset, .unset, .unset, .unset, .unset, .unset] [(.int (Int32.ofNat l1))])
  refine X0.step (fun hA hx hq t_ k_ => XS.istore hA hx rfl (hb hq at_5) rfl (l' := #[.val (.int p0), .val (.int p1), .val (.int p2), .val (.int p3), .val (.int (Int32.ofNat l1)), .unset, .unset, .unset, .unset, .unset, .unset, .unset, .unset, .unset, .unset, .unset, .unset, .unset, .unset, .unset, .unset]) rfl k_) ?_
  show OFin _ _ _ _ _ _ T0 (mkF m 7 #[.val (.int p0), .val (.int p1), .val (.int p2), .val (.int p3), .val (.int (Int32.ofNat l1)), .unset, .unset, .unset, .unset, .unset, .unset, .unset, .unset, .unset, .unset, .unset, .unset, .unset, .unset, .unset, .unset] [])
  refine X0.step (fun hA hx hq t_ k_ => XS.iloadN hA hx rfl (hb hq at_7) rfl k_) ?_
  show OFin _ _ _ _ _ _ T0 (mkF m 8 #[.val (.int p0), .val (.int p1), .val (.int p2), .val (.int p3), .val (.int (Int32.ofNat l1)), .unset, .unset, .unset, .unset, .unset, .unset, .unset, .unset, .unset, .unset, .unset, .unset, .unset, .unset, .unset, .unset] [(.int p0)])
  refine X0.step (fun hA hx hq t_ k_ => XS.bipush hA hx rfl (hb hq at_8) k_) ?_
  show OFin _ _ _ _ _ _ T0 (mkF m 10 #[.val (.int p0), .val (.int p1), .val (.int p2), .val (.int p3), .val (.int (Int32.ofNat l1)), .unset, .unset, .unset, .unset, .unset, .unset, .unset, .unset, .unset, .unset, .unset, .unset, .unset, .unset, .unset, .unset] [(.int (8 : Int32)), (.int p0)])
  refine X0.step (fun hA hx hq t_ k_ => XS.iushr hA hx rfl (hb hq at_10) rfl k_) ?_
  show OFin _ _ _ _ _ _ T0 (mkF m 11 #[.val (.int p0), .val (.int p1), .val (.int p2), .val (.int p3), .val (.int (Int32.ofNat l1)), .unset, .unset, .unset, .unset, .unset, .unset, .unset, .unset, .unset, .unset, .unset, .unset, .unset, .unset, .unset, .unset] [(.int ((p0.toUInt32 >>> ((8 : Int32) &&& 31).toUInt32).toInt32))])
  refine X0.step (fun hA hx hq t_ k_ => XS.sipush hA hx rfl (hb hq at_11) k_) ?_
  show OFin _ _ _ _ _ _ T0 (mkF m 14 #[.val (.int p0), .val (.int p1), .val (.int p2), .val (.int p3), .val (.int (Int32.ofNat l1)), .unset, .unset, .unset, .unset, .unset, .unset, .unset, .unset, .unset, .unset, .unset, .unset, .unset, .unset, .unset, .unset] [(.int (255 : Int32)), (.int ((p0.toUInt32 >>> ((8 : Int32) &&& 31).toUInt32).toInt32))])
  refine X0.step (fun hA hx hq t_ k_ => XS.iand hA hx rfl (hb hq at_14) rfl k_) ?_
  show OFin _ _ _ _ _ _ T0 (mkF m 15 #[.val (.int p0), .val (.int p1), .val (.int p2), .val (.int p3), .val (.int (Int32.ofNat l1)), .unset, .unset, .unset, .unset, .unset, .unset, .unset, .unset, .unset, .unset, .unset, .unset, .unset, .unset, .unset, .unset] [(.int (((p0.toUInt32 >>> ((8 : Int32) &&& 31).toUInt32).toInt32) &&& (255 : Int32)))])
  refine X0.step (fun hA hx hq t_ k_ => XS.i2c hA hx rfl (hb hq at_15) rfl k_) ?_
  show OFin _ _ _ _ _ _ T0 (mkF m 16 #[.val (.int p0), .val (.int p1), .val (.int p2), .val (.int p3), .val (.int (Int32.ofNat l1)), .unset, .unset, .unset, .unset, .unset, .unset, .unset, .unset, .unset, .unset, .unset, .unset, .unset, .unset, .unset, .unset] [(.int ((((p0.toUInt32 >>> ((8 : Int32) &&& 31).toUInt32).toInt32) &&& (255 : Int32)).toUInt32.toUInt16.toUInt32.toInt32))])
  have hca1 : own_ok ((((p0.toUInt32 >>> ((8 : Int32) &&& 31).toUInt32).toInt32) &&& (255 : Int32)).toUInt32.toUInt16.toUInt32.toInt32) := own_c8 _
  generalize ((((p0.toUInt32 >>> ((8 : Int32) &&& 31).toUInt32).toInt32) &&& (255 : Int32)).toUInt32.toUInt16.toUInt32.toInt32) = ca1 at hca1 ⊢
  show OFin _ _ _ _ _ _ T0 (mkF m 16 #[.val (.int p0), .val (.int p1), .val (.int p2), .val (.int p3), .val (.int (Int32.ofNat l1)), .unset, .unset, .unset, .unset, .unset, .unset, .unset, .unset, .unset, .unset, .unset, .unset, .unset, .unset, .unset, .unset] [(.int ca1)])
  refine X0.step (fun hA hx hq t_ k_ => XS.istore hA hx rfl (hb hq at_16) rfl (l' := #[.val (.int p0), .val (.int p1), .val (.int p2), .val (.int p3), .val (.int (Int32.ofNat l1)), .val (.int ca1), .unset, .unset, .unset, .unset, .unset, .unset, .unset, .unset, .unset, .unset, .unset, .unset, .unset, .unset, .unset]) rfl k_) ?_
  show OFin _ _ _ _ _ _ T0 (mkF m 18 #[.val (.int p0), .val (.int p1), .val (.int p2), .val (.int p3), .val (.int (Int32.ofNat l1)), .val (.int ca1), .unset, .unset, .unset, .unset, .unset, .unset, .unset, .unset, .unset, .unset, .unset, .unset, .unset, .unset, .unset] [])
  refine X0.step (fun hA hx hq t_ k_ => XS.iloadN hA hx rfl (hb hq at_18) rfl k_) ?_
  show OFin _ _ _ _ _ _ T0 (mkF m 19 #[.val (.int p0), .val (.int p1), .val (.int p2), .val (.int p3), .val (.int (Int32.ofNat l1)), .val (.int ca1), .unset, .unset, .unset, .unset, .unset, .unset, .unset, .unset, .unset, .unset, .unset, .unset, .unset, .unset, .unset] [(.int p0)])
  refine X0.step (fun hA hx hq t_ k_ => XS.bipush hA hx rfl (hb hq at_19) k_) ?_
  show OFin _ _ _ _ _ _ T0 (mkF m 21 #[.val (.int p0), .val (.int p1), .val (.int p2), .val (.int p3), .val (.int (Int32.ofNat l1)), .val (.int ca1), .unset, .unset, .unset, .unset, .unset, .unset, .unset, .unset, .unset, .unset, .unset, .unset, .unset, .unset, .unset] [(.int (16 : Int32)), (.int p0)])
  refine X0.step (fun hA hx hq t_ k_ => XS.iushr hA hx rfl (hb hq at_21) rfl k_) ?_
  show OFin _ _ _ _ _ _ T0 (mkF m 22 #[.val (.int p0), .val (.int p1), .val (.int p2), .val (.int p3), .val (.int (Int32.ofNat l1)), .val (.int ca1), .unset, .unset, .unset, .unset, .unset, .unset, .unset, .unset, .unset, .unset, .unset, .unset, .unset, .unset, .unset] [(.int ((p0.toUInt32 >>> ((16 : Int32) &&& 31).toUInt32).toInt32))])
  refine X0.step (fun hA hx hq t_ k_ => XS.sipush hA hx rfl (hb hq at_22) k_) ?_
  show OFin _ _ _ _ _ _ T0 (mkF m 25 #[.val (.int p0), .val (.int p1), .val (.int p2), .val (.int p3), .val (.int (Int32.ofNat l1)), .val (.int ca1), .unset, .unset, .unset, .unset, .unset, .unset, .unset, .unset, .unset, .unset, .unset, .unset, .unset, .unset, .unset] [(.int (255 : Int32)), (.int ((p0.toUInt32 >>> ((16 : Int32) &&& 31).toUInt32).toInt32))])
  refine X0.step (fun hA hx hq t_ k_ => XS.iand hA hx rfl (hb hq at_25) rfl k_) ?_
  show OFin _ _ _ _ _ _ T0 (mkF m 26 #[.val (.int p0), .val (.int p1), .val (.int p2), .val (.int p3), .val (.int (Int32.ofNat l1)), .val (.int ca1), .unset, .unset, .unset, .unset, .unset, .unset, .unset, .unset, .unset, .unset, .unset, .unset, .unset, .unset, .unset] [(.int (((p0.toUInt32 >>> ((16 : Int32) &&& 31).toUInt32).toInt32) &&& (255 : Int32)))])
  refine X0.step (fun hA hx hq t_ k_ => XS.i2c hA hx rfl (hb hq at_26) rfl k_) ?_
  show OFin _ _ _ _ _ _ T0 (mkF m 27 #[.val (.int p0), .val (.int p1), .val (.int p2), .val (.int p3), .val (.int (Int32.ofNat l1)), .val (.int ca1), .unset, .unset, .unset, .unset, .unset, .unset, .unset, .unset, .unset, .unset, .unset, .unset, .unset, .unset, .unset] [(.int ((((p0.toUInt32 >>> ((16 : Int32) &&& 31).toUInt32).toInt32) &&& (255 : Int32)).toUInt32.toUInt16.toUInt32.toInt32))])
  have hcb1 : own_ok ((((p0.toUInt32 >>> ((16 : Int32) &&& 31).toUInt32).toInt32) &&& (255 : Int32)).toUInt32.toUInt16.toUInt32.toInt32) := own_c8 _
  generalize ((((p0.toUInt32 >>> ((16 : Int32) &&& 31).toUInt32).toInt32) &&& (255 : Int32)).toUInt32.toUInt16.toUInt32.toInt32) = cb1 at hcb1 ⊢
  show OFin _ _ _ _ _ _ T0 (mkF m 27 #[.val (.int p0), .val (.int p1), .val (.int p2), .val (.int p3), .val (.int (Int32.ofNat l1)), .val (.int ca1), .unset, .unset, .unset, .unset, .unset, .unset, .unset, .unset, .unset, .unset, .unset, .unset, .unset, .unset, .unset] [(.int cb1)])
  refine X0.step (fun hA hx hq t_ k_ => XS.istore hA hx rfl (hb hq at_27) rfl (l' := #[.val (.int p0), .val (.int p1), .val (.int p2), .val (.int p3), .val (.int (Int32.ofNat l1)), .val (.int ca1), .val (.int cb1), .unset, .unset, .unset, .unset, .unset, .unset, .unset, .unset, .unset, .unset, .unset, .unset, .unset, .unset]) rfl k_) ?_
  show OFin _ _ _ _ _ _ T0 (mkF m 29 #[.val (.int p0), .val (.int p1), .val (.int p2), .val (.int p3), .val (.int (Int32.ofNat l1)), .val (.int ca1), .val (.int cb1), .unset, .unset, .unset, .unset, .unset, .unset, .unset, .unset, .unset, .unset, .unset, .unset, .unset, .unset] [])
  have j101 : ∀ (z7 ca2 cb2 : Int32) (l2 : Nat), l2 ≤ 2 → own_ok ca2 → own_ok cb2 → OFin n0 p e (fun o t L => CHr Z own_EL s.vm s.heap t.vm t.heap ∧ ReturnedEndW s o t L room_1.cells room_1.slots) below (fun v h => v = some (.int 1)) T0 (mkF m 101 #[.val (.int p0), .val (.int p1), .val (.int p2), .val (.int p3), .val (.int (Int32.ofNat l1)), .val (.int ca1), .val (.int cb1), .val (.int z7), .val (.int (Int32.ofNat l2)), .val (.int ca2), .val (.int cb2), .unset, .unset, .unset, .unset, .unset, .unset, .unset, .unset, .unset, .unset] []) := by
    intro z7 ca2 cb2 l2 hl2 hca2 hcb2
    refine X0.step (fun hA hx hq t_ k_ => XS.iloadN hA hx rfl (hb hq at_101) rfl k_) ?_
    show OFin _ _ _ _ _ _ T0 (mkF m 102 #[.val (.int p0), .val (.int p1), .val (.int p2), .val (.int p3), .val (.int (Int32.ofNat l1)), .val (.int ca1), .val (.int cb1), .val (.int z7), .val (.int (Int32.ofNat l2)), .val (.int ca2), .val (.int cb2), .unset, .unset, .unset, .unset, .unset, .unset, .unset, .unset, .unset, .unset] [(.int p2)])
    refine X0.ldcI (hw _ (List.mem_of_getElem? (i := 0) rfl)) (g := (mkF m 102 #[.val (.int p0), .val (.int p1), .val (.int p2), .val (.int p3), .val (.int (Int32.ofNat l1)), .val (.int ca1), .val (.int cb1), .val (.int z7), .val (.int (Int32.ofNat l2)), .val (.int ca2), .val (.int cb2), .unset, .unset, .unset, .unset, .unset, .unset, .unset, .unset, .unset, .unset] [(.int p2)])) rfl at_102 ?_
    show OFin _ _ _ _ _ _ T0 (mkF m 104 #[.val (.int p0), .val (.int p1), .val (.int p2), .val (.int p3), .val (.int (Int32.ofNat l1)), .val (.int ca1), .val (.int cb1), .val (.int z7), .val (.int (Int32.ofNat l2)), .val (.int ca2), .val (.int cb2), .unset, .unset, .unset, .unset, .unset, .unset, .unset, .unset, .unset, .unset] [(.int (2147483647 : Int32)), (.int p2)])
    refine X0.step (fun hA hx hq t_ k_ => XS.iand hA hx rfl (hb hq at_104) rfl k_) ?_
    show OFin _ _ _ _ _ _ T0 (mkF m 105 #[.val (.int p0), .val (.int p1), .val (.int p2), .val (.int p3), .val (.int (Int32.ofNat l1)), .val (.int ca1), .val (.int cb1), .val (.int z7), .val (.int (Int32.ofNat l2)), .val (.int ca2), .val (.int cb2), .unset, .unset, .unset, .unset, .unset, .unset, .unset, .unset, .unset, .unset] [(.int (p2 &&& (2147483647 : Int32)))])
    refine X0.step (fun hA hx hq t_ k_ => XS.bipush hA hx rfl (hb hq at_105) k_) ?_
    show OFin _ _ _ _ _ _ T0 (mkF m 107 #[.val (.int p0), .val (.int p1), .val (.int p2), .val (.int p3), .val (.int (Int32.ofNat l1)), .val (.int ca1), .val (.int cb1), .val (.int z7), .val (.int (Int32.ofNat l2)), .val (.int ca2), .val (.int cb2), .unset, .unset, .unset, .unset, .unset, .unset, .unset, .unset, .unset, .unset] [(.int (6 : Int32)), (.int (p2 &&& (2147483647 : Int32)))])
    refine X0.irem (g := (mkF m 107 #[.val (.int p0), .val (.int p1), .val (.int p2), .val (.int p3), .val (.int (Int32.ofNat l1)), .val (.int ca1), .val (.int cb1), .val (.int z7), .val (.int (Int32.ofNat l2)), .val (.int ca2), .val (.int cb2), .unset, .unset, .unset, .unset, .unset, .unset, .unset, .unset, .unset, .unset] [(.int (6 : Int32)), (.int (p2 &&& (2147483647 : Int32)))])) rfl at_107 rfl (by decide) ?_
    show OFin _ _ _ _ _ _ T0 (mkF m 108 #[.val (.int p0), .val (.int p1), .val (.int p2), .val (.int p3), .val (.int (Int32.ofNat l1)), .val (.int ca1), .val (.int cb1), .val (.int z7), .val (.int (Int32.ofNat l2)), .val (.int ca2), .val (.int cb2), .unset, .unset, .unset, .unset, .unset, .unset, .unset, .unset, .unset, .unset] [(.int ((p2 &&& (2147483647 : Int32)) % (6 : Int32)))])
    have hi1 : own_k6 ((p2 &&& (2147483647 : Int32)) % (6 : Int32)) := own_i6 _
    generalize ((p2 &&& (2147483647 : Int32)) % (6 : Int32)) = i1 at hi1 ⊢
    show OFin _ _ _ _ _ _ T0 (mkF m 108 #[.val (.int p0), .val (.int p1), .val (.int p2), .val (.int p3), .val (.int (Int32.ofNat l1)), .val (.int ca1), .val (.int cb1), .val (.int z7), .val (.int (Int32.ofNat l2)), .val (.int ca2), .val (.int cb2), .unset, .unset, .unset, .unset, .unset, .unset, .unset, .unset, .unset, .unset] [(.int i1)])
    refine X0.step (fun hA hx hq t_ k_ => XS.istore hA hx rfl (hb hq at_108) rfl (l' := #[.val (.int p0), .val (.int p1), .val (.int p2), .val (.int p3), .val (.int (Int32.ofNat l1)), .val (.int ca1), .val (.int cb1), .val (.int z7), .val (.int (Int32.ofNat l2)), .val (.int ca2), .val (.int cb2), .val (.int i1), .unset, .unset, .unset, .unset, .unset, .unset, .unset, .unset, .unset]) rfl k_) ?_
    show OFin _ _ _ _ _ _ T0 (mkF m 110 #[.val (.int p0), .val (.int p1), .val (.int p2), .val (.int p3), .val (.int (Int32.ofNat l1)), .val (.int ca1), .val (.int cb1), .val (.int z7), .val (.int (Int32.ofNat l2)), .val (.int ca2), .val (.int cb2), .val (.int i1), .unset, .unset, .unset, .unset, .unset, .unset, .unset, .unset, .unset] [])
    have j145 : ∀ (z12 i2 : Int32), own_k6 i2 → OFin n0 p e (fun o t L => CHr Z own_EL s.vm s.heap t.vm t.heap ∧ ReturnedEndW s o t L room_1.cells room_1.slots) below (fun v h => v = some (.int 1)) T0 (mkF m 145 #[.val (.int p0), .val (.int p1), .val (.int p2), .val (.int p3), .val (.int (Int32.ofNat l1)), .val (.int ca1), .val (.int cb1), .val (.int z7), .val (.int (Int32.ofNat l2)), .val (.int ca2), .val (.int cb2), .val (.int i1), .val (.int z12), .val (.int i2), .unset, .unset, .unset, .unset, .unset, .unset, .unset] []) := by
      intro z12 i2 hi2
      refine X0.newO (hw _ (List.mem_of_getElem? (i := 1) rfl)) (hw _ (List.mem_of_getElem? (i := 2) rfl)) (hw _ (List.mem_of_getElem? (i := 3) rfl)) (g := (mkF m 145 #[.val (.int p0), .val (.int p1), .val (.int p2), .val (.int p3), .val (.int (Int32.ofNat l1)), .val (.int ca1), .val (.int cb1), .val (.int z7), .val (.int (Int32.ofNat l2)), .val (.int ca2), .val (.int cb2), .val (.int i1), .val (.int z12), .val (.int i2), .unset, .unset, .unset, .unset, .unset, .unset, .unset] [])) rfl at_145 (by decide) (by decide) ?_
      intro T1 h1 b1 gb1 X1 E1 A1 D1
      have B2 := B0.ext E1
      show OFin _ _ _ _ _ _ T1 (mkF m 148 #[.val (.int p0), .val (.int p1), .val (.int p2), .val (.int p3), .val (.int (Int32.ofNat l1)), .val (.int ca1), .val (.int cb1), .val (.int z7), .val (.int (Int32.ofNat l2)), .val (.int ca2), .val (.int cb2), .val (.int i1), .val (.int z12), .val (.int i2), .unset, .unset, .unset, .unset, .unset, .unset, .unset] [(.ref b1)])
      have O1 := O0.ext E1
      have Fa1 : Fld Z h1 b1 "com/example/replay_proof/replayproof/model/Name" "text" "Ljava/lang/String;" .null := D1 (Or.inr (hw _ (List.mem_of_getElem? (i := 51) rfl))) (ty := (.object "java/lang/String")) (by decide)
      have Fb1 : Fld Z h1 b1 "com/example/replay_proof/replayproof/model/Name" "kind" "Lcom/example/replay_proof/replayproof/model/Name$Kind;" .null := D1 (Or.inr (hw _ (List.mem_of_getElem? (i := 55) rfl))) (ty := (.object "com/example/replay_proof/replayproof/model/Name$Kind")) (by decide)
      have hn1 : n0 ≤ b1 := by rw [gb1]; exact Nat.le_trans (Nat.le_of_eq O0.1.symm) O0.2.1
      refine X1.step (fun hA hx hq t_ k_ => XS.dup hA hx rfl (hb hq at_148) rfl rfl k_) ?_
      show OFin _ _ _ _ _ _ T1 (mkF m 149 #[.val (.int p0), .val (.int p1), .val (.int p2), .val (.int p3), .val (.int (Int32.ofNat l1)), .val (.int ca1), .val (.int cb1), .val (.int z7), .val (.int (Int32.ofNat l2)), .val (.int ca2), .val (.int cb2), .val (.int i1), .val (.int z12), .val (.int i2), .unset, .unset, .unset, .unset, .unset, .unset, .unset] [(.ref b1), (.ref b1)])
      refine X1.step (fun hA hx hq t_ k_ => XS.iload hA hx rfl (hb hq at_149) rfl k_) ?_
      show OFin _ _ _ _ _ _ T1 (mkF m 151 #[.val (.int p0), .val (.int p1), .val (.int p2), .val (.int p3), .val (.int (Int32.ofNat l1)), .val (.int ca1), .val (.int cb1), .val (.int z7), .val (.int (Int32.ofNat l2)), .val (.int ca2), .val (.int cb2), .val (.int i1), .val (.int z12), .val (.int i2), .unset, .unset, .unset, .unset, .unset, .unset, .unset] [(.int (Int32.ofNat l1)), (.ref b1), (.ref b1)])
      refine X1.step (fun hA hx hq t_ k_ => XS.iload hA hx rfl (hb hq at_151) rfl k_) ?_
      show OFin _ _ _ _ _ _ T1 (mkF m 153 #[.val (.int p0), .val (.int p1), .val (.int p2), .val (.int p3), .val (.int (Int32.ofNat l1)), .val (.int ca1), .val (.int cb1), .val (.int z7), .val (.int (Int32.ofNat l2)), .val (.int ca2), .val (.int cb2), .val (.int i1), .val (.int z12), .val (.int i2), .unset, .unset, .unset, .unset, .unset, .unset, .unset] [(.int ca1), (.int (Int32.ofNat l1)), (.ref b1), (.ref b1)])
      refine X1.step (fun hA hx hq t_ k_ => XS.iload hA hx rfl (hb hq at_153) rfl k_) ?_
      show OFin _ _ _ _ _ _ T1 (mkF m 155 #[.val (.int p0), .val (.int p1), .val (.int p2), .val (.int p3), .val (.int (Int32.ofNat l1)), .val (.int ca1), .val (.int cb1), .val (.int z7), .val (.int (Int32.ofNat l2)), .val (.int ca2), .val (.int cb2), .val (.int i1), .val (.int z12), .val (.int i2), .unset, .unset, .unset, .unset, .unset, .unset, .unset] [(.int cb1), (.int ca1), (.int (Int32.ofNat l1)), (.ref b1), (.ref b1)])
      refine X1.callSW B2 (y' := (⟨"com/example/replay_proof/replayproof/model/NameEqualsPinLaw", "text", "(ICC)Ljava/lang/String;"⟩ : MethodName)) (hw _ (List.mem_of_getElem? (i := 4) rfl)) (hw _ (List.mem_of_getElem? (i := 5) rfl)) (hw _ (List.mem_of_getElem? (i := 6) rfl)) (hw _ (List.mem_of_getElem? (i := 7) rfl)) (by decide) (argsL := [(.int (Int32.ofNat l1)), (.int ca1), (.int cb1)]) (rest := [(.ref b1), (.ref b1)]) (rm1 l Z a0 hw l1 ca1 cb1 cs h1 n0 hl1 hca1 hcb1 (Nat.le_trans (Nat.le_of_eq O1.1.symm) O1.2.1) (SS.ext O1.2) hcs) (g := (mkF m 155 #[.val (.int p0), .val (.int p1), .val (.int p2), .val (.int p3), .val (.int (Int32.ofNat l1)), .val (.int ca1), .val (.int cb1), .val (.int z7), .val (.int (Int32.ofNat l2)), .val (.int ca2), .val (.int cb2), .val (.int i1), .val (.int z12), .val (.int i2), .unset, .unset, .unset, .unset, .unset, .unset, .unset] [(.int cb1), (.int ca1), (.int (Int32.ofNat l1)), (.ref b1), (.ref b1)])) rfl rfl pd_pICCr_Ljava_lang_String_ rfl rfl (W := 2) (by show 2 * 0 + _ ≤ _; exact Nat.le_of_eq rfl) at_155 (by decide) (by decide) (by decide) (by decide) ?_
      intro v3 T3 h3 vm3 X3 B3 G3 Sf3 q3
      obtain ⟨s1, t1, rfl, U1, K3, ls1⟩ := q3
      show OFin _ _ _ _ _ _ T3 (mkF m 158 #[.val (.int p0), .val (.int p1), .val (.int p2), .val (.int p3), .val (.int (Int32.ofNat l1)), .val (.int ca1), .val (.int cb1), .val (.int z7), .val (.int (Int32.ofNat l2)), .val (.int ca2), .val (.int cb2), .val (.int i1), .val (.int z12), .val (.int i2), .unset, .unset, .unset, .unset, .unset, .unset, .unset] [(.ref s1), (.ref b1), (.ref b1)])
      have O3 := O1.keep K3 all0
      refine X3.step (fun hA hx hq t_ k_ => XS.iload hA hx rfl (hb hq at_158) rfl k_) ?_
      show OFin _ _ _ _ _ _ T3 (mkF m 160 #[.val (.int p0), .val (.int p1), .val (.int p2), .val (.int p3), .val (.int (Int32.ofNat l1)), .val (.int ca1), .val (.int cb1), .val (.int z7), .val (.int (Int32.ofNat l2)), .val (.int ca2), .val (.int cb2), .val (.int i1), .val (.int z12), .val (.int i2), .unset, .unset, .unset, .unset, .unset, .unset, .unset] [(.int i1), (.ref s1), (.ref b1), (.ref b1)])
      refine X3.callS (y' := (⟨"com/example/replay_proof/replayproof/model/NameEqualsPinLaw", "kindOf", "(I)Lcom/example/replay_proof/replayproof/model/Name$Kind;"⟩ : MethodName)) (hw _ (List.mem_of_getElem? (i := 30) rfl)) (hw _ (List.mem_of_getElem? (i := 31) rfl)) (hw _ (List.mem_of_getElem? (i := 6) rfl)) (hw _ (List.mem_of_getElem? (i := 32) rfl)) (by decide) (argsL := [(.int i1)]) (rest := [(.ref s1), (.ref b1), (.ref b1)]) (rm2 l Z a0 hw i1 kR kC kT kN kK kA h3 n0 (SR.ext O3.2) (SC.ext O3.2) (ST.ext O3.2) (SN.ext O3.2) (SK.ext O3.2) (SA.ext O3.2)) (g := (mkF m 160 #[.val (.int p0), .val (.int p1), .val (.int p2), .val (.int p3), .val (.int (Int32.ofNat l1)), .val (.int ca1), .val (.int cb1), .val (.int z7), .val (.int (Int32.ofNat l2)), .val (.int ca2), .val (.int cb2), .val (.int i1), .val (.int z12), .val (.int i2), .unset, .unset, .unset, .unset, .unset, .unset, .unset] [(.int i1), (.ref s1), (.ref b1), (.ref b1)])) rfl rfl pd_pIr_Lcom_example_replay_proof_replayproof_model_Name_Kind_ rfl rfl (W := 3) (by show 2 * 0 + _ ≤ _; exact Nat.le_of_eq rfl) at_160 (by decide) (by decide) (by decide) (by decide) ?_
      intro v4 T4 h4 X4 q4
      obtain ⟨rfl, rfl⟩ := q4
      show OFin _ _ _ _ _ _ T4 (mkF m 163 #[.val (.int p0), .val (.int p1), .val (.int p2), .val (.int p3), .val (.int (Int32.ofNat l1)), .val (.int ca1), .val (.int cb1), .val (.int z7), .val (.int (Int32.ofNat l2)), .val (.int ca2), .val (.int cb2), .val (.int i1), .val (.int z12), .val (.int i2), .unset, .unset, .unset, .unset, .unset, .unset, .unset] [(.ref (own_kind i1 kR kC kT kN kK kA)), (.ref s1), (.ref b1), (.ref b1)])
      refine X4.callI (y' := (⟨"com/example/replay_proof/replayproof/model/Name", "<init>", "(Ljava/lang/String;Lcom/example/replay_proof/replayproof/model/Name$Kind;)V"⟩ : MethodName)) rfl (hw _ (List.mem_of_getElem? (i := 36) rfl)) (hw _ (List.mem_of_getElem? (i := 37) rfl)) (hw _ (List.mem_of_getElem? (i := 3) rfl)) (hw _ (List.mem_of_getElem? (i := 38) rfl)) (by decide) (a := b1) (argsL := [(.ref s1), (.ref (own_kind i1 kR kC kT kN kK kA))]) (rest := [(.ref b1)]) (rm5 l Z a0 hw b1 s1 (own_kind i1 kR kC kT kN kK kA) h3 n0 (Fa1.keep K3 nin0) (Fb1.keep K3 nin0) (A1.keep K3) hn1 U1.1 (own_kp (P := fun a _ => Exa Z _ a _) hi1 (ER.ext O3.2) (EC.ext O3.2) (ET.ext O3.2) (EN.ext O3.2) (EK.ext O3.2) (EA.ext O3.2))) (g := (mkF m 163 #[.val (.int p0), .val (.int p1), .val (.int p2), .val (.int p3), .val (.int (Int32.ofNat l1)), .val (.int ca1), .val (.int cb1), .val (.int z7), .val (.int (Int32.ofNat l2)), .val (.int ca2), .val (.int cb2), .val (.int i1), .val (.int z12), .val (.int i2), .unset, .unset, .unset, .unset, .unset, .unset, .unset] [(.ref (own_kind i1 kR kC kT kN kK kA)), (.ref s1), (.ref b1), (.ref b1)])) rfl rfl pd_pLjava_lang_String_Lcom_example_replay_proof_replayproof_model_Name_Kind_r_V rfl rfl (W := 1) (by show 2 * 0 + _ ≤ _; exact Nat.le_of_eq rfl) at_163 (by decide) (by decide) (by decide) (by decide) ?_
      intro v5 T5 h5 X5 q5
      obtain ⟨rfl, K5, Ea, Ta, Ka⟩ := q5
      have B6 := B3.keep K5 (sfS (Safe.exa X4.1.2.1.alike (A1.keep K3) (by decide) (by decide)) sf0)
      show OFin _ _ _ _ _ _ T5 (mkF m 166 #[.val (.int p0), .val (.int p1), .val (.int p2), .val (.int p3), .val (.int (Int32.ofNat l1)), .val (.int ca1), .val (.int cb1), .val (.int z7), .val (.int (Int32.ofNat l2)), .val (.int ca2), .val (.int cb2), .val (.int i1), .val (.int z12), .val (.int i2), .unset, .unset, .unset, .unset, .unset, .unset, .unset] [(.ref b1)])
      have O5 := O3.keep K5 (allS hn1 all0)
      have m1 : s1 ≠ b1 := fun e => by have q1 := A1.lt; rw [← e] at q1; exact absurd ls1 (Nat.not_le.mpr q1)
      have m2 : t1 ≠ b1 := own_neA (hw _ (List.mem_of_getElem? (i := 2) rfl)) (A1.keep K3) U1.2.2.2
      have U1 := U1.keep K5 (ninS m1 nin0) (ninS m2 nin0)
      refine X5.step (fun hA hx hq t_ k_ => XS.astore hA hx rfl (hb hq at_166) rfl rfl (l' := #[.val (.int p0), .val (.int p1), .val (.int p2), .val (.int p3), .val (.int (Int32.ofNat l1)), .val (.int ca1), .val (.int cb1), .val (.int z7), .val (.int (Int32.ofNat l2)), .val (.int ca2), .val (.int cb2), .val (.int i1), .val (.int z12), .val (.int i2), .val (.ref b1), .unset, .unset, .unset, .unset, .unset, .unset]) rfl k_) ?_
      show OFin _ _ _ _ _ _ T5 (mkF m 168 #[.val (.int p0), .val (.int p1), .val (.int p2), .val (.int p3), .val (.int (Int32.ofNat l1)), .val (.int ca1), .val (.int cb1), .val (.int z7), .val (.int (Int32.ofNat l2)), .val (.int ca2), .val (.int cb2), .val (.int i1), .val (.int z12), .val (.int i2), .val (.ref b1), .unset, .unset, .unset, .unset, .unset, .unset] [])
      refine X5.step (fun hA hx hq t_ k_ => XS.iload hA hx rfl (hb hq at_168) rfl k_) ?_
      show OFin _ _ _ _ _ _ T5 (mkF m 170 #[.val (.int p0), .val (.int p1), .val (.int p2), .val (.int p3), .val (.int (Int32.ofNat l1)), .val (.int ca1), .val (.int cb1), .val (.int z7), .val (.int (Int32.ofNat l2)), .val (.int ca2), .val (.int cb2), .val (.int i1), .val (.int z12), .val (.int i2), .val (.ref b1), .unset, .unset, .unset, .unset, .unset, .unset] [(.int (Int32.ofNat l2))])
      refine X5.step (fun hA hx hq t_ k_ => XS.iload hA hx rfl (hb hq at_170) rfl k_) ?_
      show OFin _ _ _ _ _ _ T5 (mkF m 172 #[.val (.int p0), .val (.int p1), .val (.int p2), .val (.int p3), .val (.int (Int32.ofNat l1)), .val (.int ca1), .val (.int cb1), .val (.int z7), .val (.int (Int32.ofNat l2)), .val (.int ca2), .val (.int cb2), .val (.int i1), .val (.int z12), .val (.int i2), .val (.ref b1), .unset, .unset, .unset, .unset, .unset, .unset] [(.int ca2), (.int (Int32.ofNat l2))])
      refine X5.step (fun hA hx hq t_ k_ => XS.iload hA hx rfl (hb hq at_172) rfl k_) ?_
      show OFin _ _ _ _ _ _ T5 (mkF m 174 #[.val (.int p0), .val (.int p1), .val (.int p2), .val (.int p3), .val (.int (Int32.ofNat l1)), .val (.int ca1), .val (.int cb1), .val (.int z7), .val (.int (Int32.ofNat l2)), .val (.int ca2), .val (.int cb2), .val (.int i1), .val (.int z12), .val (.int i2), .val (.ref b1), .unset, .unset, .unset, .unset, .unset, .unset] [(.int cb2), (.int ca2), (.int (Int32.ofNat l2))])
      refine X5.callSW B6 (y' := (⟨"com/example/replay_proof/replayproof/model/NameEqualsPinLaw", "text", "(ICC)Ljava/lang/String;"⟩ : MethodName)) (hw _ (List.mem_of_getElem? (i := 4) rfl)) (hw _ (List.mem_of_getElem? (i := 5) rfl)) (hw _ (List.mem_of_getElem? (i := 6) rfl)) (hw _ (List.mem_of_getElem? (i := 7) rfl)) (by decide) (argsL := [(.int (Int32.ofNat l2)), (.int ca2), (.int cb2)]) (rest := []) (rm1 l Z a0 hw l2 ca2 cb2 cs h5 n0 hl2 hca2 hcb2 (Nat.le_trans (Nat.le_of_eq O5.1.symm) O5.2.1) (SS.ext O5.2) hcs) (g := (mkF m 174 #[.val (.int p0), .val (.int p1), .val (.int p2), .val (.int p3), .val (.int (Int32.ofNat l1)), .val (.int ca1), .val (.int cb1), .val (.int z7), .val (.int (Int32.ofNat l2)), .val (.int ca2), .val (.int cb2), .val (.int i1), .val (.int z12), .val (.int i2), .val (.ref b1), .unset, .unset, .unset, .unset, .unset, .unset] [(.int cb2), (.int ca2), (.int (Int32.ofNat l2))])) rfl rfl pd_pICCr_Ljava_lang_String_ rfl rfl (W := 0) (by show 2 * 0 + _ ≤ _; exact Nat.le_of_eq rfl) at_174 (by decide) (by decide) (by decide) (by decide) ?_
      intro v7 T7 h7 vm7 X7 B7 G7 Sf7 q7
      obtain ⟨s2, t2, rfl, U2, K7, ls2⟩ := q7
      show OFin _ _ _ _ _ _ T7 (mkF m 177 #[.val (.int p0), .val (.int p1), .val (.int p2), .val (.int p3), .val (.int (Int32.ofNat l1)), .val (.int ca1), .val (.int cb1), .val (.int z7), .val (.int (Int32.ofNat l2)), .val (.int ca2), .val (.int cb2), .val (.int i1), .val (.int z12), .val (.int i2), .val (.ref b1), .unset, .unset, .unset, .unset, .unset, .unset] [(.ref s2)])
      have O7 := O5.keep K7 all0
      have ne12 : s1 ≠ s2 := fun e => by have q1 := U1.1.lt; rw [e] at q1; exact absurd ls2 (Nat.not_le.mpr q1)
      have U1 := U1.keep K7 nin0 nin0
      have Ea := Ea.keep K7
      have Ta := Ta.keep K7 nin0
      have Ka := Ka.keep K7 nin0
      refine X7.step (fun hA hx hq t_ k_ => XS.astore hA hx rfl (hb hq at_177) rfl rfl (l' := #[.val (.int p0), .val (.int p1), .val (.int p2), .val (.int p3), .val (.int (Int32.ofNat l1)), .val (.int ca1), .val (.int cb1), .val (.int z7), .val (.int (Int32.ofNat l2)), .val (.int ca2), .val (.int cb2), .val (.int i1), .val (.int z12), .val (.int i2), .val (.ref b1), .val (.ref s2), .unset, .unset, .unset, .unset, .unset]) rfl k_) ?_
      show OFin _ _ _ _ _ _ T7 (mkF m 179 #[.val (.int p0), .val (.int p1), .val (.int p2), .val (.int p3), .val (.int (Int32.ofNat l1)), .val (.int ca1), .val (.int cb1), .val (.int z7), .val (.int (Int32.ofNat l2)), .val (.int ca2), .val (.int cb2), .val (.int i1), .val (.int z12), .val (.int i2), .val (.ref b1), .val (.ref s2), .unset, .unset, .unset, .unset, .unset] [])
      refine X7.newO (hw _ (List.mem_of_getElem? (i := 1) rfl)) (hw _ (List.mem_of_getElem? (i := 2) rfl)) (hw _ (List.mem_of_getElem? (i := 3) rfl)) (g := (mkF m 179 #[.val (.int p0), .val (.int p1), .val (.int p2), .val (.int p3), .val (.int (Int32.ofNat l1)), .val (.int ca1), .val (.int cb1), .val (.int z7), .val (.int (Int32.ofNat l2)), .val (.int ca2), .val (.int cb2), .val (.int i1), .val (.int z12), .val (.int i2), .val (.ref b1), .val (.ref s2), .unset, .unset, .unset, .unset, .unset] [])) rfl at_179 (by decide) (by decide) ?_
      intro T8 h8 b8 gb8 X8 E8 A8 D8
      have B9 := B7.ext E8
      show OFin _ _ _ _ _ _ T8 (mkF m 182 #[.val (.int p0), .val (.int p1), .val (.int p2), .val (.int p3), .val (.int (Int32.ofNat l1)), .val (.int ca1), .val (.int cb1), .val (.int z7), .val (.int (Int32.ofNat l2)), .val (.int ca2), .val (.int cb2), .val (.int i1), .val (.int z12), .val (.int i2), .val (.ref b1), .val (.ref s2), .unset, .unset, .unset, .unset, .unset] [(.ref b8)])
      have O8 := O7.ext E8
      have Fa8 : Fld Z h8 b8 "com/example/replay_proof/replayproof/model/Name" "text" "Ljava/lang/String;" .null := D8 (Or.inr (hw _ (List.mem_of_getElem? (i := 51) rfl))) (ty := (.object "java/lang/String")) (by decide)
      have Fb8 : Fld Z h8 b8 "com/example/replay_proof/replayproof/model/Name" "kind" "Lcom/example/replay_proof/replayproof/model/Name$Kind;" .null := D8 (Or.inr (hw _ (List.mem_of_getElem? (i := 55) rfl))) (ty := (.object "com/example/replay_proof/replayproof/model/Name$Kind")) (by decide)
      have hn8 : n0 ≤ b8 := by rw [gb8]; exact Nat.le_trans (Nat.le_of_eq O7.1.symm) O7.2.1
      refine X8.step (fun hA hx hq t_ k_ => XS.dup hA hx rfl (hb hq at_182) rfl rfl k_) ?_
      show OFin _ _ _ _ _ _ T8 (mkF m 183 #[.val (.int p0), .val (.int p1), .val (.int p2), .val (.int p3), .val (.int (Int32.ofNat l1)), .val (.int ca1), .val (.int cb1), .val (.int z7), .val (.int (Int32.ofNat l2)), .val (.int ca2), .val (.int cb2), .val (.int i1), .val (.int z12), .val (.int i2), .val (.ref b1), .val (.ref s2), .unset, .unset, .unset, .unset, .unset] [(.ref b8), (.ref b8)])
      refine X8.step (fun hA hx hq t_ k_ => XS.aload hA hx rfl (hb hq at_183) rfl rfl k_) ?_
      show OFin _ _ _ _ _ _ T8 (mkF m 185 #[.val (.int p0), .val (.int p1), .val (.int p2), .val (.int p3), .val (.int (Int32.ofNat l1)), .val (.int ca1), .val (.int cb1), .val (.int z7), .val (.int (Int32.ofNat l2)), .val (.int ca2), .val (.int cb2), .val (.int i1), .val (.int z12), .val (.int i2), .val (.ref b1), .val (.ref s2), .unset, .unset, .unset, .unset, .unset] [(.ref s2), (.ref b8), (.ref b8)])
      refine X8.step (fun hA hx hq t_ k_ => XS.iload hA hx rfl (hb hq at_185) rfl k_) ?_
      show OFin _ _ _ _ _ _ T8 (mkF m 187 #[.val (.int p0), .val (.int p1), .val (.int p2), .val (.int p3), .val (.int (Int32.ofNat l1)), .val (.int ca1), .val (.int cb1), .val (.int z7), .val (.int (Int32.ofNat l2)), .val (.int ca2), .val (.int cb2), .val (.int i1), .val (.int z12), .val (.int i2), .val (.ref b1), .val (.ref s2), .unset, .unset, .unset, .unset, .unset] [(.int i2), (.ref s2), (.ref b8), (.ref b8)])
      refine X8.callS (y' := (⟨"com/example/replay_proof/replayproof/model/NameEqualsPinLaw", "kindOf", "(I)Lcom/example/replay_proof/replayproof/model/Name$Kind;"⟩ : MethodName)) (hw _ (List.mem_of_getElem? (i := 30) rfl)) (hw _ (List.mem_of_getElem? (i := 31) rfl)) (hw _ (List.mem_of_getElem? (i := 6) rfl)) (hw _ (List.mem_of_getElem? (i := 32) rfl)) (by decide) (argsL := [(.int i2)]) (rest := [(.ref s2), (.ref b8), (.ref b8)]) (rm2 l Z a0 hw i2 kR kC kT kN kK kA h8 n0 (SR.ext O8.2) (SC.ext O8.2) (ST.ext O8.2) (SN.ext O8.2) (SK.ext O8.2) (SA.ext O8.2)) (g := (mkF m 187 #[.val (.int p0), .val (.int p1), .val (.int p2), .val (.int p3), .val (.int (Int32.ofNat l1)), .val (.int ca1), .val (.int cb1), .val (.int z7), .val (.int (Int32.ofNat l2)), .val (.int ca2), .val (.int cb2), .val (.int i1), .val (.int z12), .val (.int i2), .val (.ref b1), .val (.ref s2), .unset, .unset, .unset, .unset, .unset] [(.int i2), (.ref s2), (.ref b8), (.ref b8)])) rfl rfl pd_pIr_Lcom_example_replay_proof_replayproof_model_Name_Kind_ rfl rfl (W := 3) (by show 2 * 0 + _ ≤ _; exact Nat.le_of_eq rfl) at_187 (by decide) (by decide) (by decide) (by decide) ?_
      intro v10 T10 h10 X10 q10
      obtain ⟨rfl, rfl⟩ := q10
      show OFin _ _ _ _ _ _ T10 (mkF m 190 #[.val (.int p0), .val (.int p1), .val (.int p2), .val (.int p3), .val (.int (Int32.ofNat l1)), .val (.int ca1), .val (.int cb1), .val (.int z7), .val (.int (Int32.ofNat l2)), .val (.int ca2), .val (.int cb2), .val (.int i1), .val (.int z12), .val (.int i2), .val (.ref b1), .val (.ref s2), .unset, .unset, .unset, .unset, .unset] [(.ref (own_kind i2 kR kC kT kN kK kA)), (.ref s2), (.ref b8), (.ref b8)])
      have n1 : b1 ≠ b8 := by rw [gb8]; exact Nat.ne_of_lt Ea.lt
      have n2 : s1 ≠ b8 := by rw [gb8]; exact Nat.ne_of_lt U1.1.lt
      have n3 : t1 ≠ b8 := by rw [gb8]; exact Nat.ne_of_lt U1.2.2.2.lt
      have n4 : s2 ≠ b8 := by rw [gb8]; exact Nat.ne_of_lt U2.1.lt
      have n5 : t2 ≠ b8 := by rw [gb8]; exact Nat.ne_of_lt U2.2.2.2.lt
      refine X10.callI (y' := (⟨"com/example/replay_proof/replayproof/model/Name", "<init>", "(Ljava/lang/String;Lcom/example/replay_proof/replayproof/model/Name$Kind;)V"⟩ : MethodName)) rfl (hw _ (List.mem_of_getElem? (i := 36) rfl)) (hw _ (List.mem_of_getElem? (i := 37) rfl)) (hw _ (List.mem_of_getElem? (i := 3) rfl)) (hw _ (List.mem_of_getElem? (i := 38) rfl)) (by decide) (a := b8) (argsL := [(.ref s2), (.ref (own_kind i2 kR kC kT kN kK kA))]) (rest := [(.ref b8)]) (rm5 l Z a0 hw b8 s2 (own_kind i2 kR kC kT kN kK kA) h8 n0 Fa8 Fb8 A8 hn8 (U2.1.ext E8) (own_kp (P := fun a _ => Exa Z _ a _) hi2 (ER.ext O8.2) (EC.ext O8.2) (ET.ext O8.2) (EN.ext O8.2) (EK.ext O8.2) (EA.ext O8.2))) (g := (mkF m 190 #[.val (.int p0), .val (.int p1), .val (.int p2), .val (.int p3), .val (.int (Int32.ofNat l1)), .val (.int ca1), .val (.int cb1), .val (.int z7), .val (.int (Int32.ofNat l2)), .val (.int ca2), .val (.int cb2), .val (.int i1), .val (.int z12), .val (.int i2), .val (.ref b1), .val (.ref s2), .unset, .unset, .unset, .unset, .unset] [(.ref (own_kind i2 kR kC kT kN kK kA)), (.ref s2), (.ref b8), (.ref b8)])) rfl rfl pd_pLjava_lang_String_Lcom_example_replay_proof_replayproof_model_Name_Kind_r_V rfl rfl (W := 1) (by show 2 * 0 + _ ≤ _; exact Nat.le_of_eq rfl) at_190 (by decide) (by decide) (by decide) (by decide) ?_
      intro v11 T11 h11 X11 q11
      obtain ⟨rfl, K11, Eb, Tb, Kb⟩ := q11
      have B12 := B9.keep K11 (sfS (Safe.exa X10.1.2.1.alike A8 (by decide) (by decide)) sf0)
      show OFin _ _ _ _ _ _ T11 (mkF m 193 #[.val (.int p0), .val (.int p1), .val (.int p2), .val (.int p3), .val (.int (Int32.ofNat l1)), .val (.int ca1), .val (.int cb1), .val (.int z7), .val (.int (Int32.ofNat l2)), .val (.int ca2), .val (.int cb2), .val (.int i1), .val (.int z12), .val (.int i2), .val (.ref b1), .val (.ref s2), .unset, .unset, .unset, .unset, .unset] [(.ref b8)])
      have O11 := O8.keep K11 (allS hn8 all0)
      have U1 := (U1.ext E8).keep K11 (ninS n2 nin0) (ninS n3 nin0)
      have U2 := (U2.ext E8).keep K11 (ninS n4 nin0) (ninS n5 nin0)
      have Ea := (Ea.ext E8).keep K11
      have Ta := (Ta.ext E8).keep K11 (ninS n1 nin0)
      have Ka := (Ka.ext E8).keep K11 (ninS n1 nin0)
      have hk : (own_kind i1 kR kC kT kN kK kA) = (own_kind i2 kR kC kT kN kK kA) ↔ i1 = i2 := ⟨fun e => Decidable.byContradiction fun z => Fld.ne (own_kp (P := fun a i => Fld Z _ a _ _ _ (.int i)) hi1 FR FC FT FN FK FA) (own_kp (P := fun a i => Fld Z _ a _ _ _ (.int i)) hi2 FR FC FT FN FK FA) (fun q => z (Value.int.inj q)) e, fun e => by rw [e]⟩
      have hst := own_sti (l2 := l2) hl1 hca1 hca2 hcb1 hcb2
      refine X11.step (fun hA hx hq t_ k_ => XS.astore hA hx rfl (hb hq at_193) rfl rfl (l' := #[.val (.int p0), .val (.int p1), .val (.int p2), .val (.int p3), .val (.int (Int32.ofNat l1)), .val (.int ca1), .val (.int cb1), .val (.int z7), .val (.int (Int32.ofNat l2)), .val (.int ca2), .val (.int cb2), .val (.int i1), .val (.int z12), .val (.int i2), .val (.ref b1), .val (.ref s2), .val (.ref b8), .unset, .unset, .unset, .unset]) rfl k_) ?_
      show OFin _ _ _ _ _ _ T11 (mkF m 195 #[.val (.int p0), .val (.int p1), .val (.int p2), .val (.int p3), .val (.int (Int32.ofNat l1)), .val (.int ca1), .val (.int cb1), .val (.int z7), .val (.int (Int32.ofNat l2)), .val (.int ca2), .val (.int cb2), .val (.int i1), .val (.int z12), .val (.int i2), .val (.ref b1), .val (.ref s2), .val (.ref b8), .unset, .unset, .unset, .unset] [])
      refine X11.step (fun hA hx hq t_ k_ => XS.iloadN hA hx rfl (hb hq at_195) rfl k_) ?_
      show OFin _ _ _ _ _ _ T11 (mkF m 196 #[.val (.int p0), .val (.int p1), .val (.int p2), .val (.int p3), .val (.int (Int32.ofNat l1)), .val (.int ca1), .val (.int cb1), .val (.int z7), .val (.int (Int32.ofNat l2)), .val (.int ca2), .val (.int cb2), .val (.int i1), .val (.int z12), .val (.int i2), .val (.ref b1), .val (.ref s2), .val (.ref b8), .unset, .unset, .unset, .unset] [(.int p3)])
      refine X11.step (fun hA hx hq t_ k_ => XS.iconst hA hx rfl (hb hq at_196) k_) ?_
      show OFin _ _ _ _ _ _ T11 (mkF m 197 #[.val (.int p0), .val (.int p1), .val (.int p2), .val (.int p3), .val (.int (Int32.ofNat l1)), .val (.int ca1), .val (.int cb1), .val (.int z7), .val (.int (Int32.ofNat l2)), .val (.int ca2), .val (.int cb2), .val (.int i1), .val (.int z12), .val (.int i2), .val (.ref b1), .val (.ref s2), .val (.ref b8), .unset, .unset, .unset, .unset] [(.int (2 : Int32)), (.int p3)])
      refine X11.step (fun hA hx hq t_ k_ => XS.iushr hA hx rfl (hb hq at_197) rfl k_) ?_
      show OFin _ _ _ _ _ _ T11 (mkF m 198 #[.val (.int p0), .val (.int p1), .val (.int p2), .val (.int p3), .val (.int (Int32.ofNat l1)), .val (.int ca1), .val (.int cb1), .val (.int z7), .val (.int (Int32.ofNat l2)), .val (.int ca2), .val (.int cb2), .val (.int i1), .val (.int z12), .val (.int i2), .val (.ref b1), .val (.ref s2), .val (.ref b8), .unset, .unset, .unset, .unset] [(.int ((p3.toUInt32 >>> ((2 : Int32) &&& 31).toUInt32).toInt32))])
      refine X11.step (fun hA hx hq t_ k_ => XS.iconst hA hx rfl (hb hq at_198) k_) ?_
      show OFin _ _ _ _ _ _ T11 (mkF m 199 #[.val (.int p0), .val (.int p1), .val (.int p2), .val (.int p3), .val (.int (Int32.ofNat l1)), .val (.int ca1), .val (.int cb1), .val (.int z7), .val (.int (Int32.ofNat l2)), .val (.int ca2), .val (.int cb2), .val (.int i1), .val (.int z12), .val (.int i2), .val (.ref b1), .val (.ref s2), .val (.ref b8), .unset, .unset, .unset, .unset] [(.int (3 : Int32)), (.int ((p3.toUInt32 >>> ((2 : Int32) &&& 31).toUInt32).toInt32))])
      refine X11.step (fun hA hx hq t_ k_ => XS.iand hA hx rfl (hb hq at_199) rfl k_) ?_
      show OFin _ _ _ _ _ _ T11 (mkF m 200 #[.val (.int p0), .val (.int p1), .val (.int p2), .val (.int p3), .val (.int (Int32.ofNat l1)), .val (.int ca1), .val (.int cb1), .val (.int z7), .val (.int (Int32.ofNat l2)), .val (.int ca2), .val (.int cb2), .val (.int i1), .val (.int z12), .val (.int i2), .val (.ref b1), .val (.ref s2), .val (.ref b8), .unset, .unset, .unset, .unset] [(.int (((p3.toUInt32 >>> ((2 : Int32) &&& 31).toUInt32).toInt32) &&& (3 : Int32)))])
      have hmm : (((p3.toUInt32 >>> ((2 : Int32) &&& 31).toUInt32).toInt32) &&& (3 : Int32)) = 0 ∨ (((p3.toUInt32 >>> ((2 : Int32) &&& 31).toUInt32).toInt32) &&& (3 : Int32)) = 1 ∨ (((p3.toUInt32 >>> ((2 : Int32) &&& 31).toUInt32).toInt32) &&& (3 : Int32)) = 2 ∨ (((p3.toUInt32 >>> ((2 : Int32) &&& 31).toUInt32).toInt32) &&& (3 : Int32)) = 3 := own_m4 _
      generalize (((p3.toUInt32 >>> ((2 : Int32) &&& 31).toUInt32).toInt32) &&& (3 : Int32)) = mm at hmm ⊢
      show OFin _ _ _ _ _ _ T11 (mkF m 200 #[.val (.int p0), .val (.int p1), .val (.int p2), .val (.int p3), .val (.int (Int32.ofNat l1)), .val (.int ca1), .val (.int cb1), .val (.int z7), .val (.int (Int32.ofNat l2)), .val (.int ca2), .val (.int cb2), .val (.int i1), .val (.int z12), .val (.int i2), .val (.ref b1), .val (.ref s2), .val (.ref b8), .unset, .unset, .unset, .unset] [(.int mm)])
      refine X11.step (fun hA hx hq t_ k_ => XS.istore hA hx rfl (hb hq at_200) rfl (l' := #[.val (.int p0), .val (.int p1), .val (.int p2), .val (.int p3), .val (.int (Int32.ofNat l1)), .val (.int ca1), .val (.int cb1), .val (.int z7), .val (.int (Int32.ofNat l2)), .val (.int ca2), .val (.int cb2), .val (.int i1), .val (.int z12), .val (.int i2), .val (.ref b1), .val (.ref s2), .val (.ref b8), .val (.int mm), .unset, .unset, .unset]) rfl k_) ?_
      show OFin _ _ _ _ _ _ T11 (mkF m 202 #[.val (.int p0), .val (.int p1), .val (.int p2), .val (.int p3), .val (.int (Int32.ofNat l1)), .val (.int ca1), .val (.int cb1), .val (.int z7), .val (.int (Int32.ofNat l2)), .val (.int ca2), .val (.int cb2), .val (.int i1), .val (.int z12), .val (.int i2), .val (.ref b1), .val (.ref s2), .val (.ref b8), .val (.int mm), .unset, .unset, .unset] [])
      rcases hmm with rfl | rfl | rfl | rfl
      · show OFin _ _ _ _ _ _ T11 (mkF m 202 #[.val (.int p0), .val (.int p1), .val (.int p2), .val (.int p3), .val (.int (Int32.ofNat l1)), .val (.int ca1), .val (.int cb1), .val (.int z7), .val (.int (Int32.ofNat l2)), .val (.int ca2), .val (.int cb2), .val (.int i1), .val (.int z12), .val (.int i2), .val (.ref b1), .val (.ref s2), .val (.ref b8), .val (.int (0 : Int32)), .unset, .unset, .unset] [])
        refine X11.step (fun hA hx hq t_ k_ => XS.iload hA hx rfl (hb hq at_202) rfl k_) ?_
        show OFin _ _ _ _ _ _ T11 (mkF m 204 #[.val (.int p0), .val (.int p1), .val (.int p2), .val (.int p3), .val (.int (Int32.ofNat l1)), .val (.int ca1), .val (.int cb1), .val (.int z7), .val (.int (Int32.ofNat l2)), .val (.int ca2), .val (.int cb2), .val (.int i1), .val (.int z12), .val (.int i2), .val (.ref b1), .val (.ref s2), .val (.ref b8), .val (.int (0 : Int32)), .unset, .unset, .unset] [(.int (0 : Int32))])
        refine X11.step (fun hA hx hq t_ k_ => XS.ifNo hA hx rfl (hb hq at_204) rfl ((if0 _ _).trans (teq ((rfl : (0 : Int32) = (0 : Int32)))).2) k_) ?_
        show OFin _ _ _ _ _ _ T11 (mkF m 207 #[.val (.int p0), .val (.int p1), .val (.int p2), .val (.int p3), .val (.int (Int32.ofNat l1)), .val (.int ca1), .val (.int cb1), .val (.int z7), .val (.int (Int32.ofNat l2)), .val (.int ca2), .val (.int cb2), .val (.int i1), .val (.int z12), .val (.int i2), .val (.ref b1), .val (.ref s2), .val (.ref b8), .val (.int (0 : Int32)), .unset, .unset, .unset] [])
        refine X11.step (fun hA hx hq t_ k_ => XS.aload hA hx rfl (hb hq at_207) rfl rfl k_) ?_
        show OFin _ _ _ _ _ _ T11 (mkF m 209 #[.val (.int p0), .val (.int p1), .val (.int p2), .val (.int p3), .val (.int (Int32.ofNat l1)), .val (.int ca1), .val (.int cb1), .val (.int z7), .val (.int (Int32.ofNat l2)), .val (.int ca2), .val (.int cb2), .val (.int i1), .val (.int z12), .val (.int i2), .val (.ref b1), .val (.ref s2), .val (.ref b8), .val (.int (0 : Int32)), .unset, .unset, .unset] [(.ref b8)])
        refine X11.step (fun hA hx hq t_ k_ => XS.astore hA hx rfl (hb hq at_209) rfl rfl (l' := #[.val (.int p0), .val (.int p1), .val (.int p2), .val (.int p3), .val (.int (Int32.ofNat l1)), .val (.int ca1), .val (.int cb1), .val (.int z7), .val (.int (Int32.ofNat l2)), .val (.int ca2), .val (.int cb2), .val (.int i1), .val (.int z12), .val (.int i2), .val (.ref b1), .val (.ref s2), .val (.ref b8), .val (.int (0 : Int32)), .val (.ref b8), .unset, .unset]) rfl k_) ?_
        show OFin _ _ _ _ _ _ T11 (mkF m 211 #[.val (.int p0), .val (.int p1), .val (.int p2), .val (.int p3), .val (.int (Int32.ofNat l1)), .val (.int ca1), .val (.int cb1), .val (.int z7), .val (.int (Int32.ofNat l2)), .val (.int ca2), .val (.int cb2), .val (.int i1), .val (.int z12), .val (.int i2), .val (.ref b1), .val (.ref s2), .val (.ref b8), .val (.int (0 : Int32)), .val (.ref b8), .unset, .unset] [])
        refine X11.step (fun hA hx hq t_ k_ => XS.goto hA hx rfl (pc0 := 211) (pc' := 243) rfl (hb hq at_211) (by decide) (by decide) k_) ?_
        show OFin _ _ _ _ _ _ T11 (mkF m 243 #[.val (.int p0), .val (.int p1), .val (.int p2), .val (.int p3), .val (.int (Int32.ofNat l1)), .val (.int ca1), .val (.int cb1), .val (.int z7), .val (.int (Int32.ofNat l2)), .val (.int ca2), .val (.int cb2), .val (.int i1), .val (.int z12), .val (.int i2), .val (.ref b1), .val (.ref s2), .val (.ref b8), .val (.int (0 : Int32)), .val (.ref b8), .unset, .unset] [])
        refine X11.step (fun hA hx hq t_ k_ => XS.iload hA hx rfl (hb hq at_243) rfl k_) ?_
        show OFin _ _ _ _ _ _ T11 (mkF m 245 #[.val (.int p0), .val (.int p1), .val (.int p2), .val (.int p3), .val (.int (Int32.ofNat l1)), .val (.int ca1), .val (.int cb1), .val (.int z7), .val (.int (Int32.ofNat l2)), .val (.int ca2), .val (.int cb2), .val (.int i1), .val (.int z12), .val (.int i2), .val (.ref b1), .val (.ref s2), .val (.ref b8), .val (.int (0 : Int32)), .val (.ref b8), .unset, .unset] [(.int (Int32.ofNat l1))])
        refine X11.step (fun hA hx hq t_ k_ => XS.iload hA hx rfl (hb hq at_245) rfl k_) ?_
        show OFin _ _ _ _ _ _ T11 (mkF m 247 #[.val (.int p0), .val (.int p1), .val (.int p2), .val (.int p3), .val (.int (Int32.ofNat l1)), .val (.int ca1), .val (.int cb1), .val (.int z7), .val (.int (Int32.ofNat l2)), .val (.int ca2), .val (.int cb2), .val (.int i1), .val (.int z12), .val (.int i2), .val (.ref b1), .val (.ref s2), .val (.ref b8), .val (.int (0 : Int32)), .val (.ref b8), .unset, .unset] [(.int (Int32.ofNat l2)), (.int (Int32.ofNat l1))])
        have j283 : ∀ z19 : Int32, own_tv z19 (own_st l1 l2 ca1 ca2 cb1 cb2) → OFin n0 p e (fun o t L => CHr Z own_EL s.vm s.heap t.vm t.heap ∧ ReturnedEndW s o t L room_1.cells room_1.slots) below (fun v h => v = some (.int 1)) T11 (mkF m 283 #[.val (.int p0), .val (.int p1), .val (.int p2), .val (.int p3), .val (.int (Int32.ofNat l1)), .val (.int ca1), .val (.int cb1), .val (.int z7), .val (.int (Int32.ofNat l2)), .val (.int ca2), .val (.int cb2), .val (.int i1), .val (.int z12), .val (.int i2), .val (.ref b1), .val (.ref s2), .val (.ref b8), .val (.int (0 : Int32)), .val (.ref b8), .val (.int z19), .unset] []) := by
          intro z19 hz
          refine X11.step (fun hA hx hq t_ k_ => XS.iload hA hx rfl (hb hq at_283) rfl k_) ?_
          show OFin _ _ _ _ _ _ T11 (mkF m 285 #[.val (.int p0), .val (.int p1), .val (.int p2), .val (.int p3), .val (.int (Int32.ofNat l1)), .val (.int ca1), .val (.int cb1), .val (.int z7), .val (.int (Int32.ofNat l2)), .val (.int ca2), .val (.int cb2), .val (.int i1), .val (.int z12), .val (.int i2), .val (.ref b1), .val (.ref s2), .val (.ref b8), .val (.int (0 : Int32)), .val (.ref b8), .val (.int z19), .unset] [(.int (0 : Int32))])
          refine X11.step (fun hA hx hq t_ k_ => XS.ifNo hA hx rfl (hb hq at_285) rfl ((if0 _ _).trans (teq ((rfl : (0 : Int32) = (0 : Int32)))).2) k_) ?_
          show OFin _ _ _ _ _ _ T11 (mkF m 288 #[.val (.int p0), .val (.int p1), .val (.int p2), .val (.int p3), .val (.int (Int32.ofNat l1)), .val (.int ca1), .val (.int cb1), .val (.int z7), .val (.int (Int32.ofNat l2)), .val (.int ca2), .val (.int cb2), .val (.int i1), .val (.int z12), .val (.int i2), .val (.ref b1), .val (.ref s2), .val (.ref b8), .val (.int (0 : Int32)), .val (.ref b8), .val (.int z19), .unset] [])
          refine X11.step (fun hA hx hq t_ k_ => XS.iload hA hx rfl (hb hq at_288) rfl k_) ?_
          show OFin _ _ _ _ _ _ T11 (mkF m 290 #[.val (.int p0), .val (.int p1), .val (.int p2), .val (.int p3), .val (.int (Int32.ofNat l1)), .val (.int ca1), .val (.int cb1), .val (.int z7), .val (.int (Int32.ofNat l2)), .val (.int ca2), .val (.int cb2), .val (.int i1), .val (.int z12), .val (.int i2), .val (.ref b1), .val (.ref s2), .val (.ref b8), .val (.int (0 : Int32)), .val (.ref b8), .val (.int z19), .unset] [(.int z19)])
          have j325 : ∀ z20 : Int32, own_tv z20 ((own_st l1 l2 ca1 ca2 cb1 cb2) ∧ i1 = i2) → OFin n0 p e (fun o t L => CHr Z own_EL s.vm s.heap t.vm t.heap ∧ ReturnedEndW s o t L room_1.cells room_1.slots) below (fun v h => v = some (.int 1)) T11 (mkF m 325 #[.val (.int p0), .val (.int p1), .val (.int p2), .val (.int p3), .val (.int (Int32.ofNat l1)), .val (.int ca1), .val (.int cb1), .val (.int z7), .val (.int (Int32.ofNat l2)), .val (.int ca2), .val (.int cb2), .val (.int i1), .val (.int z12), .val (.int i2), .val (.ref b1), .val (.ref s2), .val (.ref b8), .val (.int (0 : Int32)), .val (.ref b8), .val (.int z19), .val (.int z20)] []) := by
            intro z20 hz2
            refine X11.step (fun hA hx hq t_ k_ => XS.aload hA hx rfl (hb hq at_325) rfl rfl k_) ?_
            show OFin _ _ _ _ _ _ T11 (mkF m 327 #[.val (.int p0), .val (.int p1), .val (.int p2), .val (.int p3), .val (.int (Int32.ofNat l1)), .val (.int ca1), .val (.int cb1), .val (.int z7), .val (.int (Int32.ofNat l2)), .val (.int ca2), .val (.int cb2), .val (.int i1), .val (.int z12), .val (.int i2), .val (.ref b1), .val (.ref s2), .val (.ref b8), .val (.int (0 : Int32)), .val (.ref b8), .val (.int z19), .val (.int z20)] [(.ref b1)])
            refine X11.step (fun hA hx hq t_ k_ => XS.aload hA hx rfl (hb hq at_327) rfl rfl k_) ?_
            show OFin _ _ _ _ _ _ T11 (mkF m 329 #[.val (.int p0), .val (.int p1), .val (.int p2), .val (.int p3), .val (.int (Int32.ofNat l1)), .val (.int ca1), .val (.int cb1), .val (.int z7), .val (.int (Int32.ofNat l2)), .val (.int ca2), .val (.int cb2), .val (.int i1), .val (.int z12), .val (.int i2), .val (.ref b1), .val (.ref s2), .val (.ref b8), .val (.int (0 : Int32)), .val (.ref b8), .val (.int z19), .val (.int z20)] [(.ref b8), (.ref b1)])
            refine X11.callV (y' := (⟨"com/example/replay_proof/replayproof/model/Name", "equals", "(Ljava/lang/Object;)Z"⟩ : MethodName)) (z' := (⟨"com/example/replay_proof/replayproof/model/Name", "equals", "(Ljava/lang/Object;)Z"⟩ : MethodName)) (hw _ (List.mem_of_getElem? (i := 58) rfl)) (hw _ (List.mem_of_getElem? (i := 59) rfl)) (X11.notFace (hw _ (List.mem_of_getElem? (i := 61) rfl)) rfl) (hw _ (List.mem_of_getElem? (i := 61) rfl)) (hw _ (List.mem_of_getElem? (i := 60) rfl)) (hw _ (List.mem_of_getElem? (i := 3) rfl)) (hw _ (List.mem_of_getElem? (i := 62) rfl)) (by decide) Ea (argsL := [(.ref b8)]) (rest := []) (rm6 l Z a0 hw b1 b8 s1 s2 t1 t2 (own_kind i1 kR kC kT kN kK kA) (own_kind i2 kR kC kT kN kK kA) l1 l2 (own_g ca1 cb1) (own_g ca2 cb2) cs h11 n0 Ta Ka Tb Kb Eb U1 U2 (by omega) (by omega) ne12 (SS.ext O11.2) hcs) (g := (mkF m 329 #[.val (.int p0), .val (.int p1), .val (.int p2), .val (.int p3), .val (.int (Int32.ofNat l1)), .val (.int ca1), .val (.int cb1), .val (.int z7), .val (.int (Int32.ofNat l2)), .val (.int ca2), .val (.int cb2), .val (.int i1), .val (.int z12), .val (.int i2), .val (.ref b1), .val (.ref s2), .val (.ref b8), .val (.int (0 : Int32)), .val (.ref b8), .val (.int z19), .val (.int z20)] [(.ref b8), (.ref b1)])) rfl rfl pd_pLjava_lang_Object_r_Z rfl rfl (W := 0) (by show 2 * 0 + _ ≤ _; exact Nat.le_of_eq rfl) at_329 (by decide) (by decide) (by decide) (by decide) ?_
            intro v13 T13 h13 X13 q13
            obtain ⟨rfl, g, rfl, hg⟩ := q13
            show OFin _ _ _ _ _ _ T13 (mkF m 332 #[.val (.int p0), .val (.int p1), .val (.int p2), .val (.int p3), .val (.int (Int32.ofNat l1)), .val (.int ca1), .val (.int cb1), .val (.int z7), .val (.int (Int32.ofNat l2)), .val (.int ca2), .val (.int cb2), .val (.int i1), .val (.int z12), .val (.int i2), .val (.ref b1), .val (.ref s2), .val (.ref b8), .val (.int (0 : Int32)), .val (.ref b8), .val (.int z19), .val (.int z20)] [(.int g)])
            have gz : g = z20 := (hg.imp (and_congr hst hk)).uniq hz2
            refine X13.step (fun hA hx hq t_ k_ => XS.iload hA hx rfl (hb hq at_332) rfl k_) ?_
            show OFin _ _ _ _ _ _ T13 (mkF m 334 #[.val (.int p0), .val (.int p1), .val (.int p2), .val (.int p3), .val (.int (Int32.ofNat l1)), .val (.int ca1), .val (.int cb1), .val (.int z7), .val (.int (Int32.ofNat l2)), .val (.int ca2), .val (.int cb2), .val (.int i1), .val (.int z12), .val (.int i2), .val (.ref b1), .val (.ref s2), .val (.ref b8), .val (.int (0 : Int32)), .val (.ref b8), .val (.int z19), .val (.int z20)] [(.int z20), (.int g)])
            refine X13.step (fun hA hx hq t_ k_ => XS.icmpNo hA hx rfl (hb hq at_334) rfl (teq (gz)).2 k_) ?_
            show OFin _ _ _ _ _ _ T13 (mkF m 337 #[.val (.int p0), .val (.int p1), .val (.int p2), .val (.int p3), .val (.int (Int32.ofNat l1)), .val (.int ca1), .val (.int cb1), .val (.int z7), .val (.int (Int32.ofNat l2)), .val (.int ca2), .val (.int cb2), .val (.int i1), .val (.int z12), .val (.int i2), .val (.ref b1), .val (.ref s2), .val (.ref b8), .val (.int (0 : Int32)), .val (.ref b8), .val (.int z19), .val (.int z20)] [])
            refine X13.step (fun hA hx hq t_ k_ => XS.iconst hA hx rfl (hb hq at_337) k_) ?_
            show OFin _ _ _ _ _ _ T13 (mkF m 338 #[.val (.int p0), .val (.int p1), .val (.int p2), .val (.int p3), .val (.int (Int32.ofNat l1)), .val (.int ca1), .val (.int cb1), .val (.int z7), .val (.int (Int32.ofNat l2)), .val (.int ca2), .val (.int cb2), .val (.int i1), .val (.int z12), .val (.int i2), .val (.ref b1), .val (.ref s2), .val (.ref b8), .val (.int (0 : Int32)), .val (.ref b8), .val (.int z19), .val (.int z20)] [(.int (1 : Int32))])
            refine X13.step (fun hA hx hq t_ k_ => XS.goto hA hx rfl (pc0 := 338) (pc' := 342) rfl (hb hq at_338) (by decide) (by decide) k_) ?_
            show OFin _ _ _ _ _ _ T13 (mkF m 342 #[.val (.int p0), .val (.int p1), .val (.int p2), .val (.int p3), .val (.int (Int32.ofNat l1)), .val (.int ca1), .val (.int cb1), .val (.int z7), .val (.int (Int32.ofNat l2)), .val (.int ca2), .val (.int cb2), .val (.int i1), .val (.int z12), .val (.int i2), .val (.ref b1), .val (.ref s2), .val (.ref b8), .val (.int (0 : Int32)), .val (.ref b8), .val (.int z19), .val (.int z20)] [(.int (1 : Int32))])
            exact X13.retN (by simp) at_342 (oW X13 B12 (by decide) (by decide)) (rfl)
          rcases hz with ⟨rfl, hz⟩ | ⟨rfl, hz⟩
          · show OFin _ _ _ _ _ _ T11 (mkF m 290 #[.val (.int p0), .val (.int p1), .val (.int p2), .val (.int p3), .val (.int (Int32.ofNat l1)), .val (.int ca1), .val (.int cb1), .val (.int z7), .val (.int (Int32.ofNat l2)), .val (.int ca2), .val (.int cb2), .val (.int i1), .val (.int z12), .val (.int i2), .val (.ref b1), .val (.ref s2), .val (.ref b8), .val (.int (0 : Int32)), .val (.ref b8), .val (.int (1 : Int32)), .unset] [(.int (1 : Int32))])
            refine X11.step (fun hA hx hq t_ k_ => XS.ifNo hA hx rfl (hb hq at_290) rfl ((if0 _ _).trans (feq ((by decide))).1) k_) ?_
            show OFin _ _ _ _ _ _ T11 (mkF m 293 #[.val (.int p0), .val (.int p1), .val (.int p2), .val (.int p3), .val (.int (Int32.ofNat l1)), .val (.int ca1), .val (.int cb1), .val (.int z7), .val (.int (Int32.ofNat l2)), .val (.int ca2), .val (.int cb2), .val (.int i1), .val (.int z12), .val (.int i2), .val (.ref b1), .val (.ref s2), .val (.ref b8), .val (.int (0 : Int32)), .val (.ref b8), .val (.int (1 : Int32)), .unset] [])
            refine X11.step (fun hA hx hq t_ k_ => XS.iload hA hx rfl (hb hq at_293) rfl k_) ?_
            show OFin _ _ _ _ _ _ T11 (mkF m 295 #[.val (.int p0), .val (.int p1), .val (.int p2), .val (.int p3), .val (.int (Int32.ofNat l1)), .val (.int ca1), .val (.int cb1), .val (.int z7), .val (.int (Int32.ofNat l2)), .val (.int ca2), .val (.int cb2), .val (.int i1), .val (.int z12), .val (.int i2), .val (.ref b1), .val (.ref s2), .val (.ref b8), .val (.int (0 : Int32)), .val (.ref b8), .val (.int (1 : Int32)), .unset] [(.int i1)])
            refine X11.step (fun hA hx hq t_ k_ => XS.iload hA hx rfl (hb hq at_295) rfl k_) ?_
            show OFin _ _ _ _ _ _ T11 (mkF m 297 #[.val (.int p0), .val (.int p1), .val (.int p2), .val (.int p3), .val (.int (Int32.ofNat l1)), .val (.int ca1), .val (.int cb1), .val (.int z7), .val (.int (Int32.ofNat l2)), .val (.int ca2), .val (.int cb2), .val (.int i1), .val (.int z12), .val (.int i2), .val (.ref b1), .val (.ref s2), .val (.ref b8), .val (.int (0 : Int32)), .val (.ref b8), .val (.int (1 : Int32)), .unset] [(.int i2), (.int i1)])
            by_cases d1 : i1 = i2
            · refine X11.step (fun hA hx hq t_ k_ => XS.icmpNo hA hx rfl (hb hq at_297) rfl (teq (d1)).2 k_) ?_
              show OFin _ _ _ _ _ _ T11 (mkF m 300 #[.val (.int p0), .val (.int p1), .val (.int p2), .val (.int p3), .val (.int (Int32.ofNat l1)), .val (.int ca1), .val (.int cb1), .val (.int z7), .val (.int (Int32.ofNat l2)), .val (.int ca2), .val (.int cb2), .val (.int i1), .val (.int z12), .val (.int i2), .val (.ref b1), .val (.ref s2), .val (.ref b8), .val (.int (0 : Int32)), .val (.ref b8), .val (.int (1 : Int32)), .unset] [])
              refine X11.step (fun hA hx hq t_ k_ => XS.iconst hA hx rfl (hb hq at_300) k_) ?_
              show OFin _ _ _ _ _ _ T11 (mkF m 301 #[.val (.int p0), .val (.int p1), .val (.int p2), .val (.int p3), .val (.int (Int32.ofNat l1)), .val (.int ca1), .val (.int cb1), .val (.int z7), .val (.int (Int32.ofNat l2)), .val (.int ca2), .val (.int cb2), .val (.int i1), .val (.int z12), .val (.int i2), .val (.ref b1), .val (.ref s2), .val (.ref b8), .val (.int (0 : Int32)), .val (.ref b8), .val (.int (1 : Int32)), .unset] [(.int (1 : Int32))])
              refine X11.step (fun hA hx hq t_ k_ => XS.goto hA hx rfl (pc0 := 301) (pc' := 305) rfl (hb hq at_301) (by decide) (by decide) k_) ?_
              show OFin _ _ _ _ _ _ T11 (mkF m 305 #[.val (.int p0), .val (.int p1), .val (.int p2), .val (.int p3), .val (.int (Int32.ofNat l1)), .val (.int ca1), .val (.int cb1), .val (.int z7), .val (.int (Int32.ofNat l2)), .val (.int ca2), .val (.int cb2), .val (.int i1), .val (.int z12), .val (.int i2), .val (.ref b1), .val (.ref s2), .val (.ref b8), .val (.int (0 : Int32)), .val (.ref b8), .val (.int (1 : Int32)), .unset] [(.int (1 : Int32))])
              refine X11.step (fun hA hx hq t_ k_ => XS.istore hA hx rfl (hb hq at_305) rfl (l' := #[.val (.int p0), .val (.int p1), .val (.int p2), .val (.int p3), .val (.int (Int32.ofNat l1)), .val (.int ca1), .val (.int cb1), .val (.int z7), .val (.int (Int32.ofNat l2)), .val (.int ca2), .val (.int cb2), .val (.int i1), .val (.int z12), .val (.int i2), .val (.ref b1), .val (.ref s2), .val (.ref b8), .val (.int (0 : Int32)), .val (.ref b8), .val (.int (1 : Int32)), .val (.int (1 : Int32))]) rfl k_) ?_
              show OFin _ _ _ _ _ _ T11 (mkF m 307 #[.val (.int p0), .val (.int p1), .val (.int p2), .val (.int p3), .val (.int (Int32.ofNat l1)), .val (.int ca1), .val (.int cb1), .val (.int z7), .val (.int (Int32.ofNat l2)), .val (.int ca2), .val (.int cb2), .val (.int i1), .val (.int z12), .val (.int i2), .val (.ref b1), .val (.ref s2), .val (.ref b8), .val (.int (0 : Int32)), .val (.ref b8), .val (.int (1 : Int32)), .val (.int (1 : Int32))] [])
              refine X11.step (fun hA hx hq t_ k_ => XS.goto hA hx rfl (pc0 := 307) (pc' := 325) rfl (hb hq at_307) (by decide) (by decide) k_) ?_
              show OFin _ _ _ _ _ _ T11 (mkF m 325 #[.val (.int p0), .val (.int p1), .val (.int p2), .val (.int p3), .val (.int (Int32.ofNat l1)), .val (.int ca1), .val (.int cb1), .val (.int z7), .val (.int (Int32.ofNat l2)), .val (.int ca2), .val (.int cb2), .val (.int i1), .val (.int z12), .val (.int i2), .val (.ref b1), .val (.ref s2), .val (.ref b8), .val (.int (0 : Int32)), .val (.ref b8), .val (.int (1 : Int32)), .val (.int (1 : Int32))] [])
              exact j325 1 (Or.inl ⟨rfl, hz, d1⟩)
            · refine X11.step (fun hA hx hq t_ k_ => XS.icmpYes hA hx rfl (pc0 := 297) (pc' := 304) rfl (hb hq at_297) rfl (feq (d1)).2 (by decide) (by decide) k_) ?_
              show OFin _ _ _ _ _ _ T11 (mkF m 304 #[.val (.int p0), .val (.int p1), .val (.int p2), .val (.int p3), .val (.int (Int32.ofNat l1)), .val (.int ca1), .val (.int cb1), .val (.int z7), .val (.int (Int32.ofNat l2)), .val (.int ca2), .val (.int cb2), .val (.int i1), .val (.int z12), .val (.int i2), .val (.ref b1), .val (.ref s2), .val (.ref b8), .val (.int (0 : Int32)), .val (.ref b8), .val (.int (1 : Int32)), .unset] [])
              refine X11.step (fun hA hx hq t_ k_ => XS.iconst hA hx rfl (hb hq at_304) k_) ?_
              show OFin _ _ _ _ _ _ T11 (mkF m 305 #[.val (.int p0), .val (.int p1), .val (.int p2), .val (.int p3), .val (.int (Int32.ofNat l1)), .val (.int ca1), .val (.int cb1), .val (.int z7), .val (.int (Int32.ofNat l2)), .val (.int ca2), .val (.int cb2), .val (.int i1), .val (.int z12), .val (.int i2), .val (.ref b1), .val (.ref s2), .val (.ref b8), .val (.int (0 : Int32)), .val (.ref b8), .val (.int (1 : Int32)), .unset] [(.int (0 : Int32))])
              refine X11.step (fun hA hx hq t_ k_ => XS.istore hA hx rfl (hb hq at_305) rfl (l' := #[.val (.int p0), .val (.int p1), .val (.int p2), .val (.int p3), .val (.int (Int32.ofNat l1)), .val (.int ca1), .val (.int cb1), .val (.int z7), .val (.int (Int32.ofNat l2)), .val (.int ca2), .val (.int cb2), .val (.int i1), .val (.int z12), .val (.int i2), .val (.ref b1), .val (.ref s2), .val (.ref b8), .val (.int (0 : Int32)), .val (.ref b8), .val (.int (1 : Int32)), .val (.int (0 : Int32))]) rfl k_) ?_
              show OFin _ _ _ _ _ _ T11 (mkF m 307 #[.val (.int p0), .val (.int p1), .val (.int p2), .val (.int p3), .val (.int (Int32.ofNat l1)), .val (.int ca1), .val (.int cb1), .val (.int z7), .val (.int (Int32.ofNat l2)), .val (.int ca2), .val (.int cb2), .val (.int i1), .val (.int z12), .val (.int i2), .val (.ref b1), .val (.ref s2), .val (.ref b8), .val (.int (0 : Int32)), .val (.ref b8), .val (.int (1 : Int32)), .val (.int (0 : Int32))] [])
              refine X11.step (fun hA hx hq t_ k_ => XS.goto hA hx rfl (pc0 := 307) (pc' := 325) rfl (hb hq at_307) (by decide) (by decide) k_) ?_
              show OFin _ _ _ _ _ _ T11 (mkF m 325 #[.val (.int p0), .val (.int p1), .val (.int p2), .val (.int p3), .val (.int (Int32.ofNat l1)), .val (.int ca1), .val (.int cb1), .val (.int z7), .val (.int (Int32.ofNat l2)), .val (.int ca2), .val (.int cb2), .val (.int i1), .val (.int z12), .val (.int i2), .val (.ref b1), .val (.ref s2), .val (.ref b8), .val (.int (0 : Int32)), .val (.ref b8), .val (.int (1 : Int32)), .val (.int (0 : Int32))] [])
              exact j325 0 (Or.inr ⟨rfl, fun q => d1 q.2⟩)
          · show OFin _ _ _ _ _ _ T11 (mkF m 290 #[.val (.int p0), .val (.int p1), .val (.int p2), .val (.int p3), .val (.int (Int32.ofNat l1)), .val (.int ca1), .val (.int cb1), .val (.int z7), .val (.int (Int32.ofNat l2)), .val (.int ca2), .val (.int cb2), .val (.int i1), .val (.int z12), .val (.int i2), .val (.ref b1), .val (.ref s2), .val (.ref b8), .val (.int (0 : Int32)), .val (.ref b8), .val (.int (0 : Int32)), .unset] [(.int (0 : Int32))])
            refine X11.step (fun hA hx hq t_ k_ => XS.ifYes hA hx rfl (pc0 := 290) (pc' := 304) rfl (hb hq at_290) rfl ((if0 _ _).trans (teq ((rfl : (0 : Int32) = (0 : Int32)))).1) (by decide) (by decide) k_) ?_
            show OFin _ _ _ _ _ _ T11 (mkF m 304 #[.val (.int p0), .val (.int p1), .val (.int p2), .val (.int p3), .val (.int (Int32.ofNat l1)), .val (.int ca1), .val (.int cb1), .val (.int z7), .val (.int (Int32.ofNat l2)), .val (.int ca2), .val (.int cb2), .val (.int i1), .val (.int z12), .val (.int i2), .val (.ref b1), .val (.ref s2), .val (.ref b8), .val (.int (0 : Int32)), .val (.ref b8), .val (.int (0 : Int32)), .unset] [])
            refine X11.step (fun hA hx hq t_ k_ => XS.iconst hA hx rfl (hb hq at_304) k_) ?_
            show OFin _ _ _ _ _ _ T11 (mkF m 305 #[.val (.int p0), .val (.int p1), .val (.int p2), .val (.int p3), .val (.int (Int32.ofNat l1)), .val (.int ca1), .val (.int cb1), .val (.int z7), .val (.int (Int32.ofNat l2)), .val (.int ca2), .val (.int cb2), .val (.int i1), .val (.int z12), .val (.int i2), .val (.ref b1), .val (.ref s2), .val (.ref b8), .val (.int (0 : Int32)), .val (.ref b8), .val (.int (0 : Int32)), .unset] [(.int (0 : Int32))])
            refine X11.step (fun hA hx hq t_ k_ => XS.istore hA hx rfl (hb hq at_305) rfl (l' := #[.val (.int p0), .val (.int p1), .val (.int p2), .val (.int p3), .val (.int (Int32.ofNat l1)), .val (.int ca1), .val (.int cb1), .val (.int z7), .val (.int (Int32.ofNat l2)), .val (.int ca2), .val (.int cb2), .val (.int i1), .val (.int z12), .val (.int i2), .val (.ref b1), .val (.ref s2), .val (.ref b8), .val (.int (0 : Int32)), .val (.ref b8), .val (.int (0 : Int32)), .val (.int (0 : Int32))]) rfl k_) ?_
            show OFin _ _ _ _ _ _ T11 (mkF m 307 #[.val (.int p0), .val (.int p1), .val (.int p2), .val (.int p3), .val (.int (Int32.ofNat l1)), .val (.int ca1), .val (.int cb1), .val (.int z7), .val (.int (Int32.ofNat l2)), .val (.int ca2), .val (.int cb2), .val (.int i1), .val (.int z12), .val (.int i2), .val (.ref b1), .val (.ref s2), .val (.ref b8), .val (.int (0 : Int32)), .val (.ref b8), .val (.int (0 : Int32)), .val (.int (0 : Int32))] [])
            refine X11.step (fun hA hx hq t_ k_ => XS.goto hA hx rfl (pc0 := 307) (pc' := 325) rfl (hb hq at_307) (by decide) (by decide) k_) ?_
            show OFin _ _ _ _ _ _ T11 (mkF m 325 #[.val (.int p0), .val (.int p1), .val (.int p2), .val (.int p3), .val (.int (Int32.ofNat l1)), .val (.int ca1), .val (.int cb1), .val (.int z7), .val (.int (Int32.ofNat l2)), .val (.int ca2), .val (.int cb2), .val (.int i1), .val (.int z12), .val (.int i2), .val (.ref b1), .val (.ref s2), .val (.ref b8), .val (.int (0 : Int32)), .val (.ref b8), .val (.int (0 : Int32)), .val (.int (0 : Int32))] [])
            exact j325 0 (Or.inr ⟨rfl, fun q => hz q.1⟩)
        by_cases c1 : (Int32.ofNat l1) = (Int32.ofNat l2)
        · refine X11.step (fun hA hx hq t_ k_ => XS.icmpNo hA hx rfl (hb hq at_247) rfl (teq (c1)).2 k_) ?_
          show OFin _ _ _ _ _ _ T11 (mkF m 250 #[.val (.int p0), .val (.int p1), .val (.int p2), .val (.int p3), .val (.int (Int32.ofNat l1)), .val (.int ca1), .val (.int cb1), .val (.int z7), .val (.int (Int32.ofNat l2)), .val (.int ca2), .val (.int cb2), .val (.int i1), .val (.int z12), .val (.int i2), .val (.ref b1), .val (.ref s2), .val (.ref b8), .val (.int (0 : Int32)), .val (.ref b8), .unset, .unset] [])
          have e12 := (own_eq32 l1 l2 (by omega) (by omega)).mp c1
          refine X11.step (fun hA hx hq t_ k_ => XS.iload hA hx rfl (hb hq at_250) rfl k_) ?_
          show OFin _ _ _ _ _ _ T11 (mkF m 252 #[.val (.int p0), .val (.int p1), .val (.int p2), .val (.int p3), .val (.int (Int32.ofNat l1)), .val (.int ca1), .val (.int cb1), .val (.int z7), .val (.int (Int32.ofNat l2)), .val (.int ca2), .val (.int cb2), .val (.int i1), .val (.int z12), .val (.int i2), .val (.ref b1), .val (.ref s2), .val (.ref b8), .val (.int (0 : Int32)), .val (.ref b8), .unset, .unset] [(.int (Int32.ofNat l1))])
          refine X11.step (fun hA hx hq t_ k_ => XS.iconst hA hx rfl (hb hq at_252) k_) ?_
          show OFin _ _ _ _ _ _ T11 (mkF m 253 #[.val (.int p0), .val (.int p1), .val (.int p2), .val (.int p3), .val (.int (Int32.ofNat l1)), .val (.int ca1), .val (.int cb1), .val (.int z7), .val (.int (Int32.ofNat l2)), .val (.int ca2), .val (.int cb2), .val (.int i1), .val (.int z12), .val (.int i2), .val (.ref b1), .val (.ref s2), .val (.ref b8), .val (.int (0 : Int32)), .val (.ref b8), .unset, .unset] [(.int (1 : Int32)), (.int (Int32.ofNat l1))])
          by_cases c2 : (Int32.ofNat l1) < (1 : Int32)
          · refine X11.step (fun hA hx hq t_ k_ => XS.icmpYes hA hx rfl (pc0 := 253) (pc' := 263) rfl (hb hq at_253) rfl (tlt (c2)).1 (by decide) (by decide) k_) ?_
            show OFin _ _ _ _ _ _ T11 (mkF m 263 #[.val (.int p0), .val (.int p1), .val (.int p2), .val (.int p3), .val (.int (Int32.ofNat l1)), .val (.int ca1), .val (.int cb1), .val (.int z7), .val (.int (Int32.ofNat l2)), .val (.int ca2), .val (.int cb2), .val (.int i1), .val (.int z12), .val (.int i2), .val (.ref b1), .val (.ref s2), .val (.ref b8), .val (.int (0 : Int32)), .val (.ref b8), .unset, .unset] [])
            have e0 := (own_lt32 l1 1 (by omega) (by decide)).mp c2
            refine X11.step (fun hA hx hq t_ k_ => XS.iload hA hx rfl (hb hq at_263) rfl k_) ?_
            show OFin _ _ _ _ _ _ T11 (mkF m 265 #[.val (.int p0), .val (.int p1), .val (.int p2), .val (.int p3), .val (.int (Int32.ofNat l1)), .val (.int ca1), .val (.int cb1), .val (.int z7), .val (.int (Int32.ofNat l2)), .val (.int ca2), .val (.int cb2), .val (.int i1), .val (.int z12), .val (.int i2), .val (.ref b1), .val (.ref s2), .val (.ref b8), .val (.int (0 : Int32)), .val (.ref b8), .unset, .unset] [(.int (Int32.ofNat l1))])
            refine X11.step (fun hA hx hq t_ k_ => XS.iconst hA hx rfl (hb hq at_265) k_) ?_
            show OFin _ _ _ _ _ _ T11 (mkF m 266 #[.val (.int p0), .val (.int p1), .val (.int p2), .val (.int p3), .val (.int (Int32.ofNat l1)), .val (.int ca1), .val (.int cb1), .val (.int z7), .val (.int (Int32.ofNat l2)), .val (.int ca2), .val (.int cb2), .val (.int i1), .val (.int z12), .val (.int i2), .val (.ref b1), .val (.ref s2), .val (.ref b8), .val (.int (0 : Int32)), .val (.ref b8), .unset, .unset] [(.int (2 : Int32)), (.int (Int32.ofNat l1))])
            refine X11.step (fun hA hx hq t_ k_ => XS.icmpYes hA hx rfl (pc0 := 266) (pc' := 276) rfl (hb hq at_266) rfl (tlt ((own_lt32 l1 2 (by omega) (by decide)).mpr (by omega))).1 (by decide) (by decide) k_) ?_
            show OFin _ _ _ _ _ _ T11 (mkF m 276 #[.val (.int p0), .val (.int p1), .val (.int p2), .val (.int p3), .val (.int (Int32.ofNat l1)), .val (.int ca1), .val (.int cb1), .val (.int z7), .val (.int (Int32.ofNat l2)), .val (.int ca2), .val (.int cb2), .val (.int i1), .val (.int z12), .val (.int i2), .val (.ref b1), .val (.ref s2), .val (.ref b8), .val (.int (0 : Int32)), .val (.ref b8), .unset, .unset] [])
            refine X11.step (fun hA hx hq t_ k_ => XS.iconst hA hx rfl (hb hq at_276) k_) ?_
            show OFin _ _ _ _ _ _ T11 (mkF m 277 #[.val (.int p0), .val (.int p1), .val (.int p2), .val (.int p3), .val (.int (Int32.ofNat l1)), .val (.int ca1), .val (.int cb1), .val (.int z7), .val (.int (Int32.ofNat l2)), .val (.int ca2), .val (.int cb2), .val (.int i1), .val (.int z12), .val (.int i2), .val (.ref b1), .val (.ref s2), .val (.ref b8), .val (.int (0 : Int32)), .val (.ref b8), .unset, .unset] [(.int (1 : Int32))])
            refine X11.step (fun hA hx hq t_ k_ => XS.goto hA hx rfl (pc0 := 277) (pc' := 281) rfl (hb hq at_277) (by decide) (by decide) k_) ?_
            show OFin _ _ _ _ _ _ T11 (mkF m 281 #[.val (.int p0), .val (.int p1), .val (.int p2), .val (.int p3), .val (.int (Int32.ofNat l1)), .val (.int ca1), .val (.int cb1), .val (.int z7), .val (.int (Int32.ofNat l2)), .val (.int ca2), .val (.int cb2), .val (.int i1), .val (.int z12), .val (.int i2), .val (.ref b1), .val (.ref s2), .val (.ref b8), .val (.int (0 : Int32)), .val (.ref b8), .unset, .unset] [(.int (1 : Int32))])
            refine X11.step (fun hA hx hq t_ k_ => XS.istore hA hx rfl (hb hq at_281) rfl (l' := #[.val (.int p0), .val (.int p1), .val (.int p2), .val (.int p3), .val (.int (Int32.ofNat l1)), .val (.int ca1), .val (.int cb1), .val (.int z7), .val (.int (Int32.ofNat l2)), .val (.int ca2), .val (.int cb2), .val (.int i1), .val (.int z12), .val (.int i2), .val (.ref b1), .val (.ref s2), .val (.ref b8), .val (.int (0 : Int32)), .val (.ref b8), .val (.int (1 : Int32)), .unset]) rfl k_) ?_
            show OFin _ _ _ _ _ _ T11 (mkF m 283 #[.val (.int p0), .val (.int p1), .val (.int p2), .val (.int p3), .val (.int (Int32.ofNat l1)), .val (.int ca1), .val (.int cb1), .val (.int z7), .val (.int (Int32.ofNat l2)), .val (.int ca2), .val (.int cb2), .val (.int i1), .val (.int z12), .val (.int i2), .val (.ref b1), .val (.ref s2), .val (.ref b8), .val (.int (0 : Int32)), .val (.ref b8), .val (.int (1 : Int32)), .unset] [])
            exact j283 1 (Or.inl ⟨rfl, e12, fun _ => by omega, fun _ => by omega⟩)
          · refine X11.step (fun hA hx hq t_ k_ => XS.icmpNo hA hx rfl (hb hq at_253) rfl (flt (c2)).1 k_) ?_
            show OFin _ _ _ _ _ _ T11 (mkF m 256 #[.val (.int p0), .val (.int p1), .val (.int p2), .val (.int p3), .val (.int (Int32.ofNat l1)), .val (.int ca1), .val (.int cb1), .val (.int z7), .val (.int (Int32.ofNat l2)), .val (.int ca2), .val (.int cb2), .val (.int i1), .val (.int z12), .val (.int i2), .val (.ref b1), .val (.ref s2), .val (.ref b8), .val (.int (0 : Int32)), .val (.ref b8), .unset, .unset] [])
            have e0 : ¬ l1 < 1 := fun q => c2 ((own_lt32 l1 1 (by omega) (by decide)).mpr q)
            refine X11.step (fun hA hx hq t_ k_ => XS.iload hA hx rfl (hb hq at_256) rfl k_) ?_
            show OFin _ _ _ _ _ _ T11 (mkF m 258 #[.val (.int p0), .val (.int p1), .val (.int p2), .val (.int p3), .val (.int (Int32.ofNat l1)), .val (.int ca1), .val (.int cb1), .val (.int z7), .val (.int (Int32.ofNat l2)), .val (.int ca2), .val (.int cb2), .val (.int i1), .val (.int z12), .val (.int i2), .val (.ref b1), .val (.ref s2), .val (.ref b8), .val (.int (0 : Int32)), .val (.ref b8), .unset, .unset] [(.int ca1)])
            refine X11.step (fun hA hx hq t_ k_ => XS.iload hA hx rfl (hb hq at_258) rfl k_) ?_
            show OFin _ _ _ _ _ _ T11 (mkF m 260 #[.val (.int p0), .val (.int p1), .val (.int p2), .val (.int p3), .val (.int (Int32.ofNat l1)), .val (.int ca1), .val (.int cb1), .val (.int z7), .val (.int (Int32.ofNat l2)), .val (.int ca2), .val (.int cb2), .val (.int i1), .val (.int z12), .val (.int i2), .val (.ref b1), .val (.ref s2), .val (.ref b8), .val (.int (0 : Int32)), .val (.ref b8), .unset, .unset] [(.int ca2), (.int ca1)])
            by_cases c3 : ca1 = ca2
            · refine X11.step (fun hA hx hq t_ k_ => XS.icmpNo hA hx rfl (hb hq at_260) rfl (teq (c3)).2 k_) ?_
              show OFin _ _ _ _ _ _ T11 (mkF m 263 #[.val (.int p0), .val (.int p1), .val (.int p2), .val (.int p3), .val (.int (Int32.ofNat l1)), .val (.int ca1), .val (.int cb1), .val (.int z7), .val (.int (Int32.ofNat l2)), .val (.int ca2), .val (.int cb2), .val (.int i1), .val (.int z12), .val (.int i2), .val (.ref b1), .val (.ref s2), .val (.ref b8), .val (.int (0 : Int32)), .val (.ref b8), .unset, .unset] [])
              refine X11.step (fun hA hx hq t_ k_ => XS.iload hA hx rfl (hb hq at_263) rfl k_) ?_
              show OFin _ _ _ _ _ _ T11 (mkF m 265 #[.val (.int p0), .val (.int p1), .val (.int p2), .val (.int p3), .val (.int (Int32.ofNat l1)), .val (.int ca1), .val (.int cb1), .val (.int z7), .val (.int (Int32.ofNat l2)), .val (.int ca2), .val (.int cb2), .val (.int i1), .val (.int z12), .val (.int i2), .val (.ref b1), .val (.ref s2), .val (.ref b8), .val (.int (0 : Int32)), .val (.ref b8), .unset, .unset] [(.int (Int32.ofNat l1))])
              refine X11.step (fun hA hx hq t_ k_ => XS.iconst hA hx rfl (hb hq at_265) k_) ?_
              show OFin _ _ _ _ _ _ T11 (mkF m 266 #[.val (.int p0), .val (.int p1), .val (.int p2), .val (.int p3), .val (.int (Int32.ofNat l1)), .val (.int ca1), .val (.int cb1), .val (.int z7), .val (.int (Int32.ofNat l2)), .val (.int ca2), .val (.int cb2), .val (.int i1), .val (.int z12), .val (.int i2), .val (.ref b1), .val (.ref s2), .val (.ref b8), .val (.int (0 : Int32)), .val (.ref b8), .unset, .unset] [(.int (2 : Int32)), (.int (Int32.ofNat l1))])
              by_cases c4 : (Int32.ofNat l1) < (2 : Int32)
              · refine X11.step (fun hA hx hq t_ k_ => XS.icmpYes hA hx rfl (pc0 := 266) (pc' := 276) rfl (hb hq at_266) rfl (tlt (c4)).1 (by decide) (by decide) k_) ?_
                show OFin _ _ _ _ _ _ T11 (mkF m 276 #[.val (.int p0), .val (.int p1), .val (.int p2), .val (.int p3), .val (.int (Int32.ofNat l1)), .val (.int ca1), .val (.int cb1), .val (.int z7), .val (.int (Int32.ofNat l2)), .val (.int ca2), .val (.int cb2), .val (.int i1), .val (.int z12), .val (.int i2), .val (.ref b1), .val (.ref s2), .val (.ref b8), .val (.int (0 : Int32)), .val (.ref b8), .unset, .unset] [])
                have e1 := (own_lt32 l1 2 (by omega) (by decide)).mp c4
                refine X11.step (fun hA hx hq t_ k_ => XS.iconst hA hx rfl (hb hq at_276) k_) ?_
                show OFin _ _ _ _ _ _ T11 (mkF m 277 #[.val (.int p0), .val (.int p1), .val (.int p2), .val (.int p3), .val (.int (Int32.ofNat l1)), .val (.int ca1), .val (.int cb1), .val (.int z7), .val (.int (Int32.ofNat l2)), .val (.int ca2), .val (.int cb2), .val (.int i1), .val (.int z12), .val (.int i2), .val (.ref b1), .val (.ref s2), .val (.ref b8), .val (.int (0 : Int32)), .val (.ref b8), .unset, .unset] [(.int (1 : Int32))])
                refine X11.step (fun hA hx hq t_ k_ => XS.goto hA hx rfl (pc0 := 277) (pc' := 281) rfl (hb hq at_277) (by decide) (by decide) k_) ?_
                show OFin _ _ _ _ _ _ T11 (mkF m 281 #[.val (.int p0), .val (.int p1), .val (.int p2), .val (.int p3), .val (.int (Int32.ofNat l1)), .val (.int ca1), .val (.int cb1), .val (.int z7), .val (.int (Int32.ofNat l2)), .val (.int ca2), .val (.int cb2), .val (.int i1), .val (.int z12), .val (.int i2), .val (.ref b1), .val (.ref s2), .val (.ref b8), .val (.int (0 : Int32)), .val (.ref b8), .unset, .unset] [(.int (1 : Int32))])
                refine X11.step (fun hA hx hq t_ k_ => XS.istore hA hx rfl (hb hq at_281) rfl (l' := #[.val (.int p0), .val (.int p1), .val (.int p2), .val (.int p3), .val (.int (Int32.ofNat l1)), .val (.int ca1), .val (.int cb1), .val (.int z7), .val (.int (Int32.ofNat l2)), .val (.int ca2), .val (.int cb2), .val (.int i1), .val (.int z12), .val (.int i2), .val (.ref b1), .val (.ref s2), .val (.ref b8), .val (.int (0 : Int32)), .val (.ref b8), .val (.int (1 : Int32)), .unset]) rfl k_) ?_
                show OFin _ _ _ _ _ _ T11 (mkF m 283 #[.val (.int p0), .val (.int p1), .val (.int p2), .val (.int p3), .val (.int (Int32.ofNat l1)), .val (.int ca1), .val (.int cb1), .val (.int z7), .val (.int (Int32.ofNat l2)), .val (.int ca2), .val (.int cb2), .val (.int i1), .val (.int z12), .val (.int i2), .val (.ref b1), .val (.ref s2), .val (.ref b8), .val (.int (0 : Int32)), .val (.ref b8), .val (.int (1 : Int32)), .unset] [])
                exact j283 1 (Or.inl ⟨rfl, e12, fun _ => c3, fun _ => by omega⟩)
              · refine X11.step (fun hA hx hq t_ k_ => XS.icmpNo hA hx rfl (hb hq at_266) rfl (flt (c4)).1 k_) ?_
                show OFin _ _ _ _ _ _ T11 (mkF m 269 #[.val (.int p0), .val (.int p1), .val (.int p2), .val (.int p3), .val (.int (Int32.ofNat l1)), .val (.int ca1), .val (.int cb1), .val (.int z7), .val (.int (Int32.ofNat l2)), .val (.int ca2), .val (.int cb2), .val (.int i1), .val (.int z12), .val (.int i2), .val (.ref b1), .val (.ref s2), .val (.ref b8), .val (.int (0 : Int32)), .val (.ref b8), .unset, .unset] [])
                have e1 : ¬ l1 < 2 := fun q => c4 ((own_lt32 l1 2 (by omega) (by decide)).mpr q)
                refine X11.step (fun hA hx hq t_ k_ => XS.iload hA hx rfl (hb hq at_269) rfl k_) ?_
                show OFin _ _ _ _ _ _ T11 (mkF m 271 #[.val (.int p0), .val (.int p1), .val (.int p2), .val (.int p3), .val (.int (Int32.ofNat l1)), .val (.int ca1), .val (.int cb1), .val (.int z7), .val (.int (Int32.ofNat l2)), .val (.int ca2), .val (.int cb2), .val (.int i1), .val (.int z12), .val (.int i2), .val (.ref b1), .val (.ref s2), .val (.ref b8), .val (.int (0 : Int32)), .val (.ref b8), .unset, .unset] [(.int cb1)])
                refine X11.step (fun hA hx hq t_ k_ => XS.iload hA hx rfl (hb hq at_271) rfl k_) ?_
                show OFin _ _ _ _ _ _ T11 (mkF m 273 #[.val (.int p0), .val (.int p1), .val (.int p2), .val (.int p3), .val (.int (Int32.ofNat l1)), .val (.int ca1), .val (.int cb1), .val (.int z7), .val (.int (Int32.ofNat l2)), .val (.int ca2), .val (.int cb2), .val (.int i1), .val (.int z12), .val (.int i2), .val (.ref b1), .val (.ref s2), .val (.ref b8), .val (.int (0 : Int32)), .val (.ref b8), .unset, .unset] [(.int cb2), (.int cb1)])
                by_cases c5 : cb1 = cb2
                · refine X11.step (fun hA hx hq t_ k_ => XS.icmpNo hA hx rfl (hb hq at_273) rfl (teq (c5)).2 k_) ?_
                  show OFin _ _ _ _ _ _ T11 (mkF m 276 #[.val (.int p0), .val (.int p1), .val (.int p2), .val (.int p3), .val (.int (Int32.ofNat l1)), .val (.int ca1), .val (.int cb1), .val (.int z7), .val (.int (Int32.ofNat l2)), .val (.int ca2), .val (.int cb2), .val (.int i1), .val (.int z12), .val (.int i2), .val (.ref b1), .val (.ref s2), .val (.ref b8), .val (.int (0 : Int32)), .val (.ref b8), .unset, .unset] [])
                  refine X11.step (fun hA hx hq t_ k_ => XS.iconst hA hx rfl (hb hq at_276) k_) ?_
                  show OFin _ _ _ _ _ _ T11 (mkF m 277 #[.val (.int p0), .val (.int p1), .val (.int p2), .val (.int p3), .val (.int (Int32.ofNat l1)), .val (.int ca1), .val (.int cb1), .val (.int z7), .val (.int (Int32.ofNat l2)), .val (.int ca2), .val (.int cb2), .val (.int i1), .val (.int z12), .val (.int i2), .val (.ref b1), .val (.ref s2), .val (.ref b8), .val (.int (0 : Int32)), .val (.ref b8), .unset, .unset] [(.int (1 : Int32))])
                  refine X11.step (fun hA hx hq t_ k_ => XS.goto hA hx rfl (pc0 := 277) (pc' := 281) rfl (hb hq at_277) (by decide) (by decide) k_) ?_
                  show OFin _ _ _ _ _ _ T11 (mkF m 281 #[.val (.int p0), .val (.int p1), .val (.int p2), .val (.int p3), .val (.int (Int32.ofNat l1)), .val (.int ca1), .val (.int cb1), .val (.int z7), .val (.int (Int32.ofNat l2)), .val (.int ca2), .val (.int cb2), .val (.int i1), .val (.int z12), .val (.int i2), .val (.ref b1), .val (.ref s2), .val (.ref b8), .val (.int (0 : Int32)), .val (.ref b8), .unset, .unset] [(.int (1 : Int32))])
                  refine X11.step (fun hA hx hq t_ k_ => XS.istore hA hx rfl (hb hq at_281) rfl (l' := #[.val (.int p0), .val (.int p1), .val (.int p2), .val (.int p3), .val (.int (Int32.ofNat l1)), .val (.int ca1), .val (.int cb1), .val (.int z7), .val (.int (Int32.ofNat l2)), .val (.int ca2), .val (.int cb2), .val (.int i1), .val (.int z12), .val (.int i2), .val (.ref b1), .val (.ref s2), .val (.ref b8), .val (.int (0 : Int32)), .val (.ref b8), .val (.int (1 : Int32)), .unset]) rfl k_) ?_
                  show OFin _ _ _ _ _ _ T11 (mkF m 283 #[.val (.int p0), .val (.int p1), .val (.int p2), .val (.int p3), .val (.int (Int32.ofNat l1)), .val (.int ca1), .val (.int cb1), .val (.int z7), .val (.int (Int32.ofNat l2)), .val (.int ca2), .val (.int cb2), .val (.int i1), .val (.int z12), .val (.int i2), .val (.ref b1), .val (.ref s2), .val (.ref b8), .val (.int (0 : Int32)), .val (.ref b8), .val (.int (1 : Int32)), .unset] [])
                  exact j283 1 (Or.inl ⟨rfl, e12, fun _ => c3, fun _ => c5⟩)
                · refine X11.step (fun hA hx hq t_ k_ => XS.icmpYes hA hx rfl (pc0 := 273) (pc' := 280) rfl (hb hq at_273) rfl (feq (c5)).2 (by decide) (by decide) k_) ?_
                  show OFin _ _ _ _ _ _ T11 (mkF m 280 #[.val (.int p0), .val (.int p1), .val (.int p2), .val (.int p3), .val (.int (Int32.ofNat l1)), .val (.int ca1), .val (.int cb1), .val (.int z7), .val (.int (Int32.ofNat l2)), .val (.int ca2), .val (.int cb2), .val (.int i1), .val (.int z12), .val (.int i2), .val (.ref b1), .val (.ref s2), .val (.ref b8), .val (.int (0 : Int32)), .val (.ref b8), .unset, .unset] [])
                  refine X11.step (fun hA hx hq t_ k_ => XS.iconst hA hx rfl (hb hq at_280) k_) ?_
                  show OFin _ _ _ _ _ _ T11 (mkF m 281 #[.val (.int p0), .val (.int p1), .val (.int p2), .val (.int p3), .val (.int (Int32.ofNat l1)), .val (.int ca1), .val (.int cb1), .val (.int z7), .val (.int (Int32.ofNat l2)), .val (.int ca2), .val (.int cb2), .val (.int i1), .val (.int z12), .val (.int i2), .val (.ref b1), .val (.ref s2), .val (.ref b8), .val (.int (0 : Int32)), .val (.ref b8), .unset, .unset] [(.int (0 : Int32))])
                  refine X11.step (fun hA hx hq t_ k_ => XS.istore hA hx rfl (hb hq at_281) rfl (l' := #[.val (.int p0), .val (.int p1), .val (.int p2), .val (.int p3), .val (.int (Int32.ofNat l1)), .val (.int ca1), .val (.int cb1), .val (.int z7), .val (.int (Int32.ofNat l2)), .val (.int ca2), .val (.int cb2), .val (.int i1), .val (.int z12), .val (.int i2), .val (.ref b1), .val (.ref s2), .val (.ref b8), .val (.int (0 : Int32)), .val (.ref b8), .val (.int (0 : Int32)), .unset]) rfl k_) ?_
                  show OFin _ _ _ _ _ _ T11 (mkF m 283 #[.val (.int p0), .val (.int p1), .val (.int p2), .val (.int p3), .val (.int (Int32.ofNat l1)), .val (.int ca1), .val (.int cb1), .val (.int z7), .val (.int (Int32.ofNat l2)), .val (.int ca2), .val (.int cb2), .val (.int i1), .val (.int z12), .val (.int i2), .val (.ref b1), .val (.ref s2), .val (.ref b8), .val (.int (0 : Int32)), .val (.ref b8), .val (.int (0 : Int32)), .unset] [])
                  exact j283 0 (Or.inr ⟨rfl, fun q => c5 (q.2.2 (by omega))⟩)
            · refine X11.step (fun hA hx hq t_ k_ => XS.icmpYes hA hx rfl (pc0 := 260) (pc' := 280) rfl (hb hq at_260) rfl (feq (c3)).2 (by decide) (by decide) k_) ?_
              show OFin _ _ _ _ _ _ T11 (mkF m 280 #[.val (.int p0), .val (.int p1), .val (.int p2), .val (.int p3), .val (.int (Int32.ofNat l1)), .val (.int ca1), .val (.int cb1), .val (.int z7), .val (.int (Int32.ofNat l2)), .val (.int ca2), .val (.int cb2), .val (.int i1), .val (.int z12), .val (.int i2), .val (.ref b1), .val (.ref s2), .val (.ref b8), .val (.int (0 : Int32)), .val (.ref b8), .unset, .unset] [])
              refine X11.step (fun hA hx hq t_ k_ => XS.iconst hA hx rfl (hb hq at_280) k_) ?_
              show OFin _ _ _ _ _ _ T11 (mkF m 281 #[.val (.int p0), .val (.int p1), .val (.int p2), .val (.int p3), .val (.int (Int32.ofNat l1)), .val (.int ca1), .val (.int cb1), .val (.int z7), .val (.int (Int32.ofNat l2)), .val (.int ca2), .val (.int cb2), .val (.int i1), .val (.int z12), .val (.int i2), .val (.ref b1), .val (.ref s2), .val (.ref b8), .val (.int (0 : Int32)), .val (.ref b8), .unset, .unset] [(.int (0 : Int32))])
              refine X11.step (fun hA hx hq t_ k_ => XS.istore hA hx rfl (hb hq at_281) rfl (l' := #[.val (.int p0), .val (.int p1), .val (.int p2), .val (.int p3), .val (.int (Int32.ofNat l1)), .val (.int ca1), .val (.int cb1), .val (.int z7), .val (.int (Int32.ofNat l2)), .val (.int ca2), .val (.int cb2), .val (.int i1), .val (.int z12), .val (.int i2), .val (.ref b1), .val (.ref s2), .val (.ref b8), .val (.int (0 : Int32)), .val (.ref b8), .val (.int (0 : Int32)), .unset]) rfl k_) ?_
              show OFin _ _ _ _ _ _ T11 (mkF m 283 #[.val (.int p0), .val (.int p1), .val (.int p2), .val (.int p3), .val (.int (Int32.ofNat l1)), .val (.int ca1), .val (.int cb1), .val (.int z7), .val (.int (Int32.ofNat l2)), .val (.int ca2), .val (.int cb2), .val (.int i1), .val (.int z12), .val (.int i2), .val (.ref b1), .val (.ref s2), .val (.ref b8), .val (.int (0 : Int32)), .val (.ref b8), .val (.int (0 : Int32)), .unset] [])
              exact j283 0 (Or.inr ⟨rfl, fun q => c3 (q.2.1 (by omega))⟩)
        · refine X11.step (fun hA hx hq t_ k_ => XS.icmpYes hA hx rfl (pc0 := 247) (pc' := 280) rfl (hb hq at_247) rfl (feq (c1)).2 (by decide) (by decide) k_) ?_
          show OFin _ _ _ _ _ _ T11 (mkF m 280 #[.val (.int p0), .val (.int p1), .val (.int p2), .val (.int p3), .val (.int (Int32.ofNat l1)), .val (.int ca1), .val (.int cb1), .val (.int z7), .val (.int (Int32.ofNat l2)), .val (.int ca2), .val (.int cb2), .val (.int i1), .val (.int z12), .val (.int i2), .val (.ref b1), .val (.ref s2), .val (.ref b8), .val (.int (0 : Int32)), .val (.ref b8), .unset, .unset] [])
          refine X11.step (fun hA hx hq t_ k_ => XS.iconst hA hx rfl (hb hq at_280) k_) ?_
          show OFin _ _ _ _ _ _ T11 (mkF m 281 #[.val (.int p0), .val (.int p1), .val (.int p2), .val (.int p3), .val (.int (Int32.ofNat l1)), .val (.int ca1), .val (.int cb1), .val (.int z7), .val (.int (Int32.ofNat l2)), .val (.int ca2), .val (.int cb2), .val (.int i1), .val (.int z12), .val (.int i2), .val (.ref b1), .val (.ref s2), .val (.ref b8), .val (.int (0 : Int32)), .val (.ref b8), .unset, .unset] [(.int (0 : Int32))])
          refine X11.step (fun hA hx hq t_ k_ => XS.istore hA hx rfl (hb hq at_281) rfl (l' := #[.val (.int p0), .val (.int p1), .val (.int p2), .val (.int p3), .val (.int (Int32.ofNat l1)), .val (.int ca1), .val (.int cb1), .val (.int z7), .val (.int (Int32.ofNat l2)), .val (.int ca2), .val (.int cb2), .val (.int i1), .val (.int z12), .val (.int i2), .val (.ref b1), .val (.ref s2), .val (.ref b8), .val (.int (0 : Int32)), .val (.ref b8), .val (.int (0 : Int32)), .unset]) rfl k_) ?_
          show OFin _ _ _ _ _ _ T11 (mkF m 283 #[.val (.int p0), .val (.int p1), .val (.int p2), .val (.int p3), .val (.int (Int32.ofNat l1)), .val (.int ca1), .val (.int cb1), .val (.int z7), .val (.int (Int32.ofNat l2)), .val (.int ca2), .val (.int cb2), .val (.int i1), .val (.int z12), .val (.int i2), .val (.ref b1), .val (.ref s2), .val (.ref b8), .val (.int (0 : Int32)), .val (.ref b8), .val (.int (0 : Int32)), .unset] [])
          exact j283 0 (Or.inr ⟨rfl, fun q => c1 (congrArg Int32.ofNat q.1)⟩)
      · show OFin _ _ _ _ _ _ T11 (mkF m 202 #[.val (.int p0), .val (.int p1), .val (.int p2), .val (.int p3), .val (.int (Int32.ofNat l1)), .val (.int ca1), .val (.int cb1), .val (.int z7), .val (.int (Int32.ofNat l2)), .val (.int ca2), .val (.int cb2), .val (.int i1), .val (.int z12), .val (.int i2), .val (.ref b1), .val (.ref s2), .val (.ref b8), .val (.int (1 : Int32)), .unset, .unset, .unset] [])
        refine X11.step (fun hA hx hq t_ k_ => XS.iload hA hx rfl (hb hq at_202) rfl k_) ?_
        show OFin _ _ _ _ _ _ T11 (mkF m 204 #[.val (.int p0), .val (.int p1), .val (.int p2), .val (.int p3), .val (.int (Int32.ofNat l1)), .val (.int ca1), .val (.int cb1), .val (.int z7), .val (.int (Int32.ofNat l2)), .val (.int ca2), .val (.int cb2), .val (.int i1), .val (.int z12), .val (.int i2), .val (.ref b1), .val (.ref s2), .val (.ref b8), .val (.int (1 : Int32)), .unset, .unset, .unset] [(.int (1 : Int32))])
        refine X11.step (fun hA hx hq t_ k_ => XS.ifYes hA hx rfl (pc0 := 204) (pc' := 214) rfl (hb hq at_204) rfl ((if0 _ _).trans (feq ((by decide))).2) (by decide) (by decide) k_) ?_
        show OFin _ _ _ _ _ _ T11 (mkF m 214 #[.val (.int p0), .val (.int p1), .val (.int p2), .val (.int p3), .val (.int (Int32.ofNat l1)), .val (.int ca1), .val (.int cb1), .val (.int z7), .val (.int (Int32.ofNat l2)), .val (.int ca2), .val (.int cb2), .val (.int i1), .val (.int z12), .val (.int i2), .val (.ref b1), .val (.ref s2), .val (.ref b8), .val (.int (1 : Int32)), .unset, .unset, .unset] [])
        refine X11.step (fun hA hx hq t_ k_ => XS.iload hA hx rfl (hb hq at_214) rfl k_) ?_
        show OFin _ _ _ _ _ _ T11 (mkF m 216 #[.val (.int p0), .val (.int p1), .val (.int p2), .val (.int p3), .val (.int (Int32.ofNat l1)), .val (.int ca1), .val (.int cb1), .val (.int z7), .val (.int (Int32.ofNat l2)), .val (.int ca2), .val (.int cb2), .val (.int i1), .val (.int z12), .val (.int i2), .val (.ref b1), .val (.ref s2), .val (.ref b8), .val (.int (1 : Int32)), .unset, .unset, .unset] [(.int (1 : Int32))])
        refine X11.step (fun hA hx hq t_ k_ => XS.iconst hA hx rfl (hb hq at_216) k_) ?_
        show OFin _ _ _ _ _ _ T11 (mkF m 217 #[.val (.int p0), .val (.int p1), .val (.int p2), .val (.int p3), .val (.int (Int32.ofNat l1)), .val (.int ca1), .val (.int cb1), .val (.int z7), .val (.int (Int32.ofNat l2)), .val (.int ca2), .val (.int cb2), .val (.int i1), .val (.int z12), .val (.int i2), .val (.ref b1), .val (.ref s2), .val (.ref b8), .val (.int (1 : Int32)), .unset, .unset, .unset] [(.int (1 : Int32)), (.int (1 : Int32))])
        refine X11.step (fun hA hx hq t_ k_ => XS.icmpNo hA hx rfl (hb hq at_217) rfl (teq ((rfl : (1 : Int32) = (1 : Int32)))).2 k_) ?_
        show OFin _ _ _ _ _ _ T11 (mkF m 220 #[.val (.int p0), .val (.int p1), .val (.int p2), .val (.int p3), .val (.int (Int32.ofNat l1)), .val (.int ca1), .val (.int cb1), .val (.int z7), .val (.int (Int32.ofNat l2)), .val (.int ca2), .val (.int cb2), .val (.int i1), .val (.int z12), .val (.int i2), .val (.ref b1), .val (.ref s2), .val (.ref b8), .val (.int (1 : Int32)), .unset, .unset, .unset] [])
        refine X11.step (fun hA hx hq t_ k_ => XS.aconstNull hA hx rfl (hb hq at_220) k_) ?_
        show OFin _ _ _ _ _ _ T11 (mkF m 221 #[.val (.int p0), .val (.int p1), .val (.int p2), .val (.int p3), .val (.int (Int32.ofNat l1)), .val (.int ca1), .val (.int cb1), .val (.int z7), .val (.int (Int32.ofNat l2)), .val (.int ca2), .val (.int cb2), .val (.int i1), .val (.int z12), .val (.int i2), .val (.ref b1), .val (.ref s2), .val (.ref b8), .val (.int (1 : Int32)), .unset, .unset, .unset] [.null])
        refine X11.step (fun hA hx hq t_ k_ => XS.astore hA hx rfl (hb hq at_221) rfl rfl (l' := #[.val (.int p0), .val (.int p1), .val (.int p2), .val (.int p3), .val (.int (Int32.ofNat l1)), .val (.int ca1), .val (.int cb1), .val (.int z7), .val (.int (Int32.ofNat l2)), .val (.int ca2), .val (.int cb2), .val (.int i1), .val (.int z12), .val (.int i2), .val (.ref b1), .val (.ref s2), .val (.ref b8), .val (.int (1 : Int32)), .val .null, .unset, .unset]) rfl k_) ?_
        show OFin _ _ _ _ _ _ T11 (mkF m 223 #[.val (.int p0), .val (.int p1), .val (.int p2), .val (.int p3), .val (.int (Int32.ofNat l1)), .val (.int ca1), .val (.int cb1), .val (.int z7), .val (.int (Int32.ofNat l2)), .val (.int ca2), .val (.int cb2), .val (.int i1), .val (.int z12), .val (.int i2), .val (.ref b1), .val (.ref s2), .val (.ref b8), .val (.int (1 : Int32)), .val .null, .unset, .unset] [])
        refine X11.step (fun hA hx hq t_ k_ => XS.goto hA hx rfl (pc0 := 223) (pc' := 243) rfl (hb hq at_223) (by decide) (by decide) k_) ?_
        show OFin _ _ _ _ _ _ T11 (mkF m 243 #[.val (.int p0), .val (.int p1), .val (.int p2), .val (.int p3), .val (.int (Int32.ofNat l1)), .val (.int ca1), .val (.int cb1), .val (.int z7), .val (.int (Int32.ofNat l2)), .val (.int ca2), .val (.int cb2), .val (.int i1), .val (.int z12), .val (.int i2), .val (.ref b1), .val (.ref s2), .val (.ref b8), .val (.int (1 : Int32)), .val .null, .unset, .unset] [])
        refine X11.step (fun hA hx hq t_ k_ => XS.iload hA hx rfl (hb hq at_243) rfl k_) ?_
        show OFin _ _ _ _ _ _ T11 (mkF m 245 #[.val (.int p0), .val (.int p1), .val (.int p2), .val (.int p3), .val (.int (Int32.ofNat l1)), .val (.int ca1), .val (.int cb1), .val (.int z7), .val (.int (Int32.ofNat l2)), .val (.int ca2), .val (.int cb2), .val (.int i1), .val (.int z12), .val (.int i2), .val (.ref b1), .val (.ref s2), .val (.ref b8), .val (.int (1 : Int32)), .val .null, .unset, .unset] [(.int (Int32.ofNat l1))])
        refine X11.step (fun hA hx hq t_ k_ => XS.iload hA hx rfl (hb hq at_245) rfl k_) ?_
        show OFin _ _ _ _ _ _ T11 (mkF m 247 #[.val (.int p0), .val (.int p1), .val (.int p2), .val (.int p3), .val (.int (Int32.ofNat l1)), .val (.int ca1), .val (.int cb1), .val (.int z7), .val (.int (Int32.ofNat l2)), .val (.int ca2), .val (.int cb2), .val (.int i1), .val (.int z12), .val (.int i2), .val (.ref b1), .val (.ref s2), .val (.ref b8), .val (.int (1 : Int32)), .val .null, .unset, .unset] [(.int (Int32.ofNat l2)), (.int (Int32.ofNat l1))])
        have j283 : ∀ z19 : Int32, own_tv z19 (own_st l1 l2 ca1 ca2 cb1 cb2) → OFin n0 p e (fun o t L => CHr Z own_EL s.vm s.heap t.vm t.heap ∧ ReturnedEndW s o t L room_1.cells room_1.slots) below (fun v h => v = some (.int 1)) T11 (mkF m 283 #[.val (.int p0), .val (.int p1), .val (.int p2), .val (.int p3), .val (.int (Int32.ofNat l1)), .val (.int ca1), .val (.int cb1), .val (.int z7), .val (.int (Int32.ofNat l2)), .val (.int ca2), .val (.int cb2), .val (.int i1), .val (.int z12), .val (.int i2), .val (.ref b1), .val (.ref s2), .val (.ref b8), .val (.int (1 : Int32)), .val .null, .val (.int z19), .unset] []) := by
          intro z19 hz
          refine X11.step (fun hA hx hq t_ k_ => XS.iload hA hx rfl (hb hq at_283) rfl k_) ?_
          show OFin _ _ _ _ _ _ T11 (mkF m 285 #[.val (.int p0), .val (.int p1), .val (.int p2), .val (.int p3), .val (.int (Int32.ofNat l1)), .val (.int ca1), .val (.int cb1), .val (.int z7), .val (.int (Int32.ofNat l2)), .val (.int ca2), .val (.int cb2), .val (.int i1), .val (.int z12), .val (.int i2), .val (.ref b1), .val (.ref s2), .val (.ref b8), .val (.int (1 : Int32)), .val .null, .val (.int z19), .unset] [(.int (1 : Int32))])
          refine X11.step (fun hA hx hq t_ k_ => XS.ifYes hA hx rfl (pc0 := 285) (pc' := 310) rfl (hb hq at_285) rfl ((if0 _ _).trans (feq ((by decide))).2) (by decide) (by decide) k_) ?_
          show OFin _ _ _ _ _ _ T11 (mkF m 310 #[.val (.int p0), .val (.int p1), .val (.int p2), .val (.int p3), .val (.int (Int32.ofNat l1)), .val (.int ca1), .val (.int cb1), .val (.int z7), .val (.int (Int32.ofNat l2)), .val (.int ca2), .val (.int cb2), .val (.int i1), .val (.int z12), .val (.int i2), .val (.ref b1), .val (.ref s2), .val (.ref b8), .val (.int (1 : Int32)), .val .null, .val (.int z19), .unset] [])
          refine X11.step (fun hA hx hq t_ k_ => XS.iload hA hx rfl (hb hq at_310) rfl k_) ?_
          show OFin _ _ _ _ _ _ T11 (mkF m 312 #[.val (.int p0), .val (.int p1), .val (.int p2), .val (.int p3), .val (.int (Int32.ofNat l1)), .val (.int ca1), .val (.int cb1), .val (.int z7), .val (.int (Int32.ofNat l2)), .val (.int ca2), .val (.int cb2), .val (.int i1), .val (.int z12), .val (.int i2), .val (.ref b1), .val (.ref s2), .val (.ref b8), .val (.int (1 : Int32)), .val .null, .val (.int z19), .unset] [(.int (1 : Int32))])
          refine X11.step (fun hA hx hq t_ k_ => XS.iconst hA hx rfl (hb hq at_312) k_) ?_
          show OFin _ _ _ _ _ _ T11 (mkF m 313 #[.val (.int p0), .val (.int p1), .val (.int p2), .val (.int p3), .val (.int (Int32.ofNat l1)), .val (.int ca1), .val (.int cb1), .val (.int z7), .val (.int (Int32.ofNat l2)), .val (.int ca2), .val (.int cb2), .val (.int i1), .val (.int z12), .val (.int i2), .val (.ref b1), .val (.ref s2), .val (.ref b8), .val (.int (1 : Int32)), .val .null, .val (.int z19), .unset] [(.int (3 : Int32)), (.int (1 : Int32))])
          refine X11.step (fun hA hx hq t_ k_ => XS.icmpYes hA hx rfl (pc0 := 313) (pc' := 322) rfl (hb hq at_313) rfl (feq ((by decide))).2 (by decide) (by decide) k_) ?_
          show OFin _ _ _ _ _ _ T11 (mkF m 322 #[.val (.int p0), .val (.int p1), .val (.int p2), .val (.int p3), .val (.int (Int32.ofNat l1)), .val (.int ca1), .val (.int cb1), .val (.int z7), .val (.int (Int32.ofNat l2)), .val (.int ca2), .val (.int cb2), .val (.int i1), .val (.int z12), .val (.int i2), .val (.ref b1), .val (.ref s2), .val (.ref b8), .val (.int (1 : Int32)), .val .null, .val (.int z19), .unset] [])
          refine X11.step (fun hA hx hq t_ k_ => XS.iconst hA hx rfl (hb hq at_322) k_) ?_
          show OFin _ _ _ _ _ _ T11 (mkF m 323 #[.val (.int p0), .val (.int p1), .val (.int p2), .val (.int p3), .val (.int (Int32.ofNat l1)), .val (.int ca1), .val (.int cb1), .val (.int z7), .val (.int (Int32.ofNat l2)), .val (.int ca2), .val (.int cb2), .val (.int i1), .val (.int z12), .val (.int i2), .val (.ref b1), .val (.ref s2), .val (.ref b8), .val (.int (1 : Int32)), .val .null, .val (.int z19), .unset] [(.int (0 : Int32))])
          refine X11.step (fun hA hx hq t_ k_ => XS.istore hA hx rfl (hb hq at_323) rfl (l' := #[.val (.int p0), .val (.int p1), .val (.int p2), .val (.int p3), .val (.int (Int32.ofNat l1)), .val (.int ca1), .val (.int cb1), .val (.int z7), .val (.int (Int32.ofNat l2)), .val (.int ca2), .val (.int cb2), .val (.int i1), .val (.int z12), .val (.int i2), .val (.ref b1), .val (.ref s2), .val (.ref b8), .val (.int (1 : Int32)), .val .null, .val (.int z19), .val (.int (0 : Int32))]) rfl k_) ?_
          show OFin _ _ _ _ _ _ T11 (mkF m 325 #[.val (.int p0), .val (.int p1), .val (.int p2), .val (.int p3), .val (.int (Int32.ofNat l1)), .val (.int ca1), .val (.int cb1), .val (.int z7), .val (.int (Int32.ofNat l2)), .val (.int ca2), .val (.int cb2), .val (.int i1), .val (.int z12), .val (.int i2), .val (.ref b1), .val (.ref s2), .val (.ref b8), .val (.int (1 : Int32)), .val .null, .val (.int z19), .val (.int (0 : Int32))] [])
          refine X11.step (fun hA hx hq t_ k_ => XS.aload hA hx rfl (hb hq at_325) rfl rfl k_) ?_
          show OFin _ _ _ _ _ _ T11 (mkF m 327 #[.val (.int p0), .val (.int p1), .val (.int p2), .val (.int p3), .val (.int (Int32.ofNat l1)), .val (.int ca1), .val (.int cb1), .val (.int z7), .val (.int (Int32.ofNat l2)), .val (.int ca2), .val (.int cb2), .val (.int i1), .val (.int z12), .val (.int i2), .val (.ref b1), .val (.ref s2), .val (.ref b8), .val (.int (1 : Int32)), .val .null, .val (.int z19), .val (.int (0 : Int32))] [(.ref b1)])
          refine X11.step (fun hA hx hq t_ k_ => XS.aload hA hx rfl (hb hq at_327) rfl rfl k_) ?_
          show OFin _ _ _ _ _ _ T11 (mkF m 329 #[.val (.int p0), .val (.int p1), .val (.int p2), .val (.int p3), .val (.int (Int32.ofNat l1)), .val (.int ca1), .val (.int cb1), .val (.int z7), .val (.int (Int32.ofNat l2)), .val (.int ca2), .val (.int cb2), .val (.int i1), .val (.int z12), .val (.int i2), .val (.ref b1), .val (.ref s2), .val (.ref b8), .val (.int (1 : Int32)), .val .null, .val (.int z19), .val (.int (0 : Int32))] [.null, (.ref b1)])
          refine X11.callV (y' := (⟨"com/example/replay_proof/replayproof/model/Name", "equals", "(Ljava/lang/Object;)Z"⟩ : MethodName)) (z' := (⟨"com/example/replay_proof/replayproof/model/Name", "equals", "(Ljava/lang/Object;)Z"⟩ : MethodName)) (hw _ (List.mem_of_getElem? (i := 58) rfl)) (hw _ (List.mem_of_getElem? (i := 59) rfl)) (X11.notFace (hw _ (List.mem_of_getElem? (i := 61) rfl)) rfl) (hw _ (List.mem_of_getElem? (i := 61) rfl)) (hw _ (List.mem_of_getElem? (i := 60) rfl)) (hw _ (List.mem_of_getElem? (i := 3) rfl)) (hw _ (List.mem_of_getElem? (i := 62) rfl)) (by decide) Ea (argsL := [.null]) (rest := []) (rm7 l Z a0 hw b1 h11 n0) (g := (mkF m 329 #[.val (.int p0), .val (.int p1), .val (.int p2), .val (.int p3), .val (.int (Int32.ofNat l1)), .val (.int ca1), .val (.int cb1), .val (.int z7), .val (.int (Int32.ofNat l2)), .val (.int ca2), .val (.int cb2), .val (.int i1), .val (.int z12), .val (.int i2), .val (.ref b1), .val (.ref s2), .val (.ref b8), .val (.int (1 : Int32)), .val .null, .val (.int z19), .val (.int (0 : Int32))] [.null, (.ref b1)])) rfl rfl pd_pLjava_lang_Object_r_Z rfl rfl (W := 0) (by show 2 * 0 + _ ≤ _; exact Nat.le_of_eq rfl) at_329 (by decide) (by decide) (by decide) (by decide) ?_
          intro v14 T14 h14 X14 q14
          obtain ⟨rfl, rfl⟩ := q14
          show OFin _ _ _ _ _ _ T14 (mkF m 332 #[.val (.int p0), .val (.int p1), .val (.int p2), .val (.int p3), .val (.int (Int32.ofNat l1)), .val (.int ca1), .val (.int cb1), .val (.int z7), .val (.int (Int32.ofNat l2)), .val (.int ca2), .val (.int cb2), .val (.int i1), .val (.int z12), .val (.int i2), .val (.ref b1), .val (.ref s2), .val (.ref b8), .val (.int (1 : Int32)), .val .null, .val (.int z19), .val (.int (0 : Int32))] [(.int (0 : Int32))])
          refine X14.step (fun hA hx hq t_ k_ => XS.iload hA hx rfl (hb hq at_332) rfl k_) ?_
          show OFin _ _ _ _ _ _ T14 (mkF m 334 #[.val (.int p0), .val (.int p1), .val (.int p2), .val (.int p3), .val (.int (Int32.ofNat l1)), .val (.int ca1), .val (.int cb1), .val (.int z7), .val (.int (Int32.ofNat l2)), .val (.int ca2), .val (.int cb2), .val (.int i1), .val (.int z12), .val (.int i2), .val (.ref b1), .val (.ref s2), .val (.ref b8), .val (.int (1 : Int32)), .val .null, .val (.int z19), .val (.int (0 : Int32))] [(.int (0 : Int32)), (.int (0 : Int32))])
          refine X14.step (fun hA hx hq t_ k_ => XS.icmpNo hA hx rfl (hb hq at_334) rfl (teq ((rfl : (0 : Int32) = (0 : Int32)))).2 k_) ?_
          show OFin _ _ _ _ _ _ T14 (mkF m 337 #[.val (.int p0), .val (.int p1), .val (.int p2), .val (.int p3), .val (.int (Int32.ofNat l1)), .val (.int ca1), .val (.int cb1), .val (.int z7), .val (.int (Int32.ofNat l2)), .val (.int ca2), .val (.int cb2), .val (.int i1), .val (.int z12), .val (.int i2), .val (.ref b1), .val (.ref s2), .val (.ref b8), .val (.int (1 : Int32)), .val .null, .val (.int z19), .val (.int (0 : Int32))] [])
          refine X14.step (fun hA hx hq t_ k_ => XS.iconst hA hx rfl (hb hq at_337) k_) ?_
          show OFin _ _ _ _ _ _ T14 (mkF m 338 #[.val (.int p0), .val (.int p1), .val (.int p2), .val (.int p3), .val (.int (Int32.ofNat l1)), .val (.int ca1), .val (.int cb1), .val (.int z7), .val (.int (Int32.ofNat l2)), .val (.int ca2), .val (.int cb2), .val (.int i1), .val (.int z12), .val (.int i2), .val (.ref b1), .val (.ref s2), .val (.ref b8), .val (.int (1 : Int32)), .val .null, .val (.int z19), .val (.int (0 : Int32))] [(.int (1 : Int32))])
          refine X14.step (fun hA hx hq t_ k_ => XS.goto hA hx rfl (pc0 := 338) (pc' := 342) rfl (hb hq at_338) (by decide) (by decide) k_) ?_
          show OFin _ _ _ _ _ _ T14 (mkF m 342 #[.val (.int p0), .val (.int p1), .val (.int p2), .val (.int p3), .val (.int (Int32.ofNat l1)), .val (.int ca1), .val (.int cb1), .val (.int z7), .val (.int (Int32.ofNat l2)), .val (.int ca2), .val (.int cb2), .val (.int i1), .val (.int z12), .val (.int i2), .val (.ref b1), .val (.ref s2), .val (.ref b8), .val (.int (1 : Int32)), .val .null, .val (.int z19), .val (.int (0 : Int32))] [(.int (1 : Int32))])
          exact X14.retN (by simp) at_342 (oW X14 B12 (by decide) (by decide)) (rfl)
        by_cases c1 : (Int32.ofNat l1) = (Int32.ofNat l2)
        · refine X11.step (fun hA hx hq t_ k_ => XS.icmpNo hA hx rfl (hb hq at_247) rfl (teq (c1)).2 k_) ?_
          show OFin _ _ _ _ _ _ T11 (mkF m 250 #[.val (.int p0), .val (.int p1), .val (.int p2), .val (.int p3), .val (.int (Int32.ofNat l1)), .val (.int ca1), .val (.int cb1), .val (.int z7), .val (.int (Int32.ofNat l2)), .val (.int ca2), .val (.int cb2), .val (.int i1), .val (.int z12), .val (.int i2), .val (.ref b1), .val (.ref s2), .val (.ref b8), .val (.int (1 : Int32)), .val .null, .unset, .unset] [])
          have e12 := (own_eq32 l1 l2 (by omega) (by omega)).mp c1
          refine X11.step (fun hA hx hq t_ k_ => XS.iload hA hx rfl (hb hq at_250) rfl k_) ?_
          show OFin _ _ _ _ _ _ T11 (mkF m 252 #[.val (.int p0), .val (.int p1), .val (.int p2), .val (.int p3), .val (.int (Int32.ofNat l1)), .val (.int ca1), .val (.int cb1), .val (.int z7), .val (.int (Int32.ofNat l2)), .val (.int ca2), .val (.int cb2), .val (.int i1), .val (.int z12), .val (.int i2), .val (.ref b1), .val (.ref s2), .val (.ref b8), .val (.int (1 : Int32)), .val .null, .unset, .unset] [(.int (Int32.ofNat l1))])
          refine X11.step (fun hA hx hq t_ k_ => XS.iconst hA hx rfl (hb hq at_252) k_) ?_
          show OFin _ _ _ _ _ _ T11 (mkF m 253 #[.val (.int p0), .val (.int p1), .val (.int p2), .val (.int p3), .val (.int (Int32.ofNat l1)), .val (.int ca1), .val (.int cb1), .val (.int z7), .val (.int (Int32.ofNat l2)), .val (.int ca2), .val (.int cb2), .val (.int i1), .val (.int z12), .val (.int i2), .val (.ref b1), .val (.ref s2), .val (.ref b8), .val (.int (1 : Int32)), .val .null, .unset, .unset] [(.int (1 : Int32)), (.int (Int32.ofNat l1))])
          by_cases c2 : (Int32.ofNat l1) < (1 : Int32)
          · refine X11.step (fun hA hx hq t_ k_ => XS.icmpYes hA hx rfl (pc0 := 253) (pc' := 263) rfl (hb hq at_253) rfl (tlt (c2)).1 (by decide) (by decide) k_) ?_
            show OFin _ _ _ _ _ _ T11 (mkF m 263 #[.val (.int p0), .val (.int p1), .val (.int p2), .val (.int p3), .val (.int (Int32.ofNat l1)), .val (.int ca1), .val (.int cb1), .val (.int z7), .val (.int (Int32.ofNat l2)), .val (.int ca2), .val (.int cb2), .val (.int i1), .val (.int z12), .val (.int i2), .val (.ref b1), .val (.ref s2), .val (.ref b8), .val (.int (1 : Int32)), .val .null, .unset, .unset] [])
            have e0 := (own_lt32 l1 1 (by omega) (by decide)).mp c2
            refine X11.step (fun hA hx hq t_ k_ => XS.iload hA hx rfl (hb hq at_263) rfl k_) ?_
            show OFin _ _ _ _ _ _ T11 (mkF m 265 #[.val (.int p0), .val (.int p1), .val (.int p2), .val (.int p3), .val (.int (Int32.ofNat l1)), .val (.int ca1), .val (.int cb1), .val (.int z7), .val (.int (Int32.ofNat l2)), .val (.int ca2), .val (.int cb2), .val (.int i1), .val (.int z12), .val (.int i2), .val (.ref b1), .val (.ref s2), .val (.ref b8), .val (.int (1 : Int32)), .val .null, .unset, .unset] [(.int (Int32.ofNat l1))])
            refine X11.step (fun hA hx hq t_ k_ => XS.iconst hA hx rfl (hb hq at_265) k_) ?_
            show OFin _ _ _ _ _ _ T11 (mkF m 266 #[.val (.int p0), .val (.int p1), .val (.int p2), .val (.int p3), .val (.int (Int32.ofNat l1)), .val (.int ca1), .val (.int cb1), .val (.int z7), .val (.int (Int32.ofNat l2)), .val (.int ca2), .val (.int cb2), .val (.int i1), .val (.int z12), .val (.int i2), .val (.ref b1), .val (.ref s2), .val (.ref b8), .val (.int (1 : Int32)), .val .null, .unset, .unset] [(.int (2 : Int32)), (.int (Int32.ofNat l1))])
            refine X11.step (fun hA hx hq t_ k_ => XS.icmpYes hA hx rfl (pc0 := 266) (pc' := 276) rfl (hb hq at_266) rfl (tlt ((own_lt32 l1 2 (by omega) (by decide)).mpr (by omega))).1 (by decide) (by decide) k_) ?_
            show OFin _ _ _ _ _ _ T11 (mkF m 276 #[.val (.int p0), .val (.int p1), .val (.int p2), .val (.int p3), .val (.int (Int32.ofNat l1)), .val (.int ca1), .val (.int cb1), .val (.int z7), .val (.int (Int32.ofNat l2)), .val (.int ca2), .val (.int cb2), .val (.int i1), .val (.int z12), .val (.int i2), .val (.ref b1), .val (.ref s2), .val (.ref b8), .val (.int (1 : Int32)), .val .null, .unset, .unset] [])
            refine X11.step (fun hA hx hq t_ k_ => XS.iconst hA hx rfl (hb hq at_276) k_) ?_
            show OFin _ _ _ _ _ _ T11 (mkF m 277 #[.val (.int p0), .val (.int p1), .val (.int p2), .val (.int p3), .val (.int (Int32.ofNat l1)), .val (.int ca1), .val (.int cb1), .val (.int z7), .val (.int (Int32.ofNat l2)), .val (.int ca2), .val (.int cb2), .val (.int i1), .val (.int z12), .val (.int i2), .val (.ref b1), .val (.ref s2), .val (.ref b8), .val (.int (1 : Int32)), .val .null, .unset, .unset] [(.int (1 : Int32))])
            refine X11.step (fun hA hx hq t_ k_ => XS.goto hA hx rfl (pc0 := 277) (pc' := 281) rfl (hb hq at_277) (by decide) (by decide) k_) ?_
            show OFin _ _ _ _ _ _ T11 (mkF m 281 #[.val (.int p0), .val (.int p1), .val (.int p2), .val (.int p3), .val (.int (Int32.ofNat l1)), .val (.int ca1), .val (.int cb1), .val (.int z7), .val (.int (Int32.ofNat l2)), .val (.int ca2), .val (.int cb2), .val (.int i1), .val (.int z12), .val (.int i2), .val (.ref b1), .val (.ref s2), .val (.ref b8), .val (.int (1 : Int32)), .val .null, .unset, .unset] [(.int (1 : Int32))])
            refine X11.step (fun hA hx hq t_ k_ => XS.istore hA hx rfl (hb hq at_281) rfl (l' := #[.val (.int p0), .val (.int p1), .val (.int p2), .val (.int p3), .val (.int (Int32.ofNat l1)), .val (.int ca1), .val (.int cb1), .val (.int z7), .val (.int (Int32.ofNat l2)), .val (.int ca2), .val (.int cb2), .val (.int i1), .val (.int z12), .val (.int i2), .val (.ref b1), .val (.ref s2), .val (.ref b8), .val (.int (1 : Int32)), .val .null, .val (.int (1 : Int32)), .unset]) rfl k_) ?_
            show OFin _ _ _ _ _ _ T11 (mkF m 283 #[.val (.int p0), .val (.int p1), .val (.int p2), .val (.int p3), .val (.int (Int32.ofNat l1)), .val (.int ca1), .val (.int cb1), .val (.int z7), .val (.int (Int32.ofNat l2)), .val (.int ca2), .val (.int cb2), .val (.int i1), .val (.int z12), .val (.int i2), .val (.ref b1), .val (.ref s2), .val (.ref b8), .val (.int (1 : Int32)), .val .null, .val (.int (1 : Int32)), .unset] [])
            exact j283 1 (Or.inl ⟨rfl, e12, fun _ => by omega, fun _ => by omega⟩)
          · refine X11.step (fun hA hx hq t_ k_ => XS.icmpNo hA hx rfl (hb hq at_253) rfl (flt (c2)).1 k_) ?_
            show OFin _ _ _ _ _ _ T11 (mkF m 256 #[.val (.int p0), .val (.int p1), .val (.int p2), .val (.int p3), .val (.int (Int32.ofNat l1)), .val (.int ca1), .val (.int cb1), .val (.int z7), .val (.int (Int32.ofNat l2)), .val (.int ca2), .val (.int cb2), .val (.int i1), .val (.int z12), .val (.int i2), .val (.ref b1), .val (.ref s2), .val (.ref b8), .val (.int (1 : Int32)), .val .null, .unset, .unset] [])
            have e0 : ¬ l1 < 1 := fun q => c2 ((own_lt32 l1 1 (by omega) (by decide)).mpr q)
            refine X11.step (fun hA hx hq t_ k_ => XS.iload hA hx rfl (hb hq at_256) rfl k_) ?_
            show OFin _ _ _ _ _ _ T11 (mkF m 258 #[.val (.int p0), .val (.int p1), .val (.int p2), .val (.int p3), .val (.int (Int32.ofNat l1)), .val (.int ca1), .val (.int cb1), .val (.int z7), .val (.int (Int32.ofNat l2)), .val (.int ca2), .val (.int cb2), .val (.int i1), .val (.int z12), .val (.int i2), .val (.ref b1), .val (.ref s2), .val (.ref b8), .val (.int (1 : Int32)), .val .null, .unset, .unset] [(.int ca1)])
            refine X11.step (fun hA hx hq t_ k_ => XS.iload hA hx rfl (hb hq at_258) rfl k_) ?_
            show OFin _ _ _ _ _ _ T11 (mkF m 260 #[.val (.int p0), .val (.int p1), .val (.int p2), .val (.int p3), .val (.int (Int32.ofNat l1)), .val (.int ca1), .val (.int cb1), .val (.int z7), .val (.int (Int32.ofNat l2)), .val (.int ca2), .val (.int cb2), .val (.int i1), .val (.int z12), .val (.int i2), .val (.ref b1), .val (.ref s2), .val (.ref b8), .val (.int (1 : Int32)), .val .null, .unset, .unset] [(.int ca2), (.int ca1)])
            by_cases c3 : ca1 = ca2
            · refine X11.step (fun hA hx hq t_ k_ => XS.icmpNo hA hx rfl (hb hq at_260) rfl (teq (c3)).2 k_) ?_
              show OFin _ _ _ _ _ _ T11 (mkF m 263 #[.val (.int p0), .val (.int p1), .val (.int p2), .val (.int p3), .val (.int (Int32.ofNat l1)), .val (.int ca1), .val (.int cb1), .val (.int z7), .val (.int (Int32.ofNat l2)), .val (.int ca2), .val (.int cb2), .val (.int i1), .val (.int z12), .val (.int i2), .val (.ref b1), .val (.ref s2), .val (.ref b8), .val (.int (1 : Int32)), .val .null, .unset, .unset] [])
              refine X11.step (fun hA hx hq t_ k_ => XS.iload hA hx rfl (hb hq at_263) rfl k_) ?_
              show OFin _ _ _ _ _ _ T11 (mkF m 265 #[.val (.int p0), .val (.int p1), .val (.int p2), .val (.int p3), .val (.int (Int32.ofNat l1)), .val (.int ca1), .val (.int cb1), .val (.int z7), .val (.int (Int32.ofNat l2)), .val (.int ca2), .val (.int cb2), .val (.int i1), .val (.int z12), .val (.int i2), .val (.ref b1), .val (.ref s2), .val (.ref b8), .val (.int (1 : Int32)), .val .null, .unset, .unset] [(.int (Int32.ofNat l1))])
              refine X11.step (fun hA hx hq t_ k_ => XS.iconst hA hx rfl (hb hq at_265) k_) ?_
              show OFin _ _ _ _ _ _ T11 (mkF m 266 #[.val (.int p0), .val (.int p1), .val (.int p2), .val (.int p3), .val (.int (Int32.ofNat l1)), .val (.int ca1), .val (.int cb1), .val (.int z7), .val (.int (Int32.ofNat l2)), .val (.int ca2), .val (.int cb2), .val (.int i1), .val (.int z12), .val (.int i2), .val (.ref b1), .val (.ref s2), .val (.ref b8), .val (.int (1 : Int32)), .val .null, .unset, .unset] [(.int (2 : Int32)), (.int (Int32.ofNat l1))])
              by_cases c4 : (Int32.ofNat l1) < (2 : Int32)
              · refine X11.step (fun hA hx hq t_ k_ => XS.icmpYes hA hx rfl (pc0 := 266) (pc' := 276) rfl (hb hq at_266) rfl (tlt (c4)).1 (by decide) (by decide) k_) ?_
                show OFin _ _ _ _ _ _ T11 (mkF m 276 #[.val (.int p0), .val (.int p1), .val (.int p2), .val (.int p3), .val (.int (Int32.ofNat l1)), .val (.int ca1), .val (.int cb1), .val (.int z7), .val (.int (Int32.ofNat l2)), .val (.int ca2), .val (.int cb2), .val (.int i1), .val (.int z12), .val (.int i2), .val (.ref b1), .val (.ref s2), .val (.ref b8), .val (.int (1 : Int32)), .val .null, .unset, .unset] [])
                have e1 := (own_lt32 l1 2 (by omega) (by decide)).mp c4
                refine X11.step (fun hA hx hq t_ k_ => XS.iconst hA hx rfl (hb hq at_276) k_) ?_
                show OFin _ _ _ _ _ _ T11 (mkF m 277 #[.val (.int p0), .val (.int p1), .val (.int p2), .val (.int p3), .val (.int (Int32.ofNat l1)), .val (.int ca1), .val (.int cb1), .val (.int z7), .val (.int (Int32.ofNat l2)), .val (.int ca2), .val (.int cb2), .val (.int i1), .val (.int z12), .val (.int i2), .val (.ref b1), .val (.ref s2), .val (.ref b8), .val (.int (1 : Int32)), .val .null, .unset, .unset] [(.int (1 : Int32))])
                refine X11.step (fun hA hx hq t_ k_ => XS.goto hA hx rfl (pc0 := 277) (pc' := 281) rfl (hb hq at_277) (by decide) (by decide) k_) ?_
                show OFin _ _ _ _ _ _ T11 (mkF m 281 #[.val (.int p0), .val (.int p1), .val (.int p2), .val (.int p3), .val (.int (Int32.ofNat l1)), .val (.int ca1), .val (.int cb1), .val (.int z7), .val (.int (Int32.ofNat l2)), .val (.int ca2), .val (.int cb2), .val (.int i1), .val (.int z12), .val (.int i2), .val (.ref b1), .val (.ref s2), .val (.ref b8), .val (.int (1 : Int32)), .val .null, .unset, .unset] [(.int (1 : Int32))])
                refine X11.step (fun hA hx hq t_ k_ => XS.istore hA hx rfl (hb hq at_281) rfl (l' := #[.val (.int p0), .val (.int p1), .val (.int p2), .val (.int p3), .val (.int (Int32.ofNat l1)), .val (.int ca1), .val (.int cb1), .val (.int z7), .val (.int (Int32.ofNat l2)), .val (.int ca2), .val (.int cb2), .val (.int i1), .val (.int z12), .val (.int i2), .val (.ref b1), .val (.ref s2), .val (.ref b8), .val (.int (1 : Int32)), .val .null, .val (.int (1 : Int32)), .unset]) rfl k_) ?_
                show OFin _ _ _ _ _ _ T11 (mkF m 283 #[.val (.int p0), .val (.int p1), .val (.int p2), .val (.int p3), .val (.int (Int32.ofNat l1)), .val (.int ca1), .val (.int cb1), .val (.int z7), .val (.int (Int32.ofNat l2)), .val (.int ca2), .val (.int cb2), .val (.int i1), .val (.int z12), .val (.int i2), .val (.ref b1), .val (.ref s2), .val (.ref b8), .val (.int (1 : Int32)), .val .null, .val (.int (1 : Int32)), .unset] [])
                exact j283 1 (Or.inl ⟨rfl, e12, fun _ => c3, fun _ => by omega⟩)
              · refine X11.step (fun hA hx hq t_ k_ => XS.icmpNo hA hx rfl (hb hq at_266) rfl (flt (c4)).1 k_) ?_
                show OFin _ _ _ _ _ _ T11 (mkF m 269 #[.val (.int p0), .val (.int p1), .val (.int p2), .val (.int p3), .val (.int (Int32.ofNat l1)), .val (.int ca1), .val (.int cb1), .val (.int z7), .val (.int (Int32.ofNat l2)), .val (.int ca2), .val (.int cb2), .val (.int i1), .val (.int z12), .val (.int i2), .val (.ref b1), .val (.ref s2), .val (.ref b8), .val (.int (1 : Int32)), .val .null, .unset, .unset] [])
                have e1 : ¬ l1 < 2 := fun q => c4 ((own_lt32 l1 2 (by omega) (by decide)).mpr q)
                refine X11.step (fun hA hx hq t_ k_ => XS.iload hA hx rfl (hb hq at_269) rfl k_) ?_
                show OFin _ _ _ _ _ _ T11 (mkF m 271 #[.val (.int p0), .val (.int p1), .val (.int p2), .val (.int p3), .val (.int (Int32.ofNat l1)), .val (.int ca1), .val (.int cb1), .val (.int z7), .val (.int (Int32.ofNat l2)), .val (.int ca2), .val (.int cb2), .val (.int i1), .val (.int z12), .val (.int i2), .val (.ref b1), .val (.ref s2), .val (.ref b8), .val (.int (1 : Int32)), .val .null, .unset, .unset] [(.int cb1)])
                refine X11.step (fun hA hx hq t_ k_ => XS.iload hA hx rfl (hb hq at_271) rfl k_) ?_
                show OFin _ _ _ _ _ _ T11 (mkF m 273 #[.val (.int p0), .val (.int p1), .val (.int p2), .val (.int p3), .val (.int (Int32.ofNat l1)), .val (.int ca1), .val (.int cb1), .val (.int z7), .val (.int (Int32.ofNat l2)), .val (.int ca2), .val (.int cb2), .val (.int i1), .val (.int z12), .val (.int i2), .val (.ref b1), .val (.ref s2), .val (.ref b8), .val (.int (1 : Int32)), .val .null, .unset, .unset] [(.int cb2), (.int cb1)])
                by_cases c5 : cb1 = cb2
                · refine X11.step (fun hA hx hq t_ k_ => XS.icmpNo hA hx rfl (hb hq at_273) rfl (teq (c5)).2 k_) ?_
                  show OFin _ _ _ _ _ _ T11 (mkF m 276 #[.val (.int p0), .val (.int p1), .val (.int p2), .val (.int p3), .val (.int (Int32.ofNat l1)), .val (.int ca1), .val (.int cb1), .val (.int z7), .val (.int (Int32.ofNat l2)), .val (.int ca2), .val (.int cb2), .val (.int i1), .val (.int z12), .val (.int i2), .val (.ref b1), .val (.ref s2), .val (.ref b8), .val (.int (1 : Int32)), .val .null, .unset, .unset] [])
                  refine X11.step (fun hA hx hq t_ k_ => XS.iconst hA hx rfl (hb hq at_276) k_) ?_
                  show OFin _ _ _ _ _ _ T11 (mkF m 277 #[.val (.int p0), .val (.int p1), .val (.int p2), .val (.int p3), .val (.int (Int32.ofNat l1)), .val (.int ca1), .val (.int cb1), .val (.int z7), .val (.int (Int32.ofNat l2)), .val (.int ca2), .val (.int cb2), .val (.int i1), .val (.int z12), .val (.int i2), .val (.ref b1), .val (.ref s2), .val (.ref b8), .val (.int (1 : Int32)), .val .null, .unset, .unset] [(.int (1 : Int32))])
                  refine X11.step (fun hA hx hq t_ k_ => XS.goto hA hx rfl (pc0 := 277) (pc' := 281) rfl (hb hq at_277) (by decide) (by decide) k_) ?_
                  show OFin _ _ _ _ _ _ T11 (mkF m 281 #[.val (.int p0), .val (.int p1), .val (.int p2), .val (.int p3), .val (.int (Int32.ofNat l1)), .val (.int ca1), .val (.int cb1), .val (.int z7), .val (.int (Int32.ofNat l2)), .val (.int ca2), .val (.int cb2), .val (.int i1), .val (.int z12), .val (.int i2), .val (.ref b1), .val (.ref s2), .val (.ref b8), .val (.int (1 : Int32)), .val .null, .unset, .unset] [(.int (1 : Int32))])
                  refine X11.step (fun hA hx hq t_ k_ => XS.istore hA hx rfl (hb hq at_281) rfl (l' := #[.val (.int p0), .val (.int p1), .val (.int p2), .val (.int p3), .val (.int (Int32.ofNat l1)), .val (.int ca1), .val (.int cb1), .val (.int z7), .val (.int (Int32.ofNat l2)), .val (.int ca2), .val (.int cb2), .val (.int i1), .val (.int z12), .val (.int i2), .val (.ref b1), .val (.ref s2), .val (.ref b8), .val (.int (1 : Int32)), .val .null, .val (.int (1 : Int32)), .unset]) rfl k_) ?_
                  show OFin _ _ _ _ _ _ T11 (mkF m 283 #[.val (.int p0), .val (.int p1), .val (.int p2), .val (.int p3), .val (.int (Int32.ofNat l1)), .val (.int ca1), .val (.int cb1), .val (.int z7), .val (.int (Int32.ofNat l2)), .val (.int ca2), .val (.int cb2), .val (.int i1), .val (.int z12), .val (.int i2), .val (.ref b1), .val (.ref s2), .val (.ref b8), .val (.int (1 : Int32)), .val .null, .val (.int (1 : Int32)), .unset] [])
                  exact j283 1 (Or.inl ⟨rfl, e12, fun _ => c3, fun _ => c5⟩)
                · refine X11.step (fun hA hx hq t_ k_ => XS.icmpYes hA hx rfl (pc0 := 273) (pc' := 280) rfl (hb hq at_273) rfl (feq (c5)).2 (by decide) (by decide) k_) ?_
                  show OFin _ _ _ _ _ _ T11 (mkF m 280 #[.val (.int p0), .val (.int p1), .val (.int p2), .val (.int p3), .val (.int (Int32.ofNat l1)), .val (.int ca1), .val (.int cb1), .val (.int z7), .val (.int (Int32.ofNat l2)), .val (.int ca2), .val (.int cb2), .val (.int i1), .val (.int z12), .val (.int i2), .val (.ref b1), .val (.ref s2), .val (.ref b8), .val (.int (1 : Int32)), .val .null, .unset, .unset] [])
                  refine X11.step (fun hA hx hq t_ k_ => XS.iconst hA hx rfl (hb hq at_280) k_) ?_
                  show OFin _ _ _ _ _ _ T11 (mkF m 281 #[.val (.int p0), .val (.int p1), .val (.int p2), .val (.int p3), .val (.int (Int32.ofNat l1)), .val (.int ca1), .val (.int cb1), .val (.int z7), .val (.int (Int32.ofNat l2)), .val (.int ca2), .val (.int cb2), .val (.int i1), .val (.int z12), .val (.int i2), .val (.ref b1), .val (.ref s2), .val (.ref b8), .val (.int (1 : Int32)), .val .null, .unset, .unset] [(.int (0 : Int32))])
                  refine X11.step (fun hA hx hq t_ k_ => XS.istore hA hx rfl (hb hq at_281) rfl (l' := #[.val (.int p0), .val (.int p1), .val (.int p2), .val (.int p3), .val (.int (Int32.ofNat l1)), .val (.int ca1), .val (.int cb1), .val (.int z7), .val (.int (Int32.ofNat l2)), .val (.int ca2), .val (.int cb2), .val (.int i1), .val (.int z12), .val (.int i2), .val (.ref b1), .val (.ref s2), .val (.ref b8), .val (.int (1 : Int32)), .val .null, .val (.int (0 : Int32)), .unset]) rfl k_) ?_
                  show OFin _ _ _ _ _ _ T11 (mkF m 283 #[.val (.int p0), .val (.int p1), .val (.int p2), .val (.int p3), .val (.int (Int32.ofNat l1)), .val (.int ca1), .val (.int cb1), .val (.int z7), .val (.int (Int32.ofNat l2)), .val (.int ca2), .val (.int cb2), .val (.int i1), .val (.int z12), .val (.int i2), .val (.ref b1), .val (.ref s2), .val (.ref b8), .val (.int (1 : Int32)), .val .null, .val (.int (0 : Int32)), .unset] [])
                  exact j283 0 (Or.inr ⟨rfl, fun q => c5 (q.2.2 (by omega))⟩)
            · refine X11.step (fun hA hx hq t_ k_ => XS.icmpYes hA hx rfl (pc0 := 260) (pc' := 280) rfl (hb hq at_260) rfl (feq (c3)).2 (by decide) (by decide) k_) ?_
              show OFin _ _ _ _ _ _ T11 (mkF m 280 #[.val (.int p0), .val (.int p1), .val (.int p2), .val (.int p3), .val (.int (Int32.ofNat l1)), .val (.int ca1), .val (.int cb1), .val (.int z7), .val (.int (Int32.ofNat l2)), .val (.int ca2), .val (.int cb2), .val (.int i1), .val (.int z12), .val (.int i2), .val (.ref b1), .val (.ref s2), .val (.ref b8), .val (.int (1 : Int32)), .val .null, .unset, .unset] [])
              refine X11.step (fun hA hx hq t_ k_ => XS.iconst hA hx rfl (hb hq at_280) k_) ?_
              show OFin _ _ _ _ _ _ T11 (mkF m 281 #[.val (.int p0), .val (.int p1), .val (.int p2), .val (.int p3), .val (.int (Int32.ofNat l1)), .val (.int ca1), .val (.int cb1), .val (.int z7), .val (.int (Int32.ofNat l2)), .val (.int ca2), .val (.int cb2), .val (.int i1), .val (.int z12), .val (.int i2), .val (.ref b1), .val (.ref s2), .val (.ref b8), .val (.int (1 : Int32)), .val .null, .unset, .unset] [(.int (0 : Int32))])
              refine X11.step (fun hA hx hq t_ k_ => XS.istore hA hx rfl (hb hq at_281) rfl (l' := #[.val (.int p0), .val (.int p1), .val (.int p2), .val (.int p3), .val (.int (Int32.ofNat l1)), .val (.int ca1), .val (.int cb1), .val (.int z7), .val (.int (Int32.ofNat l2)), .val (.int ca2), .val (.int cb2), .val (.int i1), .val (.int z12), .val (.int i2), .val (.ref b1), .val (.ref s2), .val (.ref b8), .val (.int (1 : Int32)), .val .null, .val (.int (0 : Int32)), .unset]) rfl k_) ?_
              show OFin _ _ _ _ _ _ T11 (mkF m 283 #[.val (.int p0), .val (.int p1), .val (.int p2), .val (.int p3), .val (.int (Int32.ofNat l1)), .val (.int ca1), .val (.int cb1), .val (.int z7), .val (.int (Int32.ofNat l2)), .val (.int ca2), .val (.int cb2), .val (.int i1), .val (.int z12), .val (.int i2), .val (.ref b1), .val (.ref s2), .val (.ref b8), .val (.int (1 : Int32)), .val .null, .val (.int (0 : Int32)), .unset] [])
              exact j283 0 (Or.inr ⟨rfl, fun q => c3 (q.2.1 (by omega))⟩)
        · refine X11.step (fun hA hx hq t_ k_ => XS.icmpYes hA hx rfl (pc0 := 247) (pc' := 280) rfl (hb hq at_247) rfl (feq (c1)).2 (by decide) (by decide) k_) ?_
          show OFin _ _ _ _ _ _ T11 (mkF m 280 #[.val (.int p0), .val (.int p1), .val (.int p2), .val (.int p3), .val (.int (Int32.ofNat l1)), .val (.int ca1), .val (.int cb1), .val (.int z7), .val (.int (Int32.ofNat l2)), .val (.int ca2), .val (.int cb2), .val (.int i1), .val (.int z12), .val (.int i2), .val (.ref b1), .val (.ref s2), .val (.ref b8), .val (.int (1 : Int32)), .val .null, .unset, .unset] [])
          refine X11.step (fun hA hx hq t_ k_ => XS.iconst hA hx rfl (hb hq at_280) k_) ?_
          show OFin _ _ _ _ _ _ T11 (mkF m 281 #[.val (.int p0), .val (.int p1), .val (.int p2), .val (.int p3), .val (.int (Int32.ofNat l1)), .val (.int ca1), .val (.int cb1), .val (.int z7), .val (.int (Int32.ofNat l2)), .val (.int ca2), .val (.int cb2), .val (.int i1), .val (.int z12), .val (.int i2), .val (.ref b1), .val (.ref s2), .val (.ref b8), .val (.int (1 : Int32)), .val .null, .unset, .unset] [(.int (0 : Int32))])
          refine X11.step (fun hA hx hq t_ k_ => XS.istore hA hx rfl (hb hq at_281) rfl (l' := #[.val (.int p0), .val (.int p1), .val (.int p2), .val (.int p3), .val (.int (Int32.ofNat l1)), .val (.int ca1), .val (.int cb1), .val (.int z7), .val (.int (Int32.ofNat l2)), .val (.int ca2), .val (.int cb2), .val (.int i1), .val (.int z12), .val (.int i2), .val (.ref b1), .val (.ref s2), .val (.ref b8), .val (.int (1 : Int32)), .val .null, .val (.int (0 : Int32)), .unset]) rfl k_) ?_
          show OFin _ _ _ _ _ _ T11 (mkF m 283 #[.val (.int p0), .val (.int p1), .val (.int p2), .val (.int p3), .val (.int (Int32.ofNat l1)), .val (.int ca1), .val (.int cb1), .val (.int z7), .val (.int (Int32.ofNat l2)), .val (.int ca2), .val (.int cb2), .val (.int i1), .val (.int z12), .val (.int i2), .val (.ref b1), .val (.ref s2), .val (.ref b8), .val (.int (1 : Int32)), .val .null, .val (.int (0 : Int32)), .unset] [])
          exact j283 0 (Or.inr ⟨rfl, fun q => c1 (congrArg Int32.ofNat q.1)⟩)
      · show OFin _ _ _ _ _ _ T11 (mkF m 202 #[.val (.int p0), .val (.int p1), .val (.int p2), .val (.int p3), .val (.int (Int32.ofNat l1)), .val (.int ca1), .val (.int cb1), .val (.int z7), .val (.int (Int32.ofNat l2)), .val (.int ca2), .val (.int cb2), .val (.int i1), .val (.int z12), .val (.int i2), .val (.ref b1), .val (.ref s2), .val (.ref b8), .val (.int (2 : Int32)), .unset, .unset, .unset] [])
        refine X11.step (fun hA hx hq t_ k_ => XS.iload hA hx rfl (hb hq at_202) rfl k_) ?_
        show OFin _ _ _ _ _ _ T11 (mkF m 204 #[.val (.int p0), .val (.int p1), .val (.int p2), .val (.int p3), .val (.int (Int32.ofNat l1)), .val (.int ca1), .val (.int cb1), .val (.int z7), .val (.int (Int32.ofNat l2)), .val (.int ca2), .val (.int cb2), .val (.int i1), .val (.int z12), .val (.int i2), .val (.ref b1), .val (.ref s2), .val (.ref b8), .val (.int (2 : Int32)), .unset, .unset, .unset] [(.int (2 : Int32))])
        refine X11.step (fun hA hx hq t_ k_ => XS.ifYes hA hx rfl (pc0 := 204) (pc' := 214) rfl (hb hq at_204) rfl ((if0 _ _).trans (feq ((by decide))).2) (by decide) (by decide) k_) ?_
        show OFin _ _ _ _ _ _ T11 (mkF m 214 #[.val (.int p0), .val (.int p1), .val (.int p2), .val (.int p3), .val (.int (Int32.ofNat l1)), .val (.int ca1), .val (.int cb1), .val (.int z7), .val (.int (Int32.ofNat l2)), .val (.int ca2), .val (.int cb2), .val (.int i1), .val (.int z12), .val (.int i2), .val (.ref b1), .val (.ref s2), .val (.ref b8), .val (.int (2 : Int32)), .unset, .unset, .unset] [])
        refine X11.step (fun hA hx hq t_ k_ => XS.iload hA hx rfl (hb hq at_214) rfl k_) ?_
        show OFin _ _ _ _ _ _ T11 (mkF m 216 #[.val (.int p0), .val (.int p1), .val (.int p2), .val (.int p3), .val (.int (Int32.ofNat l1)), .val (.int ca1), .val (.int cb1), .val (.int z7), .val (.int (Int32.ofNat l2)), .val (.int ca2), .val (.int cb2), .val (.int i1), .val (.int z12), .val (.int i2), .val (.ref b1), .val (.ref s2), .val (.ref b8), .val (.int (2 : Int32)), .unset, .unset, .unset] [(.int (2 : Int32))])
        refine X11.step (fun hA hx hq t_ k_ => XS.iconst hA hx rfl (hb hq at_216) k_) ?_
        show OFin _ _ _ _ _ _ T11 (mkF m 217 #[.val (.int p0), .val (.int p1), .val (.int p2), .val (.int p3), .val (.int (Int32.ofNat l1)), .val (.int ca1), .val (.int cb1), .val (.int z7), .val (.int (Int32.ofNat l2)), .val (.int ca2), .val (.int cb2), .val (.int i1), .val (.int z12), .val (.int i2), .val (.ref b1), .val (.ref s2), .val (.ref b8), .val (.int (2 : Int32)), .unset, .unset, .unset] [(.int (1 : Int32)), (.int (2 : Int32))])
        refine X11.step (fun hA hx hq t_ k_ => XS.icmpYes hA hx rfl (pc0 := 217) (pc' := 226) rfl (hb hq at_217) rfl (feq ((by decide))).2 (by decide) (by decide) k_) ?_
        show OFin _ _ _ _ _ _ T11 (mkF m 226 #[.val (.int p0), .val (.int p1), .val (.int p2), .val (.int p3), .val (.int (Int32.ofNat l1)), .val (.int ca1), .val (.int cb1), .val (.int z7), .val (.int (Int32.ofNat l2)), .val (.int ca2), .val (.int cb2), .val (.int i1), .val (.int z12), .val (.int i2), .val (.ref b1), .val (.ref s2), .val (.ref b8), .val (.int (2 : Int32)), .unset, .unset, .unset] [])
        refine X11.step (fun hA hx hq t_ k_ => XS.iload hA hx rfl (hb hq at_226) rfl k_) ?_
        show OFin _ _ _ _ _ _ T11 (mkF m 228 #[.val (.int p0), .val (.int p1), .val (.int p2), .val (.int p3), .val (.int (Int32.ofNat l1)), .val (.int ca1), .val (.int cb1), .val (.int z7), .val (.int (Int32.ofNat l2)), .val (.int ca2), .val (.int cb2), .val (.int i1), .val (.int z12), .val (.int i2), .val (.ref b1), .val (.ref s2), .val (.ref b8), .val (.int (2 : Int32)), .unset, .unset, .unset] [(.int (2 : Int32))])
        refine X11.step (fun hA hx hq t_ k_ => XS.iconst hA hx rfl (hb hq at_228) k_) ?_
        show OFin _ _ _ _ _ _ T11 (mkF m 229 #[.val (.int p0), .val (.int p1), .val (.int p2), .val (.int p3), .val (.int (Int32.ofNat l1)), .val (.int ca1), .val (.int cb1), .val (.int z7), .val (.int (Int32.ofNat l2)), .val (.int ca2), .val (.int cb2), .val (.int i1), .val (.int z12), .val (.int i2), .val (.ref b1), .val (.ref s2), .val (.ref b8), .val (.int (2 : Int32)), .unset, .unset, .unset] [(.int (2 : Int32)), (.int (2 : Int32))])
        refine X11.step (fun hA hx hq t_ k_ => XS.icmpNo hA hx rfl (hb hq at_229) rfl (teq ((rfl : (2 : Int32) = (2 : Int32)))).2 k_) ?_
        show OFin _ _ _ _ _ _ T11 (mkF m 232 #[.val (.int p0), .val (.int p1), .val (.int p2), .val (.int p3), .val (.int (Int32.ofNat l1)), .val (.int ca1), .val (.int cb1), .val (.int z7), .val (.int (Int32.ofNat l2)), .val (.int ca2), .val (.int cb2), .val (.int i1), .val (.int z12), .val (.int i2), .val (.ref b1), .val (.ref s2), .val (.ref b8), .val (.int (2 : Int32)), .unset, .unset, .unset] [])
        refine X11.step (fun hA hx hq t_ k_ => XS.aload hA hx rfl (hb hq at_232) rfl rfl k_) ?_
        show OFin _ _ _ _ _ _ T11 (mkF m 234 #[.val (.int p0), .val (.int p1), .val (.int p2), .val (.int p3), .val (.int (Int32.ofNat l1)), .val (.int ca1), .val (.int cb1), .val (.int z7), .val (.int (Int32.ofNat l2)), .val (.int ca2), .val (.int cb2), .val (.int i1), .val (.int z12), .val (.int i2), .val (.ref b1), .val (.ref s2), .val (.ref b8), .val (.int (2 : Int32)), .unset, .unset, .unset] [(.ref s2)])
        refine X11.step (fun hA hx hq t_ k_ => XS.astore hA hx rfl (hb hq at_234) rfl rfl (l' := #[.val (.int p0), .val (.int p1), .val (.int p2), .val (.int p3), .val (.int (Int32.ofNat l1)), .val (.int ca1), .val (.int cb1), .val (.int z7), .val (.int (Int32.ofNat l2)), .val (.int ca2), .val (.int cb2), .val (.int i1), .val (.int z12), .val (.int i2), .val (.ref b1), .val (.ref s2), .val (.ref b8), .val (.int (2 : Int32)), .val (.ref s2), .unset, .unset]) rfl k_) ?_
        show OFin _ _ _ _ _ _ T11 (mkF m 236 #[.val (.int p0), .val (.int p1), .val (.int p2), .val (.int p3), .val (.int (Int32.ofNat l1)), .val (.int ca1), .val (.int cb1), .val (.int z7), .val (.int (Int32.ofNat l2)), .val (.int ca2), .val (.int cb2), .val (.int i1), .val (.int z12), .val (.int i2), .val (.ref b1), .val (.ref s2), .val (.ref b8), .val (.int (2 : Int32)), .val (.ref s2), .unset, .unset] [])
        refine X11.step (fun hA hx hq t_ k_ => XS.goto hA hx rfl (pc0 := 236) (pc' := 243) rfl (hb hq at_236) (by decide) (by decide) k_) ?_
        show OFin _ _ _ _ _ _ T11 (mkF m 243 #[.val (.int p0), .val (.int p1), .val (.int p2), .val (.int p3), .val (.int (Int32.ofNat l1)), .val (.int ca1), .val (.int cb1), .val (.int z7), .val (.int (Int32.ofNat l2)), .val (.int ca2), .val (.int cb2), .val (.int i1), .val (.int z12), .val (.int i2), .val (.ref b1), .val (.ref s2), .val (.ref b8), .val (.int (2 : Int32)), .val (.ref s2), .unset, .unset] [])
        refine X11.step (fun hA hx hq t_ k_ => XS.iload hA hx rfl (hb hq at_243) rfl k_) ?_
        show OFin _ _ _ _ _ _ T11 (mkF m 245 #[.val (.int p0), .val (.int p1), .val (.int p2), .val (.int p3), .val (.int (Int32.ofNat l1)), .val (.int ca1), .val (.int cb1), .val (.int z7), .val (.int (Int32.ofNat l2)), .val (.int ca2), .val (.int cb2), .val (.int i1), .val (.int z12), .val (.int i2), .val (.ref b1), .val (.ref s2), .val (.ref b8), .val (.int (2 : Int32)), .val (.ref s2), .unset, .unset] [(.int (Int32.ofNat l1))])
        refine X11.step (fun hA hx hq t_ k_ => XS.iload hA hx rfl (hb hq at_245) rfl k_) ?_
        show OFin _ _ _ _ _ _ T11 (mkF m 247 #[.val (.int p0), .val (.int p1), .val (.int p2), .val (.int p3), .val (.int (Int32.ofNat l1)), .val (.int ca1), .val (.int cb1), .val (.int z7), .val (.int (Int32.ofNat l2)), .val (.int ca2), .val (.int cb2), .val (.int i1), .val (.int z12), .val (.int i2), .val (.ref b1), .val (.ref s2), .val (.ref b8), .val (.int (2 : Int32)), .val (.ref s2), .unset, .unset] [(.int (Int32.ofNat l2)), (.int (Int32.ofNat l1))])
        have j283 : ∀ z19 : Int32, own_tv z19 (own_st l1 l2 ca1 ca2 cb1 cb2) → OFin n0 p e (fun o t L => CHr Z own_EL s.vm s.heap t.vm t.heap ∧ ReturnedEndW s o t L room_1.cells room_1.slots) below (fun v h => v = some (.int 1)) T11 (mkF m 283 #[.val (.int p0), .val (.int p1), .val (.int p2), .val (.int p3), .val (.int (Int32.ofNat l1)), .val (.int ca1), .val (.int cb1), .val (.int z7), .val (.int (Int32.ofNat l2)), .val (.int ca2), .val (.int cb2), .val (.int i1), .val (.int z12), .val (.int i2), .val (.ref b1), .val (.ref s2), .val (.ref b8), .val (.int (2 : Int32)), .val (.ref s2), .val (.int z19), .unset] []) := by
          intro z19 hz
          refine X11.step (fun hA hx hq t_ k_ => XS.iload hA hx rfl (hb hq at_283) rfl k_) ?_
          show OFin _ _ _ _ _ _ T11 (mkF m 285 #[.val (.int p0), .val (.int p1), .val (.int p2), .val (.int p3), .val (.int (Int32.ofNat l1)), .val (.int ca1), .val (.int cb1), .val (.int z7), .val (.int (Int32.ofNat l2)), .val (.int ca2), .val (.int cb2), .val (.int i1), .val (.int z12), .val (.int i2), .val (.ref b1), .val (.ref s2), .val (.ref b8), .val (.int (2 : Int32)), .val (.ref s2), .val (.int z19), .unset] [(.int (2 : Int32))])
          refine X11.step (fun hA hx hq t_ k_ => XS.ifYes hA hx rfl (pc0 := 285) (pc' := 310) rfl (hb hq at_285) rfl ((if0 _ _).trans (feq ((by decide))).2) (by decide) (by decide) k_) ?_
          show OFin _ _ _ _ _ _ T11 (mkF m 310 #[.val (.int p0), .val (.int p1), .val (.int p2), .val (.int p3), .val (.int (Int32.ofNat l1)), .val (.int ca1), .val (.int cb1), .val (.int z7), .val (.int (Int32.ofNat l2)), .val (.int ca2), .val (.int cb2), .val (.int i1), .val (.int z12), .val (.int i2), .val (.ref b1), .val (.ref s2), .val (.ref b8), .val (.int (2 : Int32)), .val (.ref s2), .val (.int z19), .unset] [])
          refine X11.step (fun hA hx hq t_ k_ => XS.iload hA hx rfl (hb hq at_310) rfl k_) ?_
          show OFin _ _ _ _ _ _ T11 (mkF m 312 #[.val (.int p0), .val (.int p1), .val (.int p2), .val (.int p3), .val (.int (Int32.ofNat l1)), .val (.int ca1), .val (.int cb1), .val (.int z7), .val (.int (Int32.ofNat l2)), .val (.int ca2), .val (.int cb2), .val (.int i1), .val (.int z12), .val (.int i2), .val (.ref b1), .val (.ref s2), .val (.ref b8), .val (.int (2 : Int32)), .val (.ref s2), .val (.int z19), .unset] [(.int (2 : Int32))])
          refine X11.step (fun hA hx hq t_ k_ => XS.iconst hA hx rfl (hb hq at_312) k_) ?_
          show OFin _ _ _ _ _ _ T11 (mkF m 313 #[.val (.int p0), .val (.int p1), .val (.int p2), .val (.int p3), .val (.int (Int32.ofNat l1)), .val (.int ca1), .val (.int cb1), .val (.int z7), .val (.int (Int32.ofNat l2)), .val (.int ca2), .val (.int cb2), .val (.int i1), .val (.int z12), .val (.int i2), .val (.ref b1), .val (.ref s2), .val (.ref b8), .val (.int (2 : Int32)), .val (.ref s2), .val (.int z19), .unset] [(.int (3 : Int32)), (.int (2 : Int32))])
          refine X11.step (fun hA hx hq t_ k_ => XS.icmpYes hA hx rfl (pc0 := 313) (pc' := 322) rfl (hb hq at_313) rfl (feq ((by decide))).2 (by decide) (by decide) k_) ?_
          show OFin _ _ _ _ _ _ T11 (mkF m 322 #[.val (.int p0), .val (.int p1), .val (.int p2), .val (.int p3), .val (.int (Int32.ofNat l1)), .val (.int ca1), .val (.int cb1), .val (.int z7), .val (.int (Int32.ofNat l2)), .val (.int ca2), .val (.int cb2), .val (.int i1), .val (.int z12), .val (.int i2), .val (.ref b1), .val (.ref s2), .val (.ref b8), .val (.int (2 : Int32)), .val (.ref s2), .val (.int z19), .unset] [])
          refine X11.step (fun hA hx hq t_ k_ => XS.iconst hA hx rfl (hb hq at_322) k_) ?_
          show OFin _ _ _ _ _ _ T11 (mkF m 323 #[.val (.int p0), .val (.int p1), .val (.int p2), .val (.int p3), .val (.int (Int32.ofNat l1)), .val (.int ca1), .val (.int cb1), .val (.int z7), .val (.int (Int32.ofNat l2)), .val (.int ca2), .val (.int cb2), .val (.int i1), .val (.int z12), .val (.int i2), .val (.ref b1), .val (.ref s2), .val (.ref b8), .val (.int (2 : Int32)), .val (.ref s2), .val (.int z19), .unset] [(.int (0 : Int32))])
          refine X11.step (fun hA hx hq t_ k_ => XS.istore hA hx rfl (hb hq at_323) rfl (l' := #[.val (.int p0), .val (.int p1), .val (.int p2), .val (.int p3), .val (.int (Int32.ofNat l1)), .val (.int ca1), .val (.int cb1), .val (.int z7), .val (.int (Int32.ofNat l2)), .val (.int ca2), .val (.int cb2), .val (.int i1), .val (.int z12), .val (.int i2), .val (.ref b1), .val (.ref s2), .val (.ref b8), .val (.int (2 : Int32)), .val (.ref s2), .val (.int z19), .val (.int (0 : Int32))]) rfl k_) ?_
          show OFin _ _ _ _ _ _ T11 (mkF m 325 #[.val (.int p0), .val (.int p1), .val (.int p2), .val (.int p3), .val (.int (Int32.ofNat l1)), .val (.int ca1), .val (.int cb1), .val (.int z7), .val (.int (Int32.ofNat l2)), .val (.int ca2), .val (.int cb2), .val (.int i1), .val (.int z12), .val (.int i2), .val (.ref b1), .val (.ref s2), .val (.ref b8), .val (.int (2 : Int32)), .val (.ref s2), .val (.int z19), .val (.int (0 : Int32))] [])
          refine X11.step (fun hA hx hq t_ k_ => XS.aload hA hx rfl (hb hq at_325) rfl rfl k_) ?_
          show OFin _ _ _ _ _ _ T11 (mkF m 327 #[.val (.int p0), .val (.int p1), .val (.int p2), .val (.int p3), .val (.int (Int32.ofNat l1)), .val (.int ca1), .val (.int cb1), .val (.int z7), .val (.int (Int32.ofNat l2)), .val (.int ca2), .val (.int cb2), .val (.int i1), .val (.int z12), .val (.int i2), .val (.ref b1), .val (.ref s2), .val (.ref b8), .val (.int (2 : Int32)), .val (.ref s2), .val (.int z19), .val (.int (0 : Int32))] [(.ref b1)])
          refine X11.step (fun hA hx hq t_ k_ => XS.aload hA hx rfl (hb hq at_327) rfl rfl k_) ?_
          show OFin _ _ _ _ _ _ T11 (mkF m 329 #[.val (.int p0), .val (.int p1), .val (.int p2), .val (.int p3), .val (.int (Int32.ofNat l1)), .val (.int ca1), .val (.int cb1), .val (.int z7), .val (.int (Int32.ofNat l2)), .val (.int ca2), .val (.int cb2), .val (.int i1), .val (.int z12), .val (.int i2), .val (.ref b1), .val (.ref s2), .val (.ref b8), .val (.int (2 : Int32)), .val (.ref s2), .val (.int z19), .val (.int (0 : Int32))] [(.ref s2), (.ref b1)])
          refine X11.callV (y' := (⟨"com/example/replay_proof/replayproof/model/Name", "equals", "(Ljava/lang/Object;)Z"⟩ : MethodName)) (z' := (⟨"com/example/replay_proof/replayproof/model/Name", "equals", "(Ljava/lang/Object;)Z"⟩ : MethodName)) (hw _ (List.mem_of_getElem? (i := 58) rfl)) (hw _ (List.mem_of_getElem? (i := 59) rfl)) (X11.notFace (hw _ (List.mem_of_getElem? (i := 61) rfl)) rfl) (hw _ (List.mem_of_getElem? (i := 61) rfl)) (hw _ (List.mem_of_getElem? (i := 60) rfl)) (hw _ (List.mem_of_getElem? (i := 3) rfl)) (hw _ (List.mem_of_getElem? (i := 62) rfl)) (by decide) Ea (argsL := [(.ref s2)]) (rest := []) (rm8 l Z a0 hw b1 s2 h11 n0 U2.1) (g := (mkF m 329 #[.val (.int p0), .val (.int p1), .val (.int p2), .val (.int p3), .val (.int (Int32.ofNat l1)), .val (.int ca1), .val (.int cb1), .val (.int z7), .val (.int (Int32.ofNat l2)), .val (.int ca2), .val (.int cb2), .val (.int i1), .val (.int z12), .val (.int i2), .val (.ref b1), .val (.ref s2), .val (.ref b8), .val (.int (2 : Int32)), .val (.ref s2), .val (.int z19), .val (.int (0 : Int32))] [(.ref s2), (.ref b1)])) rfl rfl pd_pLjava_lang_Object_r_Z rfl rfl (W := 0) (by show 2 * 0 + _ ≤ _; exact Nat.le_of_eq rfl) at_329 (by decide) (by decide) (by decide) (by decide) ?_
          intro v15 T15 h15 X15 q15
          obtain ⟨rfl, rfl⟩ := q15
          show OFin _ _ _ _ _ _ T15 (mkF m 332 #[.val (.int p0), .val (.int p1), .val (.int p2), .val (.int p3), .val (.int (Int32.ofNat l1)), .val (.int ca1), .val (.int cb1), .val (.int z7), .val (.int (Int32.ofNat l2)), .val (.int ca2), .val (.int cb2), .val (.int i1), .val (.int z12), .val (.int i2), .val (.ref b1), .val (.ref s2), .val (.ref b8), .val (.int (2 : Int32)), .val (.ref s2), .val (.int z19), .val (.int (0 : Int32))] [(.int (0 : Int32))])
          refine X15.step (fun hA hx hq t_ k_ => XS.iload hA hx rfl (hb hq at_332) rfl k_) ?_
          show OFin _ _ _ _ _ _ T15 (mkF m 334 #[.val (.int p0), .val (.int p1), .val (.int p2), .val (.int p3), .val (.int (Int32.ofNat l1)), .val (.int ca1), .val (.int cb1), .val (.int z7), .val (.int (Int32.ofNat l2)), .val (.int ca2), .val (.int cb2), .val (.int i1), .val (.int z12), .val (.int i2), .val (.ref b1), .val (.ref s2), .val (.ref b8), .val (.int (2 : Int32)), .val (.ref s2), .val (.int z19), .val (.int (0 : Int32))] [(.int (0 : Int32)), (.int (0 : Int32))])
          refine X15.step (fun hA hx hq t_ k_ => XS.icmpNo hA hx rfl (hb hq at_334) rfl (teq ((rfl : (0 : Int32) = (0 : Int32)))).2 k_) ?_
          show OFin _ _ _ _ _ _ T15 (mkF m 337 #[.val (.int p0), .val (.int p1), .val (.int p2), .val (.int p3), .val (.int (Int32.ofNat l1)), .val (.int ca1), .val (.int cb1), .val (.int z7), .val (.int (Int32.ofNat l2)), .val (.int ca2), .val (.int cb2), .val (.int i1), .val (.int z12), .val (.int i2), .val (.ref b1), .val (.ref s2), .val (.ref b8), .val (.int (2 : Int32)), .val (.ref s2), .val (.int z19), .val (.int (0 : Int32))] [])
          refine X15.step (fun hA hx hq t_ k_ => XS.iconst hA hx rfl (hb hq at_337) k_) ?_
          show OFin _ _ _ _ _ _ T15 (mkF m 338 #[.val (.int p0), .val (.int p1), .val (.int p2), .val (.int p3), .val (.int (Int32.ofNat l1)), .val (.int ca1), .val (.int cb1), .val (.int z7), .val (.int (Int32.ofNat l2)), .val (.int ca2), .val (.int cb2), .val (.int i1), .val (.int z12), .val (.int i2), .val (.ref b1), .val (.ref s2), .val (.ref b8), .val (.int (2 : Int32)), .val (.ref s2), .val (.int z19), .val (.int (0 : Int32))] [(.int (1 : Int32))])
          refine X15.step (fun hA hx hq t_ k_ => XS.goto hA hx rfl (pc0 := 338) (pc' := 342) rfl (hb hq at_338) (by decide) (by decide) k_) ?_
          show OFin _ _ _ _ _ _ T15 (mkF m 342 #[.val (.int p0), .val (.int p1), .val (.int p2), .val (.int p3), .val (.int (Int32.ofNat l1)), .val (.int ca1), .val (.int cb1), .val (.int z7), .val (.int (Int32.ofNat l2)), .val (.int ca2), .val (.int cb2), .val (.int i1), .val (.int z12), .val (.int i2), .val (.ref b1), .val (.ref s2), .val (.ref b8), .val (.int (2 : Int32)), .val (.ref s2), .val (.int z19), .val (.int (0 : Int32))] [(.int (1 : Int32))])
          exact X15.retN (by simp) at_342 (oW X15 B12 (by decide) (by decide)) (rfl)
        by_cases c1 : (Int32.ofNat l1) = (Int32.ofNat l2)
        · refine X11.step (fun hA hx hq t_ k_ => XS.icmpNo hA hx rfl (hb hq at_247) rfl (teq (c1)).2 k_) ?_
          show OFin _ _ _ _ _ _ T11 (mkF m 250 #[.val (.int p0), .val (.int p1), .val (.int p2), .val (.int p3), .val (.int (Int32.ofNat l1)), .val (.int ca1), .val (.int cb1), .val (.int z7), .val (.int (Int32.ofNat l2)), .val (.int ca2), .val (.int cb2), .val (.int i1), .val (.int z12), .val (.int i2), .val (.ref b1), .val (.ref s2), .val (.ref b8), .val (.int (2 : Int32)), .val (.ref s2), .unset, .unset] [])
          have e12 := (own_eq32 l1 l2 (by omega) (by omega)).mp c1
          refine X11.step (fun hA hx hq t_ k_ => XS.iload hA hx rfl (hb hq at_250) rfl k_) ?_
          show OFin _ _ _ _ _ _ T11 (mkF m 252 #[.val (.int p0), .val (.int p1), .val (.int p2), .val (.int p3), .val (.int (Int32.ofNat l1)), .val (.int ca1), .val (.int cb1), .val (.int z7), .val (.int (Int32.ofNat l2)), .val (.int ca2), .val (.int cb2), .val (.int i1), .val (.int z12), .val (.int i2), .val (.ref b1), .val (.ref s2), .val (.ref b8), .val (.int (2 : Int32)), .val (.ref s2), .unset, .unset] [(.int (Int32.ofNat l1))])
          refine X11.step (fun hA hx hq t_ k_ => XS.iconst hA hx rfl (hb hq at_252) k_) ?_
          show OFin _ _ _ _ _ _ T11 (mkF m 253 #[.val (.int p0), .val (.int p1), .val (.int p2), .val (.int p3), .val (.int (Int32.ofNat l1)), .val (.int ca1), .val (.int cb1), .val (.int z7), .val (.int (Int32.ofNat l2)), .val (.int ca2), .val (.int cb2), .val (.int i1), .val (.int z12), .val (.int i2), .val (.ref b1), .val (.ref s2), .val (.ref b8), .val (.int (2 : Int32)), .val (.ref s2), .unset, .unset] [(.int (1 : Int32)), (.int (Int32.ofNat l1))])
          by_cases c2 : (Int32.ofNat l1) < (1 : Int32)
          · refine X11.step (fun hA hx hq t_ k_ => XS.icmpYes hA hx rfl (pc0 := 253) (pc' := 263) rfl (hb hq at_253) rfl (tlt (c2)).1 (by decide) (by decide) k_) ?_
            show OFin _ _ _ _ _ _ T11 (mkF m 263 #[.val (.int p0), .val (.int p1), .val (.int p2), .val (.int p3), .val (.int (Int32.ofNat l1)), .val (.int ca1), .val (.int cb1), .val (.int z7), .val (.int (Int32.ofNat l2)), .val (.int ca2), .val (.int cb2), .val (.int i1), .val (.int z12), .val (.int i2), .val (.ref b1), .val (.ref s2), .val (.ref b8), .val (.int (2 : Int32)), .val (.ref s2), .unset, .unset] [])
            have e0 := (own_lt32 l1 1 (by omega) (by decide)).mp c2
            refine X11.step (fun hA hx hq t_ k_ => XS.iload hA hx rfl (hb hq at_263) rfl k_) ?_
            show OFin _ _ _ _ _ _ T11 (mkF m 265 #[.val (.int p0), .val (.int p1), .val (.int p2), .val (.int p3), .val (.int (Int32.ofNat l1)), .val (.int ca1), .val (.int cb1), .val (.int z7), .val (.int (Int32.ofNat l2)), .val (.int ca2), .val (.int cb2), .val (.int i1), .val (.int z12), .val (.int i2), .val (.ref b1), .val (.ref s2), .val (.ref b8), .val (.int (2 : Int32)), .val (.ref s2), .unset, .unset] [(.int (Int32.ofNat l1))])
            refine X11.step (fun hA hx hq t_ k_ => XS.iconst hA hx rfl (hb hq at_265) k_) ?_
            show OFin _ _ _ _ _ _ T11 (mkF m 266 #[.val (.int p0), .val (.int p1), .val (.int p2), .val (.int p3), .val (.int (Int32.ofNat l1)), .val (.int ca1), .val (.int cb1), .val (.int z7), .val (.int (Int32.ofNat l2)), .val (.int ca2), .val (.int cb2), .val (.int i1), .val (.int z12), .val (.int i2), .val (.ref b1), .val (.ref s2), .val (.ref b8), .val (.int (2 : Int32)), .val (.ref s2), .unset, .unset] [(.int (2 : Int32)), (.int (Int32.ofNat l1))])
            refine X11.step (fun hA hx hq t_ k_ => XS.icmpYes hA hx rfl (pc0 := 266) (pc' := 276) rfl (hb hq at_266) rfl (tlt ((own_lt32 l1 2 (by omega) (by decide)).mpr (by omega))).1 (by decide) (by decide) k_) ?_
            show OFin _ _ _ _ _ _ T11 (mkF m 276 #[.val (.int p0), .val (.int p1), .val (.int p2), .val (.int p3), .val (.int (Int32.ofNat l1)), .val (.int ca1), .val (.int cb1), .val (.int z7), .val (.int (Int32.ofNat l2)), .val (.int ca2), .val (.int cb2), .val (.int i1), .val (.int z12), .val (.int i2), .val (.ref b1), .val (.ref s2), .val (.ref b8), .val (.int (2 : Int32)), .val (.ref s2), .unset, .unset] [])
            refine X11.step (fun hA hx hq t_ k_ => XS.iconst hA hx rfl (hb hq at_276) k_) ?_
            show OFin _ _ _ _ _ _ T11 (mkF m 277 #[.val (.int p0), .val (.int p1), .val (.int p2), .val (.int p3), .val (.int (Int32.ofNat l1)), .val (.int ca1), .val (.int cb1), .val (.int z7), .val (.int (Int32.ofNat l2)), .val (.int ca2), .val (.int cb2), .val (.int i1), .val (.int z12), .val (.int i2), .val (.ref b1), .val (.ref s2), .val (.ref b8), .val (.int (2 : Int32)), .val (.ref s2), .unset, .unset] [(.int (1 : Int32))])
            refine X11.step (fun hA hx hq t_ k_ => XS.goto hA hx rfl (pc0 := 277) (pc' := 281) rfl (hb hq at_277) (by decide) (by decide) k_) ?_
            show OFin _ _ _ _ _ _ T11 (mkF m 281 #[.val (.int p0), .val (.int p1), .val (.int p2), .val (.int p3), .val (.int (Int32.ofNat l1)), .val (.int ca1), .val (.int cb1), .val (.int z7), .val (.int (Int32.ofNat l2)), .val (.int ca2), .val (.int cb2), .val (.int i1), .val (.int z12), .val (.int i2), .val (.ref b1), .val (.ref s2), .val (.ref b8), .val (.int (2 : Int32)), .val (.ref s2), .unset, .unset] [(.int (1 : Int32))])
            refine X11.step (fun hA hx hq t_ k_ => XS.istore hA hx rfl (hb hq at_281) rfl (l' := #[.val (.int p0), .val (.int p1), .val (.int p2), .val (.int p3), .val (.int (Int32.ofNat l1)), .val (.int ca1), .val (.int cb1), .val (.int z7), .val (.int (Int32.ofNat l2)), .val (.int ca2), .val (.int cb2), .val (.int i1), .val (.int z12), .val (.int i2), .val (.ref b1), .val (.ref s2), .val (.ref b8), .val (.int (2 : Int32)), .val (.ref s2), .val (.int (1 : Int32)), .unset]) rfl k_) ?_
            show OFin _ _ _ _ _ _ T11 (mkF m 283 #[.val (.int p0), .val (.int p1), .val (.int p2), .val (.int p3), .val (.int (Int32.ofNat l1)), .val (.int ca1), .val (.int cb1), .val (.int z7), .val (.int (Int32.ofNat l2)), .val (.int ca2), .val (.int cb2), .val (.int i1), .val (.int z12), .val (.int i2), .val (.ref b1), .val (.ref s2), .val (.ref b8), .val (.int (2 : Int32)), .val (.ref s2), .val (.int (1 : Int32)), .unset] [])
            exact j283 1 (Or.inl ⟨rfl, e12, fun _ => by omega, fun _ => by omega⟩)
          · refine X11.step (fun hA hx hq t_ k_ => XS.icmpNo hA hx rfl (hb hq at_253) rfl (flt (c2)).1 k_) ?_
            show OFin _ _ _ _ _ _ T11 (mkF m 256 #[.val (.int p0), .val (.int p1), .val (.int p2), .val (.int p3), .val (.int (Int32.ofNat l1)), .val (.int ca1), .val (.int cb1), .val (.int z7), .val (.int (Int32.ofNat l2)), .val (.int ca2), .val (.int cb2), .val (.int i1), .val (.int z12), .val (.int i2), .val (.ref b1), .val (.ref s2), .val (.ref b8), .val (.int (2 : Int32)), .val (.ref s2), .unset, .unset] [])
            have e0 : ¬ l1 < 1 := fun q => c2 ((own_lt32 l1 1 (by omega) (by decide)).mpr q)
            refine X11.step (fun hA hx hq t_ k_ => XS.iload hA hx rfl (hb hq at_256) rfl k_) ?_
            show OFin _ _ _ _ _ _ T11 (mkF m 258 #[.val (.int p0), .val (.int p1), .val (.int p2), .val (.int p3), .val (.int (Int32.ofNat l1)), .val (.int ca1), .val (.int cb1), .val (.int z7), .val (.int (Int32.ofNat l2)), .val (.int ca2), .val (.int cb2), .val (.int i1), .val (.int z12), .val (.int i2), .val (.ref b1), .val (.ref s2), .val (.ref b8), .val (.int (2 : Int32)), .val (.ref s2), .unset, .unset] [(.int ca1)])
            refine X11.step (fun hA hx hq t_ k_ => XS.iload hA hx rfl (hb hq at_258) rfl k_) ?_
            show OFin _ _ _ _ _ _ T11 (mkF m 260 #[.val (.int p0), .val (.int p1), .val (.int p2), .val (.int p3), .val (.int (Int32.ofNat l1)), .val (.int ca1), .val (.int cb1), .val (.int z7), .val (.int (Int32.ofNat l2)), .val (.int ca2), .val (.int cb2), .val (.int i1), .val (.int z12), .val (.int i2), .val (.ref b1), .val (.ref s2), .val (.ref b8), .val (.int (2 : Int32)), .val (.ref s2), .unset, .unset] [(.int ca2), (.int ca1)])
            by_cases c3 : ca1 = ca2
            · refine X11.step (fun hA hx hq t_ k_ => XS.icmpNo hA hx rfl (hb hq at_260) rfl (teq (c3)).2 k_) ?_
              show OFin _ _ _ _ _ _ T11 (mkF m 263 #[.val (.int p0), .val (.int p1), .val (.int p2), .val (.int p3), .val (.int (Int32.ofNat l1)), .val (.int ca1), .val (.int cb1), .val (.int z7), .val (.int (Int32.ofNat l2)), .val (.int ca2), .val (.int cb2), .val (.int i1), .val (.int z12), .val (.int i2), .val (.ref b1), .val (.ref s2), .val (.ref b8), .val (.int (2 : Int32)), .val (.ref s2), .unset, .unset] [])
              refine X11.step (fun hA hx hq t_ k_ => XS.iload hA hx rfl (hb hq at_263) rfl k_) ?_
              show OFin _ _ _ _ _ _ T11 (mkF m 265 #[.val (.int p0), .val (.int p1), .val (.int p2), .val (.int p3), .val (.int (Int32.ofNat l1)), .val (.int ca1), .val (.int cb1), .val (.int z7), .val (.int (Int32.ofNat l2)), .val (.int ca2), .val (.int cb2), .val (.int i1), .val (.int z12), .val (.int i2), .val (.ref b1), .val (.ref s2), .val (.ref b8), .val (.int (2 : Int32)), .val (.ref s2), .unset, .unset] [(.int (Int32.ofNat l1))])
              refine X11.step (fun hA hx hq t_ k_ => XS.iconst hA hx rfl (hb hq at_265) k_) ?_
              show OFin _ _ _ _ _ _ T11 (mkF m 266 #[.val (.int p0), .val (.int p1), .val (.int p2), .val (.int p3), .val (.int (Int32.ofNat l1)), .val (.int ca1), .val (.int cb1), .val (.int z7), .val (.int (Int32.ofNat l2)), .val (.int ca2), .val (.int cb2), .val (.int i1), .val (.int z12), .val (.int i2), .val (.ref b1), .val (.ref s2), .val (.ref b8), .val (.int (2 : Int32)), .val (.ref s2), .unset, .unset] [(.int (2 : Int32)), (.int (Int32.ofNat l1))])
              by_cases c4 : (Int32.ofNat l1) < (2 : Int32)
              · refine X11.step (fun hA hx hq t_ k_ => XS.icmpYes hA hx rfl (pc0 := 266) (pc' := 276) rfl (hb hq at_266) rfl (tlt (c4)).1 (by decide) (by decide) k_) ?_
                show OFin _ _ _ _ _ _ T11 (mkF m 276 #[.val (.int p0), .val (.int p1), .val (.int p2), .val (.int p3), .val (.int (Int32.ofNat l1)), .val (.int ca1), .val (.int cb1), .val (.int z7), .val (.int (Int32.ofNat l2)), .val (.int ca2), .val (.int cb2), .val (.int i1), .val (.int z12), .val (.int i2), .val (.ref b1), .val (.ref s2), .val (.ref b8), .val (.int (2 : Int32)), .val (.ref s2), .unset, .unset] [])
                have e1 := (own_lt32 l1 2 (by omega) (by decide)).mp c4
                refine X11.step (fun hA hx hq t_ k_ => XS.iconst hA hx rfl (hb hq at_276) k_) ?_
                show OFin _ _ _ _ _ _ T11 (mkF m 277 #[.val (.int p0), .val (.int p1), .val (.int p2), .val (.int p3), .val (.int (Int32.ofNat l1)), .val (.int ca1), .val (.int cb1), .val (.int z7), .val (.int (Int32.ofNat l2)), .val (.int ca2), .val (.int cb2), .val (.int i1), .val (.int z12), .val (.int i2), .val (.ref b1), .val (.ref s2), .val (.ref b8), .val (.int (2 : Int32)), .val (.ref s2), .unset, .unset] [(.int (1 : Int32))])
                refine X11.step (fun hA hx hq t_ k_ => XS.goto hA hx rfl (pc0 := 277) (pc' := 281) rfl (hb hq at_277) (by decide) (by decide) k_) ?_
                show OFin _ _ _ _ _ _ T11 (mkF m 281 #[.val (.int p0), .val (.int p1), .val (.int p2), .val (.int p3), .val (.int (Int32.ofNat l1)), .val (.int ca1), .val (.int cb1), .val (.int z7), .val (.int (Int32.ofNat l2)), .val (.int ca2), .val (.int cb2), .val (.int i1), .val (.int z12), .val (.int i2), .val (.ref b1), .val (.ref s2), .val (.ref b8), .val (.int (2 : Int32)), .val (.ref s2), .unset, .unset] [(.int (1 : Int32))])
                refine X11.step (fun hA hx hq t_ k_ => XS.istore hA hx rfl (hb hq at_281) rfl (l' := #[.val (.int p0), .val (.int p1), .val (.int p2), .val (.int p3), .val (.int (Int32.ofNat l1)), .val (.int ca1), .val (.int cb1), .val (.int z7), .val (.int (Int32.ofNat l2)), .val (.int ca2), .val (.int cb2), .val (.int i1), .val (.int z12), .val (.int i2), .val (.ref b1), .val (.ref s2), .val (.ref b8), .val (.int (2 : Int32)), .val (.ref s2), .val (.int (1 : Int32)), .unset]) rfl k_) ?_
                show OFin _ _ _ _ _ _ T11 (mkF m 283 #[.val (.int p0), .val (.int p1), .val (.int p2), .val (.int p3), .val (.int (Int32.ofNat l1)), .val (.int ca1), .val (.int cb1), .val (.int z7), .val (.int (Int32.ofNat l2)), .val (.int ca2), .val (.int cb2), .val (.int i1), .val (.int z12), .val (.int i2), .val (.ref b1), .val (.ref s2), .val (.ref b8), .val (.int (2 : Int32)), .val (.ref s2), .val (.int (1 : Int32)), .unset] [])
                exact j283 1 (Or.inl ⟨rfl, e12, fun _ => c3, fun _ => by omega⟩)
              · refine X11.step (fun hA hx hq t_ k_ => XS.icmpNo hA hx rfl (hb hq at_266) rfl (flt (c4)).1 k_) ?_
                show OFin _ _ _ _ _ _ T11 (mkF m 269 #[.val (.int p0), .val (.int p1), .val (.int p2), .val (.int p3), .val (.int (Int32.ofNat l1)), .val (.int ca1), .val (.int cb1), .val (.int z7), .val (.int (Int32.ofNat l2)), .val (.int ca2), .val (.int cb2), .val (.int i1), .val (.int z12), .val (.int i2), .val (.ref b1), .val (.ref s2), .val (.ref b8), .val (.int (2 : Int32)), .val (.ref s2), .unset, .unset] [])
                have e1 : ¬ l1 < 2 := fun q => c4 ((own_lt32 l1 2 (by omega) (by decide)).mpr q)
                refine X11.step (fun hA hx hq t_ k_ => XS.iload hA hx rfl (hb hq at_269) rfl k_) ?_
                show OFin _ _ _ _ _ _ T11 (mkF m 271 #[.val (.int p0), .val (.int p1), .val (.int p2), .val (.int p3), .val (.int (Int32.ofNat l1)), .val (.int ca1), .val (.int cb1), .val (.int z7), .val (.int (Int32.ofNat l2)), .val (.int ca2), .val (.int cb2), .val (.int i1), .val (.int z12), .val (.int i2), .val (.ref b1), .val (.ref s2), .val (.ref b8), .val (.int (2 : Int32)), .val (.ref s2), .unset, .unset] [(.int cb1)])
                refine X11.step (fun hA hx hq t_ k_ => XS.iload hA hx rfl (hb hq at_271) rfl k_) ?_
                show OFin _ _ _ _ _ _ T11 (mkF m 273 #[.val (.int p0), .val (.int p1), .val (.int p2), .val (.int p3), .val (.int (Int32.ofNat l1)), .val (.int ca1), .val (.int cb1), .val (.int z7), .val (.int (Int32.ofNat l2)), .val (.int ca2), .val (.int cb2), .val (.int i1), .val (.int z12), .val (.int i2), .val (.ref b1), .val (.ref s2), .val (.ref b8), .val (.int (2 : Int32)), .val (.ref s2), .unset, .unset] [(.int cb2), (.int cb1)])
                by_cases c5 : cb1 = cb2
                · refine X11.step (fun hA hx hq t_ k_ => XS.icmpNo hA hx rfl (hb hq at_273) rfl (teq (c5)).2 k_) ?_
                  show OFin _ _ _ _ _ _ T11 (mkF m 276 #[.val (.int p0), .val (.int p1), .val (.int p2), .val (.int p3), .val (.int (Int32.ofNat l1)), .val (.int ca1), .val (.int cb1), .val (.int z7), .val (.int (Int32.ofNat l2)), .val (.int ca2), .val (.int cb2), .val (.int i1), .val (.int z12), .val (.int i2), .val (.ref b1), .val (.ref s2), .val (.ref b8), .val (.int (2 : Int32)), .val (.ref s2), .unset, .unset] [])
                  refine X11.step (fun hA hx hq t_ k_ => XS.iconst hA hx rfl (hb hq at_276) k_) ?_
                  show OFin _ _ _ _ _ _ T11 (mkF m 277 #[.val (.int p0), .val (.int p1), .val (.int p2), .val (.int p3), .val (.int (Int32.ofNat l1)), .val (.int ca1), .val (.int cb1), .val (.int z7), .val (.int (Int32.ofNat l2)), .val (.int ca2), .val (.int cb2), .val (.int i1), .val (.int z12), .val (.int i2), .val (.ref b1), .val (.ref s2), .val (.ref b8), .val (.int (2 : Int32)), .val (.ref s2), .unset, .unset] [(.int (1 : Int32))])
                  refine X11.step (fun hA hx hq t_ k_ => XS.goto hA hx rfl (pc0 := 277) (pc' := 281) rfl (hb hq at_277) (by decide) (by decide) k_) ?_
                  show OFin _ _ _ _ _ _ T11 (mkF m 281 #[.val (.int p0), .val (.int p1), .val (.int p2), .val (.int p3), .val (.int (Int32.ofNat l1)), .val (.int ca1), .val (.int cb1), .val (.int z7), .val (.int (Int32.ofNat l2)), .val (.int ca2), .val (.int cb2), .val (.int i1), .val (.int z12), .val (.int i2), .val (.ref b1), .val (.ref s2), .val (.ref b8), .val (.int (2 : Int32)), .val (.ref s2), .unset, .unset] [(.int (1 : Int32))])
                  refine X11.step (fun hA hx hq t_ k_ => XS.istore hA hx rfl (hb hq at_281) rfl (l' := #[.val (.int p0), .val (.int p1), .val (.int p2), .val (.int p3), .val (.int (Int32.ofNat l1)), .val (.int ca1), .val (.int cb1), .val (.int z7), .val (.int (Int32.ofNat l2)), .val (.int ca2), .val (.int cb2), .val (.int i1), .val (.int z12), .val (.int i2), .val (.ref b1), .val (.ref s2), .val (.ref b8), .val (.int (2 : Int32)), .val (.ref s2), .val (.int (1 : Int32)), .unset]) rfl k_) ?_
                  show OFin _ _ _ _ _ _ T11 (mkF m 283 #[.val (.int p0), .val (.int p1), .val (.int p2), .val (.int p3), .val (.int (Int32.ofNat l1)), .val (.int ca1), .val (.int cb1), .val (.int z7), .val (.int (Int32.ofNat l2)), .val (.int ca2), .val (.int cb2), .val (.int i1), .val (.int z12), .val (.int i2), .val (.ref b1), .val (.ref s2), .val (.ref b8), .val (.int (2 : Int32)), .val (.ref s2), .val (.int (1 : Int32)), .unset] [])
                  exact j283 1 (Or.inl ⟨rfl, e12, fun _ => c3, fun _ => c5⟩)
                · refine X11.step (fun hA hx hq t_ k_ => XS.icmpYes hA hx rfl (pc0 := 273) (pc' := 280) rfl (hb hq at_273) rfl (feq (c5)).2 (by decide) (by decide) k_) ?_
                  show OFin _ _ _ _ _ _ T11 (mkF m 280 #[.val (.int p0), .val (.int p1), .val (.int p2), .val (.int p3), .val (.int (Int32.ofNat l1)), .val (.int ca1), .val (.int cb1), .val (.int z7), .val (.int (Int32.ofNat l2)), .val (.int ca2), .val (.int cb2), .val (.int i1), .val (.int z12), .val (.int i2), .val (.ref b1), .val (.ref s2), .val (.ref b8), .val (.int (2 : Int32)), .val (.ref s2), .unset, .unset] [])
                  refine X11.step (fun hA hx hq t_ k_ => XS.iconst hA hx rfl (hb hq at_280) k_) ?_
                  show OFin _ _ _ _ _ _ T11 (mkF m 281 #[.val (.int p0), .val (.int p1), .val (.int p2), .val (.int p3), .val (.int (Int32.ofNat l1)), .val (.int ca1), .val (.int cb1), .val (.int z7), .val (.int (Int32.ofNat l2)), .val (.int ca2), .val (.int cb2), .val (.int i1), .val (.int z12), .val (.int i2), .val (.ref b1), .val (.ref s2), .val (.ref b8), .val (.int (2 : Int32)), .val (.ref s2), .unset, .unset] [(.int (0 : Int32))])
                  refine X11.step (fun hA hx hq t_ k_ => XS.istore hA hx rfl (hb hq at_281) rfl (l' := #[.val (.int p0), .val (.int p1), .val (.int p2), .val (.int p3), .val (.int (Int32.ofNat l1)), .val (.int ca1), .val (.int cb1), .val (.int z7), .val (.int (Int32.ofNat l2)), .val (.int ca2), .val (.int cb2), .val (.int i1), .val (.int z12), .val (.int i2), .val (.ref b1), .val (.ref s2), .val (.ref b8), .val (.int (2 : Int32)), .val (.ref s2), .val (.int (0 : Int32)), .unset]) rfl k_) ?_
                  show OFin _ _ _ _ _ _ T11 (mkF m 283 #[.val (.int p0), .val (.int p1), .val (.int p2), .val (.int p3), .val (.int (Int32.ofNat l1)), .val (.int ca1), .val (.int cb1), .val (.int z7), .val (.int (Int32.ofNat l2)), .val (.int ca2), .val (.int cb2), .val (.int i1), .val (.int z12), .val (.int i2), .val (.ref b1), .val (.ref s2), .val (.ref b8), .val (.int (2 : Int32)), .val (.ref s2), .val (.int (0 : Int32)), .unset] [])
                  exact j283 0 (Or.inr ⟨rfl, fun q => c5 (q.2.2 (by omega))⟩)
            · refine X11.step (fun hA hx hq t_ k_ => XS.icmpYes hA hx rfl (pc0 := 260) (pc' := 280) rfl (hb hq at_260) rfl (feq (c3)).2 (by decide) (by decide) k_) ?_
              show OFin _ _ _ _ _ _ T11 (mkF m 280 #[.val (.int p0), .val (.int p1), .val (.int p2), .val (.int p3), .val (.int (Int32.ofNat l1)), .val (.int ca1), .val (.int cb1), .val (.int z7), .val (.int (Int32.ofNat l2)), .val (.int ca2), .val (.int cb2), .val (.int i1), .val (.int z12), .val (.int i2), .val (.ref b1), .val (.ref s2), .val (.ref b8), .val (.int (2 : Int32)), .val (.ref s2), .unset, .unset] [])
              refine X11.step (fun hA hx hq t_ k_ => XS.iconst hA hx rfl (hb hq at_280) k_) ?_
              show OFin _ _ _ _ _ _ T11 (mkF m 281 #[.val (.int p0), .val (.int p1), .val (.int p2), .val (.int p3), .val (.int (Int32.ofNat l1)), .val (.int ca1), .val (.int cb1), .val (.int z7), .val (.int (Int32.ofNat l2)), .val (.int ca2), .val (.int cb2), .val (.int i1), .val (.int z12), .val (.int i2), .val (.ref b1), .val (.ref s2), .val (.ref b8), .val (.int (2 : Int32)), .val (.ref s2), .unset, .unset] [(.int (0 : Int32))])
              refine X11.step (fun hA hx hq t_ k_ => XS.istore hA hx rfl (hb hq at_281) rfl (l' := #[.val (.int p0), .val (.int p1), .val (.int p2), .val (.int p3), .val (.int (Int32.ofNat l1)), .val (.int ca1), .val (.int cb1), .val (.int z7), .val (.int (Int32.ofNat l2)), .val (.int ca2), .val (.int cb2), .val (.int i1), .val (.int z12), .val (.int i2), .val (.ref b1), .val (.ref s2), .val (.ref b8), .val (.int (2 : Int32)), .val (.ref s2), .val (.int (0 : Int32)), .unset]) rfl k_) ?_
              show OFin _ _ _ _ _ _ T11 (mkF m 283 #[.val (.int p0), .val (.int p1), .val (.int p2), .val (.int p3), .val (.int (Int32.ofNat l1)), .val (.int ca1), .val (.int cb1), .val (.int z7), .val (.int (Int32.ofNat l2)), .val (.int ca2), .val (.int cb2), .val (.int i1), .val (.int z12), .val (.int i2), .val (.ref b1), .val (.ref s2), .val (.ref b8), .val (.int (2 : Int32)), .val (.ref s2), .val (.int (0 : Int32)), .unset] [])
              exact j283 0 (Or.inr ⟨rfl, fun q => c3 (q.2.1 (by omega))⟩)
        · refine X11.step (fun hA hx hq t_ k_ => XS.icmpYes hA hx rfl (pc0 := 247) (pc' := 280) rfl (hb hq at_247) rfl (feq (c1)).2 (by decide) (by decide) k_) ?_
          show OFin _ _ _ _ _ _ T11 (mkF m 280 #[.val (.int p0), .val (.int p1), .val (.int p2), .val (.int p3), .val (.int (Int32.ofNat l1)), .val (.int ca1), .val (.int cb1), .val (.int z7), .val (.int (Int32.ofNat l2)), .val (.int ca2), .val (.int cb2), .val (.int i1), .val (.int z12), .val (.int i2), .val (.ref b1), .val (.ref s2), .val (.ref b8), .val (.int (2 : Int32)), .val (.ref s2), .unset, .unset] [])
          refine X11.step (fun hA hx hq t_ k_ => XS.iconst hA hx rfl (hb hq at_280) k_) ?_
          show OFin _ _ _ _ _ _ T11 (mkF m 281 #[.val (.int p0), .val (.int p1), .val (.int p2), .val (.int p3), .val (.int (Int32.ofNat l1)), .val (.int ca1), .val (.int cb1), .val (.int z7), .val (.int (Int32.ofNat l2)), .val (.int ca2), .val (.int cb2), .val (.int i1), .val (.int z12), .val (.int i2), .val (.ref b1), .val (.ref s2), .val (.ref b8), .val (.int (2 : Int32)), .val (.ref s2), .unset, .unset] [(.int (0 : Int32))])
          refine X11.step (fun hA hx hq t_ k_ => XS.istore hA hx rfl (hb hq at_281) rfl (l' := #[.val (.int p0), .val (.int p1), .val (.int p2), .val (.int p3), .val (.int (Int32.ofNat l1)), .val (.int ca1), .val (.int cb1), .val (.int z7), .val (.int (Int32.ofNat l2)), .val (.int ca2), .val (.int cb2), .val (.int i1), .val (.int z12), .val (.int i2), .val (.ref b1), .val (.ref s2), .val (.ref b8), .val (.int (2 : Int32)), .val (.ref s2), .val (.int (0 : Int32)), .unset]) rfl k_) ?_
          show OFin _ _ _ _ _ _ T11 (mkF m 283 #[.val (.int p0), .val (.int p1), .val (.int p2), .val (.int p3), .val (.int (Int32.ofNat l1)), .val (.int ca1), .val (.int cb1), .val (.int z7), .val (.int (Int32.ofNat l2)), .val (.int ca2), .val (.int cb2), .val (.int i1), .val (.int z12), .val (.int i2), .val (.ref b1), .val (.ref s2), .val (.ref b8), .val (.int (2 : Int32)), .val (.ref s2), .val (.int (0 : Int32)), .unset] [])
          exact j283 0 (Or.inr ⟨rfl, fun q => c1 (congrArg Int32.ofNat q.1)⟩)
      · show OFin _ _ _ _ _ _ T11 (mkF m 202 #[.val (.int p0), .val (.int p1), .val (.int p2), .val (.int p3), .val (.int (Int32.ofNat l1)), .val (.int ca1), .val (.int cb1), .val (.int z7), .val (.int (Int32.ofNat l2)), .val (.int ca2), .val (.int cb2), .val (.int i1), .val (.int z12), .val (.int i2), .val (.ref b1), .val (.ref s2), .val (.ref b8), .val (.int (3 : Int32)), .unset, .unset, .unset] [])
        refine X11.step (fun hA hx hq t_ k_ => XS.iload hA hx rfl (hb hq at_202) rfl k_) ?_
        show OFin _ _ _ _ _ _ T11 (mkF m 204 #[.val (.int p0), .val (.int p1), .val (.int p2), .val (.int p3), .val (.int (Int32.ofNat l1)), .val (.int ca1), .val (.int cb1), .val (.int z7), .val (.int (Int32.ofNat l2)), .val (.int ca2), .val (.int cb2), .val (.int i1), .val (.int z12), .val (.int i2), .val (.ref b1), .val (.ref s2), .val (.ref b8), .val (.int (3 : Int32)), .unset, .unset, .unset] [(.int (3 : Int32))])
        refine X11.step (fun hA hx hq t_ k_ => XS.ifYes hA hx rfl (pc0 := 204) (pc' := 214) rfl (hb hq at_204) rfl ((if0 _ _).trans (feq ((by decide))).2) (by decide) (by decide) k_) ?_
        show OFin _ _ _ _ _ _ T11 (mkF m 214 #[.val (.int p0), .val (.int p1), .val (.int p2), .val (.int p3), .val (.int (Int32.ofNat l1)), .val (.int ca1), .val (.int cb1), .val (.int z7), .val (.int (Int32.ofNat l2)), .val (.int ca2), .val (.int cb2), .val (.int i1), .val (.int z12), .val (.int i2), .val (.ref b1), .val (.ref s2), .val (.ref b8), .val (.int (3 : Int32)), .unset, .unset, .unset] [])
        refine X11.step (fun hA hx hq t_ k_ => XS.iload hA hx rfl (hb hq at_214) rfl k_) ?_
        show OFin _ _ _ _ _ _ T11 (mkF m 216 #[.val (.int p0), .val (.int p1), .val (.int p2), .val (.int p3), .val (.int (Int32.ofNat l1)), .val (.int ca1), .val (.int cb1), .val (.int z7), .val (.int (Int32.ofNat l2)), .val (.int ca2), .val (.int cb2), .val (.int i1), .val (.int z12), .val (.int i2), .val (.ref b1), .val (.ref s2), .val (.ref b8), .val (.int (3 : Int32)), .unset, .unset, .unset] [(.int (3 : Int32))])
        refine X11.step (fun hA hx hq t_ k_ => XS.iconst hA hx rfl (hb hq at_216) k_) ?_
        show OFin _ _ _ _ _ _ T11 (mkF m 217 #[.val (.int p0), .val (.int p1), .val (.int p2), .val (.int p3), .val (.int (Int32.ofNat l1)), .val (.int ca1), .val (.int cb1), .val (.int z7), .val (.int (Int32.ofNat l2)), .val (.int ca2), .val (.int cb2), .val (.int i1), .val (.int z12), .val (.int i2), .val (.ref b1), .val (.ref s2), .val (.ref b8), .val (.int (3 : Int32)), .unset, .unset, .unset] [(.int (1 : Int32)), (.int (3 : Int32))])
        refine X11.step (fun hA hx hq t_ k_ => XS.icmpYes hA hx rfl (pc0 := 217) (pc' := 226) rfl (hb hq at_217) rfl (feq ((by decide))).2 (by decide) (by decide) k_) ?_
        show OFin _ _ _ _ _ _ T11 (mkF m 226 #[.val (.int p0), .val (.int p1), .val (.int p2), .val (.int p3), .val (.int (Int32.ofNat l1)), .val (.int ca1), .val (.int cb1), .val (.int z7), .val (.int (Int32.ofNat l2)), .val (.int ca2), .val (.int cb2), .val (.int i1), .val (.int z12), .val (.int i2), .val (.ref b1), .val (.ref s2), .val (.ref b8), .val (.int (3 : Int32)), .unset, .unset, .unset] [])
        refine X11.step (fun hA hx hq t_ k_ => XS.iload hA hx rfl (hb hq at_226) rfl k_) ?_
        show OFin _ _ _ _ _ _ T11 (mkF m 228 #[.val (.int p0), .val (.int p1), .val (.int p2), .val (.int p3), .val (.int (Int32.ofNat l1)), .val (.int ca1), .val (.int cb1), .val (.int z7), .val (.int (Int32.ofNat l2)), .val (.int ca2), .val (.int cb2), .val (.int i1), .val (.int z12), .val (.int i2), .val (.ref b1), .val (.ref s2), .val (.ref b8), .val (.int (3 : Int32)), .unset, .unset, .unset] [(.int (3 : Int32))])
        refine X11.step (fun hA hx hq t_ k_ => XS.iconst hA hx rfl (hb hq at_228) k_) ?_
        show OFin _ _ _ _ _ _ T11 (mkF m 229 #[.val (.int p0), .val (.int p1), .val (.int p2), .val (.int p3), .val (.int (Int32.ofNat l1)), .val (.int ca1), .val (.int cb1), .val (.int z7), .val (.int (Int32.ofNat l2)), .val (.int ca2), .val (.int cb2), .val (.int i1), .val (.int z12), .val (.int i2), .val (.ref b1), .val (.ref s2), .val (.ref b8), .val (.int (3 : Int32)), .unset, .unset, .unset] [(.int (2 : Int32)), (.int (3 : Int32))])
        refine X11.step (fun hA hx hq t_ k_ => XS.icmpYes hA hx rfl (pc0 := 229) (pc' := 239) rfl (hb hq at_229) rfl (feq ((by decide))).2 (by decide) (by decide) k_) ?_
        show OFin _ _ _ _ _ _ T11 (mkF m 239 #[.val (.int p0), .val (.int p1), .val (.int p2), .val (.int p3), .val (.int (Int32.ofNat l1)), .val (.int ca1), .val (.int cb1), .val (.int z7), .val (.int (Int32.ofNat l2)), .val (.int ca2), .val (.int cb2), .val (.int i1), .val (.int z12), .val (.int i2), .val (.ref b1), .val (.ref s2), .val (.ref b8), .val (.int (3 : Int32)), .unset, .unset, .unset] [])
        refine X11.step (fun hA hx hq t_ k_ => XS.aload hA hx rfl (hb hq at_239) rfl rfl k_) ?_
        show OFin _ _ _ _ _ _ T11 (mkF m 241 #[.val (.int p0), .val (.int p1), .val (.int p2), .val (.int p3), .val (.int (Int32.ofNat l1)), .val (.int ca1), .val (.int cb1), .val (.int z7), .val (.int (Int32.ofNat l2)), .val (.int ca2), .val (.int cb2), .val (.int i1), .val (.int z12), .val (.int i2), .val (.ref b1), .val (.ref s2), .val (.ref b8), .val (.int (3 : Int32)), .unset, .unset, .unset] [(.ref b1)])
        refine X11.step (fun hA hx hq t_ k_ => XS.astore hA hx rfl (hb hq at_241) rfl rfl (l' := #[.val (.int p0), .val (.int p1), .val (.int p2), .val (.int p3), .val (.int (Int32.ofNat l1)), .val (.int ca1), .val (.int cb1), .val (.int z7), .val (.int (Int32.ofNat l2)), .val (.int ca2), .val (.int cb2), .val (.int i1), .val (.int z12), .val (.int i2), .val (.ref b1), .val (.ref s2), .val (.ref b8), .val (.int (3 : Int32)), .val (.ref b1), .unset, .unset]) rfl k_) ?_
        show OFin _ _ _ _ _ _ T11 (mkF m 243 #[.val (.int p0), .val (.int p1), .val (.int p2), .val (.int p3), .val (.int (Int32.ofNat l1)), .val (.int ca1), .val (.int cb1), .val (.int z7), .val (.int (Int32.ofNat l2)), .val (.int ca2), .val (.int cb2), .val (.int i1), .val (.int z12), .val (.int i2), .val (.ref b1), .val (.ref s2), .val (.ref b8), .val (.int (3 : Int32)), .val (.ref b1), .unset, .unset] [])
        refine X11.step (fun hA hx hq t_ k_ => XS.iload hA hx rfl (hb hq at_243) rfl k_) ?_
        show OFin _ _ _ _ _ _ T11 (mkF m 245 #[.val (.int p0), .val (.int p1), .val (.int p2), .val (.int p3), .val (.int (Int32.ofNat l1)), .val (.int ca1), .val (.int cb1), .val (.int z7), .val (.int (Int32.ofNat l2)), .val (.int ca2), .val (.int cb2), .val (.int i1), .val (.int z12), .val (.int i2), .val (.ref b1), .val (.ref s2), .val (.ref b8), .val (.int (3 : Int32)), .val (.ref b1), .unset, .unset] [(.int (Int32.ofNat l1))])
        refine X11.step (fun hA hx hq t_ k_ => XS.iload hA hx rfl (hb hq at_245) rfl k_) ?_
        show OFin _ _ _ _ _ _ T11 (mkF m 247 #[.val (.int p0), .val (.int p1), .val (.int p2), .val (.int p3), .val (.int (Int32.ofNat l1)), .val (.int ca1), .val (.int cb1), .val (.int z7), .val (.int (Int32.ofNat l2)), .val (.int ca2), .val (.int cb2), .val (.int i1), .val (.int z12), .val (.int i2), .val (.ref b1), .val (.ref s2), .val (.ref b8), .val (.int (3 : Int32)), .val (.ref b1), .unset, .unset] [(.int (Int32.ofNat l2)), (.int (Int32.ofNat l1))])
        have j283 : ∀ z19 : Int32, own_tv z19 (own_st l1 l2 ca1 ca2 cb1 cb2) → OFin n0 p e (fun o t L => CHr Z own_EL s.vm s.heap t.vm t.heap ∧ ReturnedEndW s o t L room_1.cells room_1.slots) below (fun v h => v = some (.int 1)) T11 (mkF m 283 #[.val (.int p0), .val (.int p1), .val (.int p2), .val (.int p3), .val (.int (Int32.ofNat l1)), .val (.int ca1), .val (.int cb1), .val (.int z7), .val (.int (Int32.ofNat l2)), .val (.int ca2), .val (.int cb2), .val (.int i1), .val (.int z12), .val (.int i2), .val (.ref b1), .val (.ref s2), .val (.ref b8), .val (.int (3 : Int32)), .val (.ref b1), .val (.int z19), .unset] []) := by
          intro z19 hz
          refine X11.step (fun hA hx hq t_ k_ => XS.iload hA hx rfl (hb hq at_283) rfl k_) ?_
          show OFin _ _ _ _ _ _ T11 (mkF m 285 #[.val (.int p0), .val (.int p1), .val (.int p2), .val (.int p3), .val (.int (Int32.ofNat l1)), .val (.int ca1), .val (.int cb1), .val (.int z7), .val (.int (Int32.ofNat l2)), .val (.int ca2), .val (.int cb2), .val (.int i1), .val (.int z12), .val (.int i2), .val (.ref b1), .val (.ref s2), .val (.ref b8), .val (.int (3 : Int32)), .val (.ref b1), .val (.int z19), .unset] [(.int (3 : Int32))])
          refine X11.step (fun hA hx hq t_ k_ => XS.ifYes hA hx rfl (pc0 := 285) (pc' := 310) rfl (hb hq at_285) rfl ((if0 _ _).trans (feq ((by decide))).2) (by decide) (by decide) k_) ?_
          show OFin _ _ _ _ _ _ T11 (mkF m 310 #[.val (.int p0), .val (.int p1), .val (.int p2), .val (.int p3), .val (.int (Int32.ofNat l1)), .val (.int ca1), .val (.int cb1), .val (.int z7), .val (.int (Int32.ofNat l2)), .val (.int ca2), .val (.int cb2), .val (.int i1), .val (.int z12), .val (.int i2), .val (.ref b1), .val (.ref s2), .val (.ref b8), .val (.int (3 : Int32)), .val (.ref b1), .val (.int z19), .unset] [])
          refine X11.step (fun hA hx hq t_ k_ => XS.iload hA hx rfl (hb hq at_310) rfl k_) ?_
          show OFin _ _ _ _ _ _ T11 (mkF m 312 #[.val (.int p0), .val (.int p1), .val (.int p2), .val (.int p3), .val (.int (Int32.ofNat l1)), .val (.int ca1), .val (.int cb1), .val (.int z7), .val (.int (Int32.ofNat l2)), .val (.int ca2), .val (.int cb2), .val (.int i1), .val (.int z12), .val (.int i2), .val (.ref b1), .val (.ref s2), .val (.ref b8), .val (.int (3 : Int32)), .val (.ref b1), .val (.int z19), .unset] [(.int (3 : Int32))])
          refine X11.step (fun hA hx hq t_ k_ => XS.iconst hA hx rfl (hb hq at_312) k_) ?_
          show OFin _ _ _ _ _ _ T11 (mkF m 313 #[.val (.int p0), .val (.int p1), .val (.int p2), .val (.int p3), .val (.int (Int32.ofNat l1)), .val (.int ca1), .val (.int cb1), .val (.int z7), .val (.int (Int32.ofNat l2)), .val (.int ca2), .val (.int cb2), .val (.int i1), .val (.int z12), .val (.int i2), .val (.ref b1), .val (.ref s2), .val (.ref b8), .val (.int (3 : Int32)), .val (.ref b1), .val (.int z19), .unset] [(.int (3 : Int32)), (.int (3 : Int32))])
          refine X11.step (fun hA hx hq t_ k_ => XS.icmpNo hA hx rfl (hb hq at_313) rfl (teq ((rfl : (3 : Int32) = (3 : Int32)))).2 k_) ?_
          show OFin _ _ _ _ _ _ T11 (mkF m 316 #[.val (.int p0), .val (.int p1), .val (.int p2), .val (.int p3), .val (.int (Int32.ofNat l1)), .val (.int ca1), .val (.int cb1), .val (.int z7), .val (.int (Int32.ofNat l2)), .val (.int ca2), .val (.int cb2), .val (.int i1), .val (.int z12), .val (.int i2), .val (.ref b1), .val (.ref s2), .val (.ref b8), .val (.int (3 : Int32)), .val (.ref b1), .val (.int z19), .unset] [])
          refine X11.step (fun hA hx hq t_ k_ => XS.iconst hA hx rfl (hb hq at_316) k_) ?_
          show OFin _ _ _ _ _ _ T11 (mkF m 317 #[.val (.int p0), .val (.int p1), .val (.int p2), .val (.int p3), .val (.int (Int32.ofNat l1)), .val (.int ca1), .val (.int cb1), .val (.int z7), .val (.int (Int32.ofNat l2)), .val (.int ca2), .val (.int cb2), .val (.int i1), .val (.int z12), .val (.int i2), .val (.ref b1), .val (.ref s2), .val (.ref b8), .val (.int (3 : Int32)), .val (.ref b1), .val (.int z19), .unset] [(.int (1 : Int32))])
          refine X11.step (fun hA hx hq t_ k_ => XS.istore hA hx rfl (hb hq at_317) rfl (l' := #[.val (.int p0), .val (.int p1), .val (.int p2), .val (.int p3), .val (.int (Int32.ofNat l1)), .val (.int ca1), .val (.int cb1), .val (.int z7), .val (.int (Int32.ofNat l2)), .val (.int ca2), .val (.int cb2), .val (.int i1), .val (.int z12), .val (.int i2), .val (.ref b1), .val (.ref s2), .val (.ref b8), .val (.int (3 : Int32)), .val (.ref b1), .val (.int z19), .val (.int (1 : Int32))]) rfl k_) ?_
          show OFin _ _ _ _ _ _ T11 (mkF m 319 #[.val (.int p0), .val (.int p1), .val (.int p2), .val (.int p3), .val (.int (Int32.ofNat l1)), .val (.int ca1), .val (.int cb1), .val (.int z7), .val (.int (Int32.ofNat l2)), .val (.int ca2), .val (.int cb2), .val (.int i1), .val (.int z12), .val (.int i2), .val (.ref b1), .val (.ref s2), .val (.ref b8), .val (.int (3 : Int32)), .val (.ref b1), .val (.int z19), .val (.int (1 : Int32))] [])
          refine X11.step (fun hA hx hq t_ k_ => XS.goto hA hx rfl (pc0 := 319) (pc' := 325) rfl (hb hq at_319) (by decide) (by decide) k_) ?_
          show OFin _ _ _ _ _ _ T11 (mkF m 325 #[.val (.int p0), .val (.int p1), .val (.int p2), .val (.int p3), .val (.int (Int32.ofNat l1)), .val (.int ca1), .val (.int cb1), .val (.int z7), .val (.int (Int32.ofNat l2)), .val (.int ca2), .val (.int cb2), .val (.int i1), .val (.int z12), .val (.int i2), .val (.ref b1), .val (.ref s2), .val (.ref b8), .val (.int (3 : Int32)), .val (.ref b1), .val (.int z19), .val (.int (1 : Int32))] [])
          refine X11.step (fun hA hx hq t_ k_ => XS.aload hA hx rfl (hb hq at_325) rfl rfl k_) ?_
          show OFin _ _ _ _ _ _ T11 (mkF m 327 #[.val (.int p0), .val (.int p1), .val (.int p2), .val (.int p3), .val (.int (Int32.ofNat l1)), .val (.int ca1), .val (.int cb1), .val (.int z7), .val (.int (Int32.ofNat l2)), .val (.int ca2), .val (.int cb2), .val (.int i1), .val (.int z12), .val (.int i2), .val (.ref b1), .val (.ref s2), .val (.ref b8), .val (.int (3 : Int32)), .val (.ref b1), .val (.int z19), .val (.int (1 : Int32))] [(.ref b1)])
          refine X11.step (fun hA hx hq t_ k_ => XS.aload hA hx rfl (hb hq at_327) rfl rfl k_) ?_
          show OFin _ _ _ _ _ _ T11 (mkF m 329 #[.val (.int p0), .val (.int p1), .val (.int p2), .val (.int p3), .val (.int (Int32.ofNat l1)), .val (.int ca1), .val (.int cb1), .val (.int z7), .val (.int (Int32.ofNat l2)), .val (.int ca2), .val (.int cb2), .val (.int i1), .val (.int z12), .val (.int i2), .val (.ref b1), .val (.ref s2), .val (.ref b8), .val (.int (3 : Int32)), .val (.ref b1), .val (.int z19), .val (.int (1 : Int32))] [(.ref b1), (.ref b1)])
          refine X11.callV (y' := (⟨"com/example/replay_proof/replayproof/model/Name", "equals", "(Ljava/lang/Object;)Z"⟩ : MethodName)) (z' := (⟨"com/example/replay_proof/replayproof/model/Name", "equals", "(Ljava/lang/Object;)Z"⟩ : MethodName)) (hw _ (List.mem_of_getElem? (i := 58) rfl)) (hw _ (List.mem_of_getElem? (i := 59) rfl)) (X11.notFace (hw _ (List.mem_of_getElem? (i := 61) rfl)) rfl) (hw _ (List.mem_of_getElem? (i := 61) rfl)) (hw _ (List.mem_of_getElem? (i := 60) rfl)) (hw _ (List.mem_of_getElem? (i := 3) rfl)) (hw _ (List.mem_of_getElem? (i := 62) rfl)) (by decide) Ea (argsL := [(.ref b1)]) (rest := []) (rm9 l Z a0 hw b1 s1 (own_kind i1 kR kC kT kN kK kA) h11 n0 Ta Ka Ea U1.1) (g := (mkF m 329 #[.val (.int p0), .val (.int p1), .val (.int p2), .val (.int p3), .val (.int (Int32.ofNat l1)), .val (.int ca1), .val (.int cb1), .val (.int z7), .val (.int (Int32.ofNat l2)), .val (.int ca2), .val (.int cb2), .val (.int i1), .val (.int z12), .val (.int i2), .val (.ref b1), .val (.ref s2), .val (.ref b8), .val (.int (3 : Int32)), .val (.ref b1), .val (.int z19), .val (.int (1 : Int32))] [(.ref b1), (.ref b1)])) rfl rfl pd_pLjava_lang_Object_r_Z rfl rfl (W := 0) (by show 2 * 0 + _ ≤ _; exact Nat.le_of_eq rfl) at_329 (by decide) (by decide) (by decide) (by decide) ?_
          intro v16 T16 h16 X16 q16
          obtain ⟨rfl, rfl⟩ := q16
          show OFin _ _ _ _ _ _ T16 (mkF m 332 #[.val (.int p0), .val (.int p1), .val (.int p2), .val (.int p3), .val (.int (Int32.ofNat l1)), .val (.int ca1), .val (.int cb1), .val (.int z7), .val (.int (Int32.ofNat l2)), .val (.int ca2), .val (.int cb2), .val (.int i1), .val (.int z12), .val (.int i2), .val (.ref b1), .val (.ref s2), .val (.ref b8), .val (.int (3 : Int32)), .val (.ref b1), .val (.int z19), .val (.int (1 : Int32))] [(.int (1 : Int32))])
          refine X16.step (fun hA hx hq t_ k_ => XS.iload hA hx rfl (hb hq at_332) rfl k_) ?_
          show OFin _ _ _ _ _ _ T16 (mkF m 334 #[.val (.int p0), .val (.int p1), .val (.int p2), .val (.int p3), .val (.int (Int32.ofNat l1)), .val (.int ca1), .val (.int cb1), .val (.int z7), .val (.int (Int32.ofNat l2)), .val (.int ca2), .val (.int cb2), .val (.int i1), .val (.int z12), .val (.int i2), .val (.ref b1), .val (.ref s2), .val (.ref b8), .val (.int (3 : Int32)), .val (.ref b1), .val (.int z19), .val (.int (1 : Int32))] [(.int (1 : Int32)), (.int (1 : Int32))])
          refine X16.step (fun hA hx hq t_ k_ => XS.icmpNo hA hx rfl (hb hq at_334) rfl (teq ((rfl : (1 : Int32) = (1 : Int32)))).2 k_) ?_
          show OFin _ _ _ _ _ _ T16 (mkF m 337 #[.val (.int p0), .val (.int p1), .val (.int p2), .val (.int p3), .val (.int (Int32.ofNat l1)), .val (.int ca1), .val (.int cb1), .val (.int z7), .val (.int (Int32.ofNat l2)), .val (.int ca2), .val (.int cb2), .val (.int i1), .val (.int z12), .val (.int i2), .val (.ref b1), .val (.ref s2), .val (.ref b8), .val (.int (3 : Int32)), .val (.ref b1), .val (.int z19), .val (.int (1 : Int32))] [])
          refine X16.step (fun hA hx hq t_ k_ => XS.iconst hA hx rfl (hb hq at_337) k_) ?_
          show OFin _ _ _ _ _ _ T16 (mkF m 338 #[.val (.int p0), .val (.int p1), .val (.int p2), .val (.int p3), .val (.int (Int32.ofNat l1)), .val (.int ca1), .val (.int cb1), .val (.int z7), .val (.int (Int32.ofNat l2)), .val (.int ca2), .val (.int cb2), .val (.int i1), .val (.int z12), .val (.int i2), .val (.ref b1), .val (.ref s2), .val (.ref b8), .val (.int (3 : Int32)), .val (.ref b1), .val (.int z19), .val (.int (1 : Int32))] [(.int (1 : Int32))])
          refine X16.step (fun hA hx hq t_ k_ => XS.goto hA hx rfl (pc0 := 338) (pc' := 342) rfl (hb hq at_338) (by decide) (by decide) k_) ?_
          show OFin _ _ _ _ _ _ T16 (mkF m 342 #[.val (.int p0), .val (.int p1), .val (.int p2), .val (.int p3), .val (.int (Int32.ofNat l1)), .val (.int ca1), .val (.int cb1), .val (.int z7), .val (.int (Int32.ofNat l2)), .val (.int ca2), .val (.int cb2), .val (.int i1), .val (.int z12), .val (.int i2), .val (.ref b1), .val (.ref s2), .val (.ref b8), .val (.int (3 : Int32)), .val (.ref b1), .val (.int z19), .val (.int (1 : Int32))] [(.int (1 : Int32))])
          exact X16.retN (by simp) at_342 (oW X16 B12 (by decide) (by decide)) (rfl)
        by_cases c1 : (Int32.ofNat l1) = (Int32.ofNat l2)
        · refine X11.step (fun hA hx hq t_ k_ => XS.icmpNo hA hx rfl (hb hq at_247) rfl (teq (c1)).2 k_) ?_
          show OFin _ _ _ _ _ _ T11 (mkF m 250 #[.val (.int p0), .val (.int p1), .val (.int p2), .val (.int p3), .val (.int (Int32.ofNat l1)), .val (.int ca1), .val (.int cb1), .val (.int z7), .val (.int (Int32.ofNat l2)), .val (.int ca2), .val (.int cb2), .val (.int i1), .val (.int z12), .val (.int i2), .val (.ref b1), .val (.ref s2), .val (.ref b8), .val (.int (3 : Int32)), .val (.ref b1), .unset, .unset] [])
          have e12 := (own_eq32 l1 l2 (by omega) (by omega)).mp c1
          refine X11.step (fun hA hx hq t_ k_ => XS.iload hA hx rfl (hb hq at_250) rfl k_) ?_
          show OFin _ _ _ _ _ _ T11 (mkF m 252 #[.val (.int p0), .val (.int p1), .val (.int p2), .val (.int p3), .val (.int (Int32.ofNat l1)), .val (.int ca1), .val (.int cb1), .val (.int z7), .val (.int (Int32.ofNat l2)), .val (.int ca2), .val (.int cb2), .val (.int i1), .val (.int z12), .val (.int i2), .val (.ref b1), .val (.ref s2), .val (.ref b8), .val (.int (3 : Int32)), .val (.ref b1), .unset, .unset] [(.int (Int32.ofNat l1))])
          refine X11.step (fun hA hx hq t_ k_ => XS.iconst hA hx rfl (hb hq at_252) k_) ?_
          show OFin _ _ _ _ _ _ T11 (mkF m 253 #[.val (.int p0), .val (.int p1), .val (.int p2), .val (.int p3), .val (.int (Int32.ofNat l1)), .val (.int ca1), .val (.int cb1), .val (.int z7), .val (.int (Int32.ofNat l2)), .val (.int ca2), .val (.int cb2), .val (.int i1), .val (.int z12), .val (.int i2), .val (.ref b1), .val (.ref s2), .val (.ref b8), .val (.int (3 : Int32)), .val (.ref b1), .unset, .unset] [(.int (1 : Int32)), (.int (Int32.ofNat l1))])
          by_cases c2 : (Int32.ofNat l1) < (1 : Int32)
          · refine X11.step (fun hA hx hq t_ k_ => XS.icmpYes hA hx rfl (pc0 := 253) (pc' := 263) rfl (hb hq at_253) rfl (tlt (c2)).1 (by decide) (by decide) k_) ?_
            show OFin _ _ _ _ _ _ T11 (mkF m 263 #[.val (.int p0), .val (.int p1), .val (.int p2), .val (.int p3), .val (.int (Int32.ofNat l1)), .val (.int ca1), .val (.int cb1), .val (.int z7), .val (.int (Int32.ofNat l2)), .val (.int ca2), .val (.int cb2), .val (.int i1), .val (.int z12), .val (.int i2), .val (.ref b1), .val (.ref s2), .val (.ref b8), .val (.int (3 : Int32)), .val (.ref b1), .unset, .unset] [])
            have e0 := (own_lt32 l1 1 (by omega) (by decide)).mp c2
            refine X11.step (fun hA hx hq t_ k_ => XS.iload hA hx rfl (hb hq at_263) rfl k_) ?_
            show OFin _ _ _ _ _ _ T11 (mkF m 265 #[.val (.int p0), .val (.int p1), .val (.int p2), .val (.int p3), .val (.int (Int32.ofNat l1)), .val (.int ca1), .val (.int cb1), .val (.int z7), .val (.int (Int32.ofNat l2)), .val (.int ca2), .val (.int cb2), .val (.int i1), .val (.int z12), .val (.int i2), .val (.ref b1), .val (.ref s2), .val (.ref b8), .val (.int (3 : Int32)), .val (.ref b1), .unset, .unset] [(.int (Int32.ofNat l1))])
            refine X11.step (fun hA hx hq t_ k_ => XS.iconst hA hx rfl (hb hq at_265) k_) ?_
            show OFin _ _ _ _ _ _ T11 (mkF m 266 #[.val (.int p0), .val (.int p1), .val (.int p2), .val (.int p3), .val (.int (Int32.ofNat l1)), .val (.int ca1), .val (.int cb1), .val (.int z7), .val (.int (Int32.ofNat l2)), .val (.int ca2), .val (.int cb2), .val (.int i1), .val (.int z12), .val (.int i2), .val (.ref b1), .val (.ref s2), .val (.ref b8), .val (.int (3 : Int32)), .val (.ref b1), .unset, .unset] [(.int (2 : Int32)), (.int (Int32.ofNat l1))])
            refine X11.step (fun hA hx hq t_ k_ => XS.icmpYes hA hx rfl (pc0 := 266) (pc' := 276) rfl (hb hq at_266) rfl (tlt ((own_lt32 l1 2 (by omega) (by decide)).mpr (by omega))).1 (by decide) (by decide) k_) ?_
            show OFin _ _ _ _ _ _ T11 (mkF m 276 #[.val (.int p0), .val (.int p1), .val (.int p2), .val (.int p3), .val (.int (Int32.ofNat l1)), .val (.int ca1), .val (.int cb1), .val (.int z7), .val (.int (Int32.ofNat l2)), .val (.int ca2), .val (.int cb2), .val (.int i1), .val (.int z12), .val (.int i2), .val (.ref b1), .val (.ref s2), .val (.ref b8), .val (.int (3 : Int32)), .val (.ref b1), .unset, .unset] [])
            refine X11.step (fun hA hx hq t_ k_ => XS.iconst hA hx rfl (hb hq at_276) k_) ?_
            show OFin _ _ _ _ _ _ T11 (mkF m 277 #[.val (.int p0), .val (.int p1), .val (.int p2), .val (.int p3), .val (.int (Int32.ofNat l1)), .val (.int ca1), .val (.int cb1), .val (.int z7), .val (.int (Int32.ofNat l2)), .val (.int ca2), .val (.int cb2), .val (.int i1), .val (.int z12), .val (.int i2), .val (.ref b1), .val (.ref s2), .val (.ref b8), .val (.int (3 : Int32)), .val (.ref b1), .unset, .unset] [(.int (1 : Int32))])
            refine X11.step (fun hA hx hq t_ k_ => XS.goto hA hx rfl (pc0 := 277) (pc' := 281) rfl (hb hq at_277) (by decide) (by decide) k_) ?_
            show OFin _ _ _ _ _ _ T11 (mkF m 281 #[.val (.int p0), .val (.int p1), .val (.int p2), .val (.int p3), .val (.int (Int32.ofNat l1)), .val (.int ca1), .val (.int cb1), .val (.int z7), .val (.int (Int32.ofNat l2)), .val (.int ca2), .val (.int cb2), .val (.int i1), .val (.int z12), .val (.int i2), .val (.ref b1), .val (.ref s2), .val (.ref b8), .val (.int (3 : Int32)), .val (.ref b1), .unset, .unset] [(.int (1 : Int32))])
            refine X11.step (fun hA hx hq t_ k_ => XS.istore hA hx rfl (hb hq at_281) rfl (l' := #[.val (.int p0), .val (.int p1), .val (.int p2), .val (.int p3), .val (.int (Int32.ofNat l1)), .val (.int ca1), .val (.int cb1), .val (.int z7), .val (.int (Int32.ofNat l2)), .val (.int ca2), .val (.int cb2), .val (.int i1), .val (.int z12), .val (.int i2), .val (.ref b1), .val (.ref s2), .val (.ref b8), .val (.int (3 : Int32)), .val (.ref b1), .val (.int (1 : Int32)), .unset]) rfl k_) ?_
            show OFin _ _ _ _ _ _ T11 (mkF m 283 #[.val (.int p0), .val (.int p1), .val (.int p2), .val (.int p3), .val (.int (Int32.ofNat l1)), .val (.int ca1), .val (.int cb1), .val (.int z7), .val (.int (Int32.ofNat l2)), .val (.int ca2), .val (.int cb2), .val (.int i1), .val (.int z12), .val (.int i2), .val (.ref b1), .val (.ref s2), .val (.ref b8), .val (.int (3 : Int32)), .val (.ref b1), .val (.int (1 : Int32)), .unset] [])
            exact j283 1 (Or.inl ⟨rfl, e12, fun _ => by omega, fun _ => by omega⟩)
          · refine X11.step (fun hA hx hq t_ k_ => XS.icmpNo hA hx rfl (hb hq at_253) rfl (flt (c2)).1 k_) ?_
            show OFin _ _ _ _ _ _ T11 (mkF m 256 #[.val (.int p0), .val (.int p1), .val (.int p2), .val (.int p3), .val (.int (Int32.ofNat l1)), .val (.int ca1), .val (.int cb1), .val (.int z7), .val (.int (Int32.ofNat l2)), .val (.int ca2), .val (.int cb2), .val (.int i1), .val (.int z12), .val (.int i2), .val (.ref b1), .val (.ref s2), .val (.ref b8), .val (.int (3 : Int32)), .val (.ref b1), .unset, .unset] [])
            have e0 : ¬ l1 < 1 := fun q => c2 ((own_lt32 l1 1 (by omega) (by decide)).mpr q)
            refine X11.step (fun hA hx hq t_ k_ => XS.iload hA hx rfl (hb hq at_256) rfl k_) ?_
            show OFin _ _ _ _ _ _ T11 (mkF m 258 #[.val (.int p0), .val (.int p1), .val (.int p2), .val (.int p3), .val (.int (Int32.ofNat l1)), .val (.int ca1), .val (.int cb1), .val (.int z7), .val (.int (Int32.ofNat l2)), .val (.int ca2), .val (.int cb2), .val (.int i1), .val (.int z12), .val (.int i2), .val (.ref b1), .val (.ref s2), .val (.ref b8), .val (.int (3 : Int32)), .val (.ref b1), .unset, .unset] [(.int ca1)])
            refine X11.step (fun hA hx hq t_ k_ => XS.iload hA hx rfl (hb hq at_258) rfl k_) ?_
            show OFin _ _ _ _ _ _ T11 (mkF m 260 #[.val (.int p0), .val (.int p1), .val (.int p2), .val (.int p3), .val (.int (Int32.ofNat l1)), .val (.int ca1), .val (.int cb1), .val (.int z7), .val (.int (Int32.ofNat l2)), .val (.int ca2), .val (.int cb2), .val (.int i1), .val (.int z12), .val (.int i2), .val (.ref b1), .val (.ref s2), .val (.ref b8), .val (.int (3 : Int32)), .val (.ref b1), .unset, .unset] [(.int ca2), (.int ca1)])
            by_cases c3 : ca1 = ca2
            · refine X11.step (fun hA hx hq t_ k_ => XS.icmpNo hA hx rfl (hb hq at_260) rfl (teq (c3)).2 k_) ?_
              show OFin _ _ _ _ _ _ T11 (mkF m 263 #[.val (.int p0), .val (.int p1), .val (.int p2), .val (.int p3), .val (.int (Int32.ofNat l1)), .val (.int ca1), .val (.int cb1), .val (.int z7), .val (.int (Int32.ofNat l2)), .val (.int ca2), .val (.int cb2), .val (.int i1), .val (.int z12), .val (.int i2), .val (.ref b1), .val (.ref s2), .val (.ref b8), .val (.int (3 : Int32)), .val (.ref b1), .unset, .unset] [])
              refine X11.step (fun hA hx hq t_ k_ => XS.iload hA hx rfl (hb hq at_263) rfl k_) ?_
              show OFin _ _ _ _ _ _ T11 (mkF m 265 #[.val (.int p0), .val (.int p1), .val (.int p2), .val (.int p3), .val (.int (Int32.ofNat l1)), .val (.int ca1), .val (.int cb1), .val (.int z7), .val (.int (Int32.ofNat l2)), .val (.int ca2), .val (.int cb2), .val (.int i1), .val (.int z12), .val (.int i2), .val (.ref b1), .val (.ref s2), .val (.ref b8), .val (.int (3 : Int32)), .val (.ref b1), .unset, .unset] [(.int (Int32.ofNat l1))])
              refine X11.step (fun hA hx hq t_ k_ => XS.iconst hA hx rfl (hb hq at_265) k_) ?_
              show OFin _ _ _ _ _ _ T11 (mkF m 266 #[.val (.int p0), .val (.int p1), .val (.int p2), .val (.int p3), .val (.int (Int32.ofNat l1)), .val (.int ca1), .val (.int cb1), .val (.int z7), .val (.int (Int32.ofNat l2)), .val (.int ca2), .val (.int cb2), .val (.int i1), .val (.int z12), .val (.int i2), .val (.ref b1), .val (.ref s2), .val (.ref b8), .val (.int (3 : Int32)), .val (.ref b1), .unset, .unset] [(.int (2 : Int32)), (.int (Int32.ofNat l1))])
              by_cases c4 : (Int32.ofNat l1) < (2 : Int32)
              · refine X11.step (fun hA hx hq t_ k_ => XS.icmpYes hA hx rfl (pc0 := 266) (pc' := 276) rfl (hb hq at_266) rfl (tlt (c4)).1 (by decide) (by decide) k_) ?_
                show OFin _ _ _ _ _ _ T11 (mkF m 276 #[.val (.int p0), .val (.int p1), .val (.int p2), .val (.int p3), .val (.int (Int32.ofNat l1)), .val (.int ca1), .val (.int cb1), .val (.int z7), .val (.int (Int32.ofNat l2)), .val (.int ca2), .val (.int cb2), .val (.int i1), .val (.int z12), .val (.int i2), .val (.ref b1), .val (.ref s2), .val (.ref b8), .val (.int (3 : Int32)), .val (.ref b1), .unset, .unset] [])
                have e1 := (own_lt32 l1 2 (by omega) (by decide)).mp c4
                refine X11.step (fun hA hx hq t_ k_ => XS.iconst hA hx rfl (hb hq at_276) k_) ?_
                show OFin _ _ _ _ _ _ T11 (mkF m 277 #[.val (.int p0), .val (.int p1), .val (.int p2), .val (.int p3), .val (.int (Int32.ofNat l1)), .val (.int ca1), .val (.int cb1), .val (.int z7), .val (.int (Int32.ofNat l2)), .val (.int ca2), .val (.int cb2), .val (.int i1), .val (.int z12), .val (.int i2), .val (.ref b1), .val (.ref s2), .val (.ref b8), .val (.int (3 : Int32)), .val (.ref b1), .unset, .unset] [(.int (1 : Int32))])
                refine X11.step (fun hA hx hq t_ k_ => XS.goto hA hx rfl (pc0 := 277) (pc' := 281) rfl (hb hq at_277) (by decide) (by decide) k_) ?_
                show OFin _ _ _ _ _ _ T11 (mkF m 281 #[.val (.int p0), .val (.int p1), .val (.int p2), .val (.int p3), .val (.int (Int32.ofNat l1)), .val (.int ca1), .val (.int cb1), .val (.int z7), .val (.int (Int32.ofNat l2)), .val (.int ca2), .val (.int cb2), .val (.int i1), .val (.int z12), .val (.int i2), .val (.ref b1), .val (.ref s2), .val (.ref b8), .val (.int (3 : Int32)), .val (.ref b1), .unset, .unset] [(.int (1 : Int32))])
                refine X11.step (fun hA hx hq t_ k_ => XS.istore hA hx rfl (hb hq at_281) rfl (l' := #[.val (.int p0), .val (.int p1), .val (.int p2), .val (.int p3), .val (.int (Int32.ofNat l1)), .val (.int ca1), .val (.int cb1), .val (.int z7), .val (.int (Int32.ofNat l2)), .val (.int ca2), .val (.int cb2), .val (.int i1), .val (.int z12), .val (.int i2), .val (.ref b1), .val (.ref s2), .val (.ref b8), .val (.int (3 : Int32)), .val (.ref b1), .val (.int (1 : Int32)), .unset]) rfl k_) ?_
                show OFin _ _ _ _ _ _ T11 (mkF m 283 #[.val (.int p0), .val (.int p1), .val (.int p2), .val (.int p3), .val (.int (Int32.ofNat l1)), .val (.int ca1), .val (.int cb1), .val (.int z7), .val (.int (Int32.ofNat l2)), .val (.int ca2), .val (.int cb2), .val (.int i1), .val (.int z12), .val (.int i2), .val (.ref b1), .val (.ref s2), .val (.ref b8), .val (.int (3 : Int32)), .val (.ref b1), .val (.int (1 : Int32)), .unset] [])
                exact j283 1 (Or.inl ⟨rfl, e12, fun _ => c3, fun _ => by omega⟩)
              · refine X11.step (fun hA hx hq t_ k_ => XS.icmpNo hA hx rfl (hb hq at_266) rfl (flt (c4)).1 k_) ?_
                show OFin _ _ _ _ _ _ T11 (mkF m 269 #[.val (.int p0), .val (.int p1), .val (.int p2), .val (.int p3), .val (.int (Int32.ofNat l1)), .val (.int ca1), .val (.int cb1), .val (.int z7), .val (.int (Int32.ofNat l2)), .val (.int ca2), .val (.int cb2), .val (.int i1), .val (.int z12), .val (.int i2), .val (.ref b1), .val (.ref s2), .val (.ref b8), .val (.int (3 : Int32)), .val (.ref b1), .unset, .unset] [])
                have e1 : ¬ l1 < 2 := fun q => c4 ((own_lt32 l1 2 (by omega) (by decide)).mpr q)
                refine X11.step (fun hA hx hq t_ k_ => XS.iload hA hx rfl (hb hq at_269) rfl k_) ?_
                show OFin _ _ _ _ _ _ T11 (mkF m 271 #[.val (.int p0), .val (.int p1), .val (.int p2), .val (.int p3), .val (.int (Int32.ofNat l1)), .val (.int ca1), .val (.int cb1), .val (.int z7), .val (.int (Int32.ofNat l2)), .val (.int ca2), .val (.int cb2), .val (.int i1), .val (.int z12), .val (.int i2), .val (.ref b1), .val (.ref s2), .val (.ref b8), .val (.int (3 : Int32)), .val (.ref b1), .unset, .unset] [(.int cb1)])
                refine X11.step (fun hA hx hq t_ k_ => XS.iload hA hx rfl (hb hq at_271) rfl k_) ?_
                show OFin _ _ _ _ _ _ T11 (mkF m 273 #[.val (.int p0), .val (.int p1), .val (.int p2), .val (.int p3), .val (.int (Int32.ofNat l1)), .val (.int ca1), .val (.int cb1), .val (.int z7), .val (.int (Int32.ofNat l2)), .val (.int ca2), .val (.int cb2), .val (.int i1), .val (.int z12), .val (.int i2), .val (.ref b1), .val (.ref s2), .val (.ref b8), .val (.int (3 : Int32)), .val (.ref b1), .unset, .unset] [(.int cb2), (.int cb1)])
                by_cases c5 : cb1 = cb2
                · refine X11.step (fun hA hx hq t_ k_ => XS.icmpNo hA hx rfl (hb hq at_273) rfl (teq (c5)).2 k_) ?_
                  show OFin _ _ _ _ _ _ T11 (mkF m 276 #[.val (.int p0), .val (.int p1), .val (.int p2), .val (.int p3), .val (.int (Int32.ofNat l1)), .val (.int ca1), .val (.int cb1), .val (.int z7), .val (.int (Int32.ofNat l2)), .val (.int ca2), .val (.int cb2), .val (.int i1), .val (.int z12), .val (.int i2), .val (.ref b1), .val (.ref s2), .val (.ref b8), .val (.int (3 : Int32)), .val (.ref b1), .unset, .unset] [])
                  refine X11.step (fun hA hx hq t_ k_ => XS.iconst hA hx rfl (hb hq at_276) k_) ?_
                  show OFin _ _ _ _ _ _ T11 (mkF m 277 #[.val (.int p0), .val (.int p1), .val (.int p2), .val (.int p3), .val (.int (Int32.ofNat l1)), .val (.int ca1), .val (.int cb1), .val (.int z7), .val (.int (Int32.ofNat l2)), .val (.int ca2), .val (.int cb2), .val (.int i1), .val (.int z12), .val (.int i2), .val (.ref b1), .val (.ref s2), .val (.ref b8), .val (.int (3 : Int32)), .val (.ref b1), .unset, .unset] [(.int (1 : Int32))])
                  refine X11.step (fun hA hx hq t_ k_ => XS.goto hA hx rfl (pc0 := 277) (pc' := 281) rfl (hb hq at_277) (by decide) (by decide) k_) ?_
                  show OFin _ _ _ _ _ _ T11 (mkF m 281 #[.val (.int p0), .val (.int p1), .val (.int p2), .val (.int p3), .val (.int (Int32.ofNat l1)), .val (.int ca1), .val (.int cb1), .val (.int z7), .val (.int (Int32.ofNat l2)), .val (.int ca2), .val (.int cb2), .val (.int i1), .val (.int z12), .val (.int i2), .val (.ref b1), .val (.ref s2), .val (.ref b8), .val (.int (3 : Int32)), .val (.ref b1), .unset, .unset] [(.int (1 : Int32))])
                  refine X11.step (fun hA hx hq t_ k_ => XS.istore hA hx rfl (hb hq at_281) rfl (l' := #[.val (.int p0), .val (.int p1), .val (.int p2), .val (.int p3), .val (.int (Int32.ofNat l1)), .val (.int ca1), .val (.int cb1), .val (.int z7), .val (.int (Int32.ofNat l2)), .val (.int ca2), .val (.int cb2), .val (.int i1), .val (.int z12), .val (.int i2), .val (.ref b1), .val (.ref s2), .val (.ref b8), .val (.int (3 : Int32)), .val (.ref b1), .val (.int (1 : Int32)), .unset]) rfl k_) ?_
                  show OFin _ _ _ _ _ _ T11 (mkF m 283 #[.val (.int p0), .val (.int p1), .val (.int p2), .val (.int p3), .val (.int (Int32.ofNat l1)), .val (.int ca1), .val (.int cb1), .val (.int z7), .val (.int (Int32.ofNat l2)), .val (.int ca2), .val (.int cb2), .val (.int i1), .val (.int z12), .val (.int i2), .val (.ref b1), .val (.ref s2), .val (.ref b8), .val (.int (3 : Int32)), .val (.ref b1), .val (.int (1 : Int32)), .unset] [])
                  exact j283 1 (Or.inl ⟨rfl, e12, fun _ => c3, fun _ => c5⟩)
                · refine X11.step (fun hA hx hq t_ k_ => XS.icmpYes hA hx rfl (pc0 := 273) (pc' := 280) rfl (hb hq at_273) rfl (feq (c5)).2 (by decide) (by decide) k_) ?_
                  show OFin _ _ _ _ _ _ T11 (mkF m 280 #[.val (.int p0), .val (.int p1), .val (.int p2), .val (.int p3), .val (.int (Int32.ofNat l1)), .val (.int ca1), .val (.int cb1), .val (.int z7), .val (.int (Int32.ofNat l2)), .val (.int ca2), .val (.int cb2), .val (.int i1), .val (.int z12), .val (.int i2), .val (.ref b1), .val (.ref s2), .val (.ref b8), .val (.int (3 : Int32)), .val (.ref b1), .unset, .unset] [])
                  refine X11.step (fun hA hx hq t_ k_ => XS.iconst hA hx rfl (hb hq at_280) k_) ?_
                  show OFin _ _ _ _ _ _ T11 (mkF m 281 #[.val (.int p0), .val (.int p1), .val (.int p2), .val (.int p3), .val (.int (Int32.ofNat l1)), .val (.int ca1), .val (.int cb1), .val (.int z7), .val (.int (Int32.ofNat l2)), .val (.int ca2), .val (.int cb2), .val (.int i1), .val (.int z12), .val (.int i2), .val (.ref b1), .val (.ref s2), .val (.ref b8), .val (.int (3 : Int32)), .val (.ref b1), .unset, .unset] [(.int (0 : Int32))])
                  refine X11.step (fun hA hx hq t_ k_ => XS.istore hA hx rfl (hb hq at_281) rfl (l' := #[.val (.int p0), .val (.int p1), .val (.int p2), .val (.int p3), .val (.int (Int32.ofNat l1)), .val (.int ca1), .val (.int cb1), .val (.int z7), .val (.int (Int32.ofNat l2)), .val (.int ca2), .val (.int cb2), .val (.int i1), .val (.int z12), .val (.int i2), .val (.ref b1), .val (.ref s2), .val (.ref b8), .val (.int (3 : Int32)), .val (.ref b1), .val (.int (0 : Int32)), .unset]) rfl k_) ?_
                  show OFin _ _ _ _ _ _ T11 (mkF m 283 #[.val (.int p0), .val (.int p1), .val (.int p2), .val (.int p3), .val (.int (Int32.ofNat l1)), .val (.int ca1), .val (.int cb1), .val (.int z7), .val (.int (Int32.ofNat l2)), .val (.int ca2), .val (.int cb2), .val (.int i1), .val (.int z12), .val (.int i2), .val (.ref b1), .val (.ref s2), .val (.ref b8), .val (.int (3 : Int32)), .val (.ref b1), .val (.int (0 : Int32)), .unset] [])
                  exact j283 0 (Or.inr ⟨rfl, fun q => c5 (q.2.2 (by omega))⟩)
            · refine X11.step (fun hA hx hq t_ k_ => XS.icmpYes hA hx rfl (pc0 := 260) (pc' := 280) rfl (hb hq at_260) rfl (feq (c3)).2 (by decide) (by decide) k_) ?_
              show OFin _ _ _ _ _ _ T11 (mkF m 280 #[.val (.int p0), .val (.int p1), .val (.int p2), .val (.int p3), .val (.int (Int32.ofNat l1)), .val (.int ca1), .val (.int cb1), .val (.int z7), .val (.int (Int32.ofNat l2)), .val (.int ca2), .val (.int cb2), .val (.int i1), .val (.int z12), .val (.int i2), .val (.ref b1), .val (.ref s2), .val (.ref b8), .val (.int (3 : Int32)), .val (.ref b1), .unset, .unset] [])
              refine X11.step (fun hA hx hq t_ k_ => XS.iconst hA hx rfl (hb hq at_280) k_) ?_
              show OFin _ _ _ _ _ _ T11 (mkF m 281 #[.val (.int p0), .val (.int p1), .val (.int p2), .val (.int p3), .val (.int (Int32.ofNat l1)), .val (.int ca1), .val (.int cb1), .val (.int z7), .val (.int (Int32.ofNat l2)), .val (.int ca2), .val (.int cb2), .val (.int i1), .val (.int z12), .val (.int i2), .val (.ref b1), .val (.ref s2), .val (.ref b8), .val (.int (3 : Int32)), .val (.ref b1), .unset, .unset] [(.int (0 : Int32))])
              refine X11.step (fun hA hx hq t_ k_ => XS.istore hA hx rfl (hb hq at_281) rfl (l' := #[.val (.int p0), .val (.int p1), .val (.int p2), .val (.int p3), .val (.int (Int32.ofNat l1)), .val (.int ca1), .val (.int cb1), .val (.int z7), .val (.int (Int32.ofNat l2)), .val (.int ca2), .val (.int cb2), .val (.int i1), .val (.int z12), .val (.int i2), .val (.ref b1), .val (.ref s2), .val (.ref b8), .val (.int (3 : Int32)), .val (.ref b1), .val (.int (0 : Int32)), .unset]) rfl k_) ?_
              show OFin _ _ _ _ _ _ T11 (mkF m 283 #[.val (.int p0), .val (.int p1), .val (.int p2), .val (.int p3), .val (.int (Int32.ofNat l1)), .val (.int ca1), .val (.int cb1), .val (.int z7), .val (.int (Int32.ofNat l2)), .val (.int ca2), .val (.int cb2), .val (.int i1), .val (.int z12), .val (.int i2), .val (.ref b1), .val (.ref s2), .val (.ref b8), .val (.int (3 : Int32)), .val (.ref b1), .val (.int (0 : Int32)), .unset] [])
              exact j283 0 (Or.inr ⟨rfl, fun q => c3 (q.2.1 (by omega))⟩)
        · refine X11.step (fun hA hx hq t_ k_ => XS.icmpYes hA hx rfl (pc0 := 247) (pc' := 280) rfl (hb hq at_247) rfl (feq (c1)).2 (by decide) (by decide) k_) ?_
          show OFin _ _ _ _ _ _ T11 (mkF m 280 #[.val (.int p0), .val (.int p1), .val (.int p2), .val (.int p3), .val (.int (Int32.ofNat l1)), .val (.int ca1), .val (.int cb1), .val (.int z7), .val (.int (Int32.ofNat l2)), .val (.int ca2), .val (.int cb2), .val (.int i1), .val (.int z12), .val (.int i2), .val (.ref b1), .val (.ref s2), .val (.ref b8), .val (.int (3 : Int32)), .val (.ref b1), .unset, .unset] [])
          refine X11.step (fun hA hx hq t_ k_ => XS.iconst hA hx rfl (hb hq at_280) k_) ?_
          show OFin _ _ _ _ _ _ T11 (mkF m 281 #[.val (.int p0), .val (.int p1), .val (.int p2), .val (.int p3), .val (.int (Int32.ofNat l1)), .val (.int ca1), .val (.int cb1), .val (.int z7), .val (.int (Int32.ofNat l2)), .val (.int ca2), .val (.int cb2), .val (.int i1), .val (.int z12), .val (.int i2), .val (.ref b1), .val (.ref s2), .val (.ref b8), .val (.int (3 : Int32)), .val (.ref b1), .unset, .unset] [(.int (0 : Int32))])
          refine X11.step (fun hA hx hq t_ k_ => XS.istore hA hx rfl (hb hq at_281) rfl (l' := #[.val (.int p0), .val (.int p1), .val (.int p2), .val (.int p3), .val (.int (Int32.ofNat l1)), .val (.int ca1), .val (.int cb1), .val (.int z7), .val (.int (Int32.ofNat l2)), .val (.int ca2), .val (.int cb2), .val (.int i1), .val (.int z12), .val (.int i2), .val (.ref b1), .val (.ref s2), .val (.ref b8), .val (.int (3 : Int32)), .val (.ref b1), .val (.int (0 : Int32)), .unset]) rfl k_) ?_
          show OFin _ _ _ _ _ _ T11 (mkF m 283 #[.val (.int p0), .val (.int p1), .val (.int p2), .val (.int p3), .val (.int (Int32.ofNat l1)), .val (.int ca1), .val (.int cb1), .val (.int z7), .val (.int (Int32.ofNat l2)), .val (.int ca2), .val (.int cb2), .val (.int i1), .val (.int z12), .val (.int i2), .val (.ref b1), .val (.ref s2), .val (.ref b8), .val (.int (3 : Int32)), .val (.ref b1), .val (.int (0 : Int32)), .unset] [])
          exact j283 0 (Or.inr ⟨rfl, fun q => c1 (congrArg Int32.ofNat q.1)⟩)
    refine X0.step (fun hA hx hq t_ k_ => XS.iloadN hA hx rfl (hb hq at_110) rfl k_) ?_
    show OFin _ _ _ _ _ _ T0 (mkF m 111 #[.val (.int p0), .val (.int p1), .val (.int p2), .val (.int p3), .val (.int (Int32.ofNat l1)), .val (.int ca1), .val (.int cb1), .val (.int z7), .val (.int (Int32.ofNat l2)), .val (.int ca2), .val (.int cb2), .val (.int i1), .unset, .unset, .unset, .unset, .unset, .unset, .unset, .unset, .unset] [(.int p3)])
    refine X0.step (fun hA hx hq t_ k_ => XS.iconst hA hx rfl (hb hq at_111) k_) ?_
    show OFin _ _ _ _ _ _ T0 (mkF m 112 #[.val (.int p0), .val (.int p1), .val (.int p2), .val (.int p3), .val (.int (Int32.ofNat l1)), .val (.int ca1), .val (.int cb1), .val (.int z7), .val (.int (Int32.ofNat l2)), .val (.int ca2), .val (.int cb2), .val (.int i1), .unset, .unset, .unset, .unset, .unset, .unset, .unset, .unset, .unset] [(.int (2 : Int32)), (.int p3)])
    refine X0.step (fun hA hx hq t_ k_ => XS.iand hA hx rfl (hb hq at_112) rfl k_) ?_
    show OFin _ _ _ _ _ _ T0 (mkF m 113 #[.val (.int p0), .val (.int p1), .val (.int p2), .val (.int p3), .val (.int (Int32.ofNat l1)), .val (.int ca1), .val (.int cb1), .val (.int z7), .val (.int (Int32.ofNat l2)), .val (.int ca2), .val (.int cb2), .val (.int i1), .unset, .unset, .unset, .unset, .unset, .unset, .unset, .unset, .unset] [(.int (p3 &&& (2 : Int32)))])
    by_cases k2 : (p3 &&& (2 : Int32)) = (0 : Int32)
    · refine X0.step (fun hA hx hq t_ k_ => XS.ifYes hA hx rfl (pc0 := 113) (pc' := 120) rfl (hb hq at_113) rfl ((if0 _ _).trans (teq (k2)).1) (by decide) (by decide) k_) ?_
      show OFin _ _ _ _ _ _ T0 (mkF m 120 #[.val (.int p0), .val (.int p1), .val (.int p2), .val (.int p3), .val (.int (Int32.ofNat l1)), .val (.int ca1), .val (.int cb1), .val (.int z7), .val (.int (Int32.ofNat l2)), .val (.int ca2), .val (.int cb2), .val (.int i1), .unset, .unset, .unset, .unset, .unset, .unset, .unset, .unset, .unset] [])
      refine X0.step (fun hA hx hq t_ k_ => XS.iconst hA hx rfl (hb hq at_120) k_) ?_
      show OFin _ _ _ _ _ _ T0 (mkF m 121 #[.val (.int p0), .val (.int p1), .val (.int p2), .val (.int p3), .val (.int (Int32.ofNat l1)), .val (.int ca1), .val (.int cb1), .val (.int z7), .val (.int (Int32.ofNat l2)), .val (.int ca2), .val (.int cb2), .val (.int i1), .unset, .unset, .unset, .unset, .unset, .unset, .unset, .unset, .unset] [(.int (0 : Int32))])
      refine X0.step (fun hA hx hq t_ k_ => XS.istore hA hx rfl (hb hq at_121) rfl (l' := #[.val (.int p0), .val (.int p1), .val (.int p2), .val (.int p3), .val (.int (Int32.ofNat l1)), .val (.int ca1), .val (.int cb1), .val (.int z7), .val (.int (Int32.ofNat l2)), .val (.int ca2), .val (.int cb2), .val (.int i1), .val (.int (0 : Int32)), .unset, .unset, .unset, .unset, .unset, .unset, .unset, .unset]) rfl k_) ?_
      show OFin _ _ _ _ _ _ T0 (mkF m 123 #[.val (.int p0), .val (.int p1), .val (.int p2), .val (.int p3), .val (.int (Int32.ofNat l1)), .val (.int ca1), .val (.int cb1), .val (.int z7), .val (.int (Int32.ofNat l2)), .val (.int ca2), .val (.int cb2), .val (.int i1), .val (.int (0 : Int32)), .unset, .unset, .unset, .unset, .unset, .unset, .unset, .unset] [])
      refine X0.step (fun hA hx hq t_ k_ => XS.iload hA hx rfl (hb hq at_123) rfl k_) ?_
      show OFin _ _ _ _ _ _ T0 (mkF m 125 #[.val (.int p0), .val (.int p1), .val (.int p2), .val (.int p3), .val (.int (Int32.ofNat l1)), .val (.int ca1), .val (.int cb1), .val (.int z7), .val (.int (Int32.ofNat l2)), .val (.int ca2), .val (.int cb2), .val (.int i1), .val (.int (0 : Int32)), .unset, .unset, .unset, .unset, .unset, .unset, .unset, .unset] [(.int (0 : Int32))])
      refine X0.step (fun hA hx hq t_ k_ => XS.ifYes hA hx rfl (pc0 := 125) (pc' := 133) rfl (hb hq at_125) rfl ((if0 _ _).trans (teq ((rfl : (0 : Int32) = (0 : Int32)))).1) (by decide) (by decide) k_) ?_
      show OFin _ _ _ _ _ _ T0 (mkF m 133 #[.val (.int p0), .val (.int p1), .val (.int p2), .val (.int p3), .val (.int (Int32.ofNat l1)), .val (.int ca1), .val (.int cb1), .val (.int z7), .val (.int (Int32.ofNat l2)), .val (.int ca2), .val (.int cb2), .val (.int i1), .val (.int (0 : Int32)), .unset, .unset, .unset, .unset, .unset, .unset, .unset, .unset] [])
      refine X0.step (fun hA hx hq t_ k_ => XS.iloadN hA hx rfl (hb hq at_133) rfl k_) ?_
      show OFin _ _ _ _ _ _ T0 (mkF m 134 #[.val (.int p0), .val (.int p1), .val (.int p2), .val (.int p3), .val (.int (Int32.ofNat l1)), .val (.int ca1), .val (.int cb1), .val (.int z7), .val (.int (Int32.ofNat l2)), .val (.int ca2), .val (.int cb2), .val (.int i1), .val (.int (0 : Int32)), .unset, .unset, .unset, .unset, .unset, .unset, .unset, .unset] [(.int p2)])
      refine X0.step (fun hA hx hq t_ k_ => XS.bipush hA hx rfl (hb hq at_134) k_) ?_
      show OFin _ _ _ _ _ _ T0 (mkF m 136 #[.val (.int p0), .val (.int p1), .val (.int p2), .val (.int p3), .val (.int (Int32.ofNat l1)), .val (.int ca1), .val (.int cb1), .val (.int z7), .val (.int (Int32.ofNat l2)), .val (.int ca2), .val (.int cb2), .val (.int i1), .val (.int (0 : Int32)), .unset, .unset, .unset, .unset, .unset, .unset, .unset, .unset] [(.int (8 : Int32)), (.int p2)])
      refine X0.step (fun hA hx hq t_ k_ => XS.iushr hA hx rfl (hb hq at_136) rfl k_) ?_
      show OFin _ _ _ _ _ _ T0 (mkF m 137 #[.val (.int p0), .val (.int p1), .val (.int p2), .val (.int p3), .val (.int (Int32.ofNat l1)), .val (.int ca1), .val (.int cb1), .val (.int z7), .val (.int (Int32.ofNat l2)), .val (.int ca2), .val (.int cb2), .val (.int i1), .val (.int (0 : Int32)), .unset, .unset, .unset, .unset, .unset, .unset, .unset, .unset] [(.int ((p2.toUInt32 >>> ((8 : Int32) &&& 31).toUInt32).toInt32))])
      refine X0.ldcI (hw _ (List.mem_of_getElem? (i := 0) rfl)) (g := (mkF m 137 #[.val (.int p0), .val (.int p1), .val (.int p2), .val (.int p3), .val (.int (Int32.ofNat l1)), .val (.int ca1), .val (.int cb1), .val (.int z7), .val (.int (Int32.ofNat l2)), .val (.int ca2), .val (.int cb2), .val (.int i1), .val (.int (0 : Int32)), .unset, .unset, .unset, .unset, .unset, .unset, .unset, .unset] [(.int ((p2.toUInt32 >>> ((8 : Int32) &&& 31).toUInt32).toInt32))])) rfl at_137 ?_
      show OFin _ _ _ _ _ _ T0 (mkF m 139 #[.val (.int p0), .val (.int p1), .val (.int p2), .val (.int p3), .val (.int (Int32.ofNat l1)), .val (.int ca1), .val (.int cb1), .val (.int z7), .val (.int (Int32.ofNat l2)), .val (.int ca2), .val (.int cb2), .val (.int i1), .val (.int (0 : Int32)), .unset, .unset, .unset, .unset, .unset, .unset, .unset, .unset] [(.int (2147483647 : Int32)), (.int ((p2.toUInt32 >>> ((8 : Int32) &&& 31).toUInt32).toInt32))])
      refine X0.step (fun hA hx hq t_ k_ => XS.iand hA hx rfl (hb hq at_139) rfl k_) ?_
      show OFin _ _ _ _ _ _ T0 (mkF m 140 #[.val (.int p0), .val (.int p1), .val (.int p2), .val (.int p3), .val (.int (Int32.ofNat l1)), .val (.int ca1), .val (.int cb1), .val (.int z7), .val (.int (Int32.ofNat l2)), .val (.int ca2), .val (.int cb2), .val (.int i1), .val (.int (0 : Int32)), .unset, .unset, .unset, .unset, .unset, .unset, .unset, .unset] [(.int (((p2.toUInt32 >>> ((8 : Int32) &&& 31).toUInt32).toInt32) &&& (2147483647 : Int32)))])
      refine X0.step (fun hA hx hq t_ k_ => XS.bipush hA hx rfl (hb hq at_140) k_) ?_
      show OFin _ _ _ _ _ _ T0 (mkF m 142 #[.val (.int p0), .val (.int p1), .val (.int p2), .val (.int p3), .val (.int (Int32.ofNat l1)), .val (.int ca1), .val (.int cb1), .val (.int z7), .val (.int (Int32.ofNat l2)), .val (.int ca2), .val (.int cb2), .val (.int i1), .val (.int (0 : Int32)), .unset, .unset, .unset, .unset, .unset, .unset, .unset, .unset] [(.int (6 : Int32)), (.int (((p2.toUInt32 >>> ((8 : Int32) &&& 31).toUInt32).toInt32) &&& (2147483647 : Int32)))])
      refine X0.irem (g := (mkF m 142 #[.val (.int p0), .val (.int p1), .val (.int p2), .val (.int p3), .val (.int (Int32.ofNat l1)), .val (.int ca1), .val (.int cb1), .val (.int z7), .val (.int (Int32.ofNat l2)), .val (.int ca2), .val (.int cb2), .val (.int i1), .val (.int (0 : Int32)), .unset, .unset, .unset, .unset, .unset, .unset, .unset, .unset] [(.int (6 : Int32)), (.int (((p2.toUInt32 >>> ((8 : Int32) &&& 31).toUInt32).toInt32) &&& (2147483647 : Int32)))])) rfl at_142 rfl (by decide) ?_
      show OFin _ _ _ _ _ _ T0 (mkF m 143 #[.val (.int p0), .val (.int p1), .val (.int p2), .val (.int p3), .val (.int (Int32.ofNat l1)), .val (.int ca1), .val (.int cb1), .val (.int z7), .val (.int (Int32.ofNat l2)), .val (.int ca2), .val (.int cb2), .val (.int i1), .val (.int (0 : Int32)), .unset, .unset, .unset, .unset, .unset, .unset, .unset, .unset] [(.int ((((p2.toUInt32 >>> ((8 : Int32) &&& 31).toUInt32).toInt32) &&& (2147483647 : Int32)) % (6 : Int32)))])
      have hi2 : own_k6 ((((p2.toUInt32 >>> ((8 : Int32) &&& 31).toUInt32).toInt32) &&& (2147483647 : Int32)) % (6 : Int32)) := own_i6 _
      generalize ((((p2.toUInt32 >>> ((8 : Int32) &&& 31).toUInt32).toInt32) &&& (2147483647 : Int32)) % (6 : Int32)) = i2 at hi2 ⊢
      show OFin _ _ _ _ _ _ T0 (mkF m 143 #[.val (.int p0), .val (.int p1), .val (.int p2), .val (.int p3), .val (.int (Int32.ofNat l1)), .val (.int ca1), .val (.int cb1), .val (.int z7), .val (.int (Int32.ofNat l2)), .val (.int ca2), .val (.int cb2), .val (.int i1), .val (.int (0 : Int32)), .unset, .unset, .unset, .unset, .unset, .unset, .unset, .unset] [(.int i2)])
      refine X0.step (fun hA hx hq t_ k_ => XS.istore hA hx rfl (hb hq at_143) rfl (l' := #[.val (.int p0), .val (.int p1), .val (.int p2), .val (.int p3), .val (.int (Int32.ofNat l1)), .val (.int ca1), .val (.int cb1), .val (.int z7), .val (.int (Int32.ofNat l2)), .val (.int ca2), .val (.int cb2), .val (.int i1), .val (.int (0 : Int32)), .val (.int i2), .unset, .unset, .unset, .unset, .unset, .unset, .unset]) rfl k_) ?_
      show OFin _ _ _ _ _ _ T0 (mkF m 145 #[.val (.int p0), .val (.int p1), .val (.int p2), .val (.int p3), .val (.int (Int32.ofNat l1)), .val (.int ca1), .val (.int cb1), .val (.int z7), .val (.int (Int32.ofNat l2)), .val (.int ca2), .val (.int cb2), .val (.int i1), .val (.int (0 : Int32)), .val (.int i2), .unset, .unset, .unset, .unset, .unset, .unset, .unset] [])
      exact j145 _ _ hi2
    · refine X0.step (fun hA hx hq t_ k_ => XS.ifNo hA hx rfl (hb hq at_113) rfl ((if0 _ _).trans (feq (k2)).1) k_) ?_
      show OFin _ _ _ _ _ _ T0 (mkF m 116 #[.val (.int p0), .val (.int p1), .val (.int p2), .val (.int p3), .val (.int (Int32.ofNat l1)), .val (.int ca1), .val (.int cb1), .val (.int z7), .val (.int (Int32.ofNat l2)), .val (.int ca2), .val (.int cb2), .val (.int i1), .unset, .unset, .unset, .unset, .unset, .unset, .unset, .unset, .unset] [])
      refine X0.step (fun hA hx hq t_ k_ => XS.iconst hA hx rfl (hb hq at_116) k_) ?_
      show OFin _ _ _ _ _ _ T0 (mkF m 117 #[.val (.int p0), .val (.int p1), .val (.int p2), .val (.int p3), .val (.int (Int32.ofNat l1)), .val (.int ca1), .val (.int cb1), .val (.int z7), .val (.int (Int32.ofNat l2)), .val (.int ca2), .val (.int cb2), .val (.int i1), .unset, .unset, .unset, .unset, .unset, .unset, .unset, .unset, .unset] [(.int (1 : Int32))])
      refine X0.step (fun hA hx hq t_ k_ => XS.goto hA hx rfl (pc0 := 117) (pc' := 121) rfl (hb hq at_117) (by decide) (by decide) k_) ?_
      show OFin _ _ _ _ _ _ T0 (mkF m 121 #[.val (.int p0), .val (.int p1), .val (.int p2), .val (.int p3), .val (.int (Int32.ofNat l1)), .val (.int ca1), .val (.int cb1), .val (.int z7), .val (.int (Int32.ofNat l2)), .val (.int ca2), .val (.int cb2), .val (.int i1), .unset, .unset, .unset, .unset, .unset, .unset, .unset, .unset, .unset] [(.int (1 : Int32))])
      refine X0.step (fun hA hx hq t_ k_ => XS.istore hA hx rfl (hb hq at_121) rfl (l' := #[.val (.int p0), .val (.int p1), .val (.int p2), .val (.int p3), .val (.int (Int32.ofNat l1)), .val (.int ca1), .val (.int cb1), .val (.int z7), .val (.int (Int32.ofNat l2)), .val (.int ca2), .val (.int cb2), .val (.int i1), .val (.int (1 : Int32)), .unset, .unset, .unset, .unset, .unset, .unset, .unset, .unset]) rfl k_) ?_
      show OFin _ _ _ _ _ _ T0 (mkF m 123 #[.val (.int p0), .val (.int p1), .val (.int p2), .val (.int p3), .val (.int (Int32.ofNat l1)), .val (.int ca1), .val (.int cb1), .val (.int z7), .val (.int (Int32.ofNat l2)), .val (.int ca2), .val (.int cb2), .val (.int i1), .val (.int (1 : Int32)), .unset, .unset, .unset, .unset, .unset, .unset, .unset, .unset] [])
      refine X0.step (fun hA hx hq t_ k_ => XS.iload hA hx rfl (hb hq at_123) rfl k_) ?_
      show OFin _ _ _ _ _ _ T0 (mkF m 125 #[.val (.int p0), .val (.int p1), .val (.int p2), .val (.int p3), .val (.int (Int32.ofNat l1)), .val (.int ca1), .val (.int cb1), .val (.int z7), .val (.int (Int32.ofNat l2)), .val (.int ca2), .val (.int cb2), .val (.int i1), .val (.int (1 : Int32)), .unset, .unset, .unset, .unset, .unset, .unset, .unset, .unset] [(.int (1 : Int32))])
      refine X0.step (fun hA hx hq t_ k_ => XS.ifNo hA hx rfl (hb hq at_125) rfl ((if0 _ _).trans (feq ((by decide))).1) k_) ?_
      show OFin _ _ _ _ _ _ T0 (mkF m 128 #[.val (.int p0), .val (.int p1), .val (.int p2), .val (.int p3), .val (.int (Int32.ofNat l1)), .val (.int ca1), .val (.int cb1), .val (.int z7), .val (.int (Int32.ofNat l2)), .val (.int ca2), .val (.int cb2), .val (.int i1), .val (.int (1 : Int32)), .unset, .unset, .unset, .unset, .unset, .unset, .unset, .unset] [])
      refine X0.step (fun hA hx hq t_ k_ => XS.iload hA hx rfl (hb hq at_128) rfl k_) ?_
      show OFin _ _ _ _ _ _ T0 (mkF m 130 #[.val (.int p0), .val (.int p1), .val (.int p2), .val (.int p3), .val (.int (Int32.ofNat l1)), .val (.int ca1), .val (.int cb1), .val (.int z7), .val (.int (Int32.ofNat l2)), .val (.int ca2), .val (.int cb2), .val (.int i1), .val (.int (1 : Int32)), .unset, .unset, .unset, .unset, .unset, .unset, .unset, .unset] [(.int i1)])
      refine X0.step (fun hA hx hq t_ k_ => XS.goto hA hx rfl (pc0 := 130) (pc' := 143) rfl (hb hq at_130) (by decide) (by decide) k_) ?_
      show OFin _ _ _ _ _ _ T0 (mkF m 143 #[.val (.int p0), .val (.int p1), .val (.int p2), .val (.int p3), .val (.int (Int32.ofNat l1)), .val (.int ca1), .val (.int cb1), .val (.int z7), .val (.int (Int32.ofNat l2)), .val (.int ca2), .val (.int cb2), .val (.int i1), .val (.int (1 : Int32)), .unset, .unset, .unset, .unset, .unset, .unset, .unset, .unset] [(.int i1)])
      refine X0.step (fun hA hx hq t_ k_ => XS.istore hA hx rfl (hb hq at_143) rfl (l' := #[.val (.int p0), .val (.int p1), .val (.int p2), .val (.int p3), .val (.int (Int32.ofNat l1)), .val (.int ca1), .val (.int cb1), .val (.int z7), .val (.int (Int32.ofNat l2)), .val (.int ca2), .val (.int cb2), .val (.int i1), .val (.int (1 : Int32)), .val (.int i1), .unset, .unset, .unset, .unset, .unset, .unset, .unset]) rfl k_) ?_
      show OFin _ _ _ _ _ _ T0 (mkF m 145 #[.val (.int p0), .val (.int p1), .val (.int p2), .val (.int p3), .val (.int (Int32.ofNat l1)), .val (.int ca1), .val (.int cb1), .val (.int z7), .val (.int (Int32.ofNat l2)), .val (.int ca2), .val (.int cb2), .val (.int i1), .val (.int (1 : Int32)), .val (.int i1), .unset, .unset, .unset, .unset, .unset, .unset, .unset] [])
      exact j145 _ _ hi1
  refine X0.step (fun hA hx hq t_ k_ => XS.iloadN hA hx rfl (hb hq at_29) rfl k_) ?_
  show OFin _ _ _ _ _ _ T0 (mkF m 30 #[.val (.int p0), .val (.int p1), .val (.int p2), .val (.int p3), .val (.int (Int32.ofNat l1)), .val (.int ca1), .val (.int cb1), .unset, .unset, .unset, .unset, .unset, .unset, .unset, .unset, .unset, .unset, .unset, .unset, .unset, .unset] [(.int p3)])
  refine X0.step (fun hA hx hq t_ k_ => XS.iconst hA hx rfl (hb hq at_30) k_) ?_
  show OFin _ _ _ _ _ _ T0 (mkF m 31 #[.val (.int p0), .val (.int p1), .val (.int p2), .val (.int p3), .val (.int (Int32.ofNat l1)), .val (.int ca1), .val (.int cb1), .unset, .unset, .unset, .unset, .unset, .unset, .unset, .unset, .unset, .unset, .unset, .unset, .unset, .unset] [(.int (1 : Int32)), (.int p3)])
  refine X0.step (fun hA hx hq t_ k_ => XS.iand hA hx rfl (hb hq at_31) rfl k_) ?_
  show OFin _ _ _ _ _ _ T0 (mkF m 32 #[.val (.int p0), .val (.int p1), .val (.int p2), .val (.int p3), .val (.int (Int32.ofNat l1)), .val (.int ca1), .val (.int cb1), .unset, .unset, .unset, .unset, .unset, .unset, .unset, .unset, .unset, .unset, .unset, .unset, .unset, .unset] [(.int (p3 &&& (1 : Int32)))])
  by_cases k1 : (p3 &&& (1 : Int32)) = (0 : Int32)
  · refine X0.step (fun hA hx hq t_ k_ => XS.ifYes hA hx rfl (pc0 := 32) (pc' := 39) rfl (hb hq at_32) rfl ((if0 _ _).trans (teq (k1)).1) (by decide) (by decide) k_) ?_
    show OFin _ _ _ _ _ _ T0 (mkF m 39 #[.val (.int p0), .val (.int p1), .val (.int p2), .val (.int p3), .val (.int (Int32.ofNat l1)), .val (.int ca1), .val (.int cb1), .unset, .unset, .unset, .unset, .unset, .unset, .unset, .unset, .unset, .unset, .unset, .unset, .unset, .unset] [])
    refine X0.step (fun hA hx hq t_ k_ => XS.iconst hA hx rfl (hb hq at_39) k_) ?_
    show OFin _ _ _ _ _ _ T0 (mkF m 40 #[.val (.int p0), .val (.int p1), .val (.int p2), .val (.int p3), .val (.int (Int32.ofNat l1)), .val (.int ca1), .val (.int cb1), .unset, .unset, .unset, .unset, .unset, .unset, .unset, .unset, .unset, .unset, .unset, .unset, .unset, .unset] [(.int (0 : Int32))])
    refine X0.step (fun hA hx hq t_ k_ => XS.istore hA hx rfl (hb hq at_40) rfl (l' := #[.val (.int p0), .val (.int p1), .val (.int p2), .val (.int p3), .val (.int (Int32.ofNat l1)), .val (.int ca1), .val (.int cb1), .val (.int (0 : Int32)), .unset, .unset, .unset, .unset, .unset, .unset, .unset, .unset, .unset, .unset, .unset, .unset, .unset]) rfl k_) ?_
    show OFin _ _ _ _ _ _ T0 (mkF m 42 #[.val (.int p0), .val (.int p1), .val (.int p2), .val (.int p3), .val (.int (Int32.ofNat l1)), .val (.int ca1), .val (.int cb1), .val (.int (0 : Int32)), .unset, .unset, .unset, .unset, .unset, .unset, .unset, .unset, .unset, .unset, .unset, .unset, .unset] [])
    refine X0.step (fun hA hx hq t_ k_ => XS.iload hA hx rfl (hb hq at_42) rfl k_) ?_
    show OFin _ _ _ _ _ _ T0 (mkF m 44 #[.val (.int p0), .val (.int p1), .val (.int p2), .val (.int p3), .val (.int (Int32.ofNat l1)), .val (.int ca1), .val (.int cb1), .val (.int (0 : Int32)), .unset, .unset, .unset, .unset, .unset, .unset, .unset, .unset, .unset, .unset, .unset, .unset, .unset] [(.int (0 : Int32))])
    refine X0.step (fun hA hx hq t_ k_ => XS.ifYes hA hx rfl (pc0 := 44) (pc' := 52) rfl (hb hq at_44) rfl ((if0 _ _).trans (teq ((rfl : (0 : Int32) = (0 : Int32)))).1) (by decide) (by decide) k_) ?_
    show OFin _ _ _ _ _ _ T0 (mkF m 52 #[.val (.int p0), .val (.int p1), .val (.int p2), .val (.int p3), .val (.int (Int32.ofNat l1)), .val (.int ca1), .val (.int cb1), .val (.int (0 : Int32)), .unset, .unset, .unset, .unset, .unset, .unset, .unset, .unset, .unset, .unset, .unset, .unset, .unset] [])
    refine X0.step (fun hA hx hq t_ k_ => XS.iloadN hA hx rfl (hb hq at_52) rfl k_) ?_
    show OFin _ _ _ _ _ _ T0 (mkF m 53 #[.val (.int p0), .val (.int p1), .val (.int p2), .val (.int p3), .val (.int (Int32.ofNat l1)), .val (.int ca1), .val (.int cb1), .val (.int (0 : Int32)), .unset, .unset, .unset, .unset, .unset, .unset, .unset, .unset, .unset, .unset, .unset, .unset, .unset] [(.int p1)])
    refine X0.step (fun hA hx hq t_ k_ => XS.iconst hA hx rfl (hb hq at_53) k_) ?_
    show OFin _ _ _ _ _ _ T0 (mkF m 54 #[.val (.int p0), .val (.int p1), .val (.int p2), .val (.int p3), .val (.int (Int32.ofNat l1)), .val (.int ca1), .val (.int cb1), .val (.int (0 : Int32)), .unset, .unset, .unset, .unset, .unset, .unset, .unset, .unset, .unset, .unset, .unset, .unset, .unset] [(.int (3 : Int32)), (.int p1)])
    refine X0.step (fun hA hx hq t_ k_ => XS.iand hA hx rfl (hb hq at_54) rfl k_) ?_
    show OFin _ _ _ _ _ _ T0 (mkF m 55 #[.val (.int p0), .val (.int p1), .val (.int p2), .val (.int p3), .val (.int (Int32.ofNat l1)), .val (.int ca1), .val (.int cb1), .val (.int (0 : Int32)), .unset, .unset, .unset, .unset, .unset, .unset, .unset, .unset, .unset, .unset, .unset, .unset, .unset] [(.int (p1 &&& (3 : Int32)))])
    refine X0.step (fun hA hx hq t_ k_ => XS.iconst hA hx rfl (hb hq at_55) k_) ?_
    show OFin _ _ _ _ _ _ T0 (mkF m 56 #[.val (.int p0), .val (.int p1), .val (.int p2), .val (.int p3), .val (.int (Int32.ofNat l1)), .val (.int ca1), .val (.int cb1), .val (.int (0 : Int32)), .unset, .unset, .unset, .unset, .unset, .unset, .unset, .unset, .unset, .unset, .unset, .unset, .unset] [(.int (3 : Int32)), (.int (p1 &&& (3 : Int32)))])
    refine X0.irem (g := (mkF m 56 #[.val (.int p0), .val (.int p1), .val (.int p2), .val (.int p3), .val (.int (Int32.ofNat l1)), .val (.int ca1), .val (.int cb1), .val (.int (0 : Int32)), .unset, .unset, .unset, .unset, .unset, .unset, .unset, .unset, .unset, .unset, .unset, .unset, .unset] [(.int (3 : Int32)), (.int (p1 &&& (3 : Int32)))])) rfl at_56 rfl (by decide) ?_
    show OFin _ _ _ _ _ _ T0 (mkF m 57 #[.val (.int p0), .val (.int p1), .val (.int p2), .val (.int p3), .val (.int (Int32.ofNat l1)), .val (.int ca1), .val (.int cb1), .val (.int (0 : Int32)), .unset, .unset, .unset, .unset, .unset, .unset, .unset, .unset, .unset, .unset, .unset, .unset, .unset] [(.int ((p1 &&& (3 : Int32)) % (3 : Int32)))])
    obtain ⟨l2, hl2, el2⟩ : ∃ l : Nat, l ≤ 2 ∧ ((p1 &&& (3 : Int32)) % (3 : Int32)) = Int32.ofNat l := own_l3 _
    generalize ((p1 &&& (3 : Int32)) % (3 : Int32)) = z_ at el2 ⊢
    subst el2
    show OFin _ _ _ _ _ _ T0 (mkF m 57 #[.val (.int p0), .val (.int p1), .val (.int p2), .val (.int p3), .val (.int (Int32.ofNat l1)), .val (.int ca1), .val (.int cb1), .val (.int (0 : Int32)), .unset, .unset, .unset, .unset, .unset, .unset, .unset, .unset, .unset, .unset, .unset, .unset, .unset] [(.int (Int32.ofNat l2))])
    refine X0.step (fun hA hx hq t_ k_ => XS.istore hA hx rfl (hb hq at_57) rfl (l' := #[.val (.int p0), .val (.int p1), .val (.int p2), .val (.int p3), .val (.int (Int32.ofNat l1)), .val (.int ca1), .val (.int cb1), .val (.int (0 : Int32)), .val (.int (Int32.ofNat l2)), .unset, .unset, .unset, .unset, .unset, .unset, .unset, .unset, .unset, .unset, .unset, .unset]) rfl k_) ?_
    show OFin _ _ _ _ _ _ T0 (mkF m 59 #[.val (.int p0), .val (.int p1), .val (.int p2), .val (.int p3), .val (.int (Int32.ofNat l1)), .val (.int ca1), .val (.int cb1), .val (.int (0 : Int32)), .val (.int (Int32.ofNat l2)), .unset, .unset, .unset, .unset, .unset, .unset, .unset, .unset, .unset, .unset, .unset, .unset] [])
    refine X0.step (fun hA hx hq t_ k_ => XS.iload hA hx rfl (hb hq at_59) rfl k_) ?_
    show OFin _ _ _ _ _ _ T0 (mkF m 61 #[.val (.int p0), .val (.int p1), .val (.int p2), .val (.int p3), .val (.int (Int32.ofNat l1)), .val (.int ca1), .val (.int cb1), .val (.int (0 : Int32)), .val (.int (Int32.ofNat l2)), .unset, .unset, .unset, .unset, .unset, .unset, .unset, .unset, .unset, .unset, .unset, .unset] [(.int (0 : Int32))])
    refine X0.step (fun hA hx hq t_ k_ => XS.ifYes hA hx rfl (pc0 := 61) (pc' := 69) rfl (hb hq at_61) rfl ((if0 _ _).trans (teq ((rfl : (0 : Int32) = (0 : Int32)))).1) (by decide) (by decide) k_) ?_
    show OFin _ _ _ _ _ _ T0 (mkF m 69 #[.val (.int p0), .val (.int p1), .val (.int p2), .val (.int p3), .val (.int (Int32.ofNat l1)), .val (.int ca1), .val (.int cb1), .val (.int (0 : Int32)), .val (.int (Int32.ofNat l2)), .unset, .unset, .unset, .unset, .unset, .unset, .unset, .unset, .unset, .unset, .unset, .unset] [])
    refine X0.step (fun hA hx hq t_ k_ => XS.iloadN hA hx rfl (hb hq at_69) rfl k_) ?_
    show OFin _ _ _ _ _ _ T0 (mkF m 70 #[.val (.int p0), .val (.int p1), .val (.int p2), .val (.int p3), .val (.int (Int32.ofNat l1)), .val (.int ca1), .val (.int cb1), .val (.int (0 : Int32)), .val (.int (Int32.ofNat l2)), .unset, .unset, .unset, .unset, .unset, .unset, .unset, .unset, .unset, .unset, .unset, .unset] [(.int p1)])
    refine X0.step (fun hA hx hq t_ k_ => XS.bipush hA hx rfl (hb hq at_70) k_) ?_
    show OFin _ _ _ _ _ _ T0 (mkF m 72 #[.val (.int p0), .val (.int p1), .val (.int p2), .val (.int p3), .val (.int (Int32.ofNat l1)), .val (.int ca1), .val (.int cb1), .val (.int (0 : Int32)), .val (.int (Int32.ofNat l2)), .unset, .unset, .unset, .unset, .unset, .unset, .unset, .unset, .unset, .unset, .unset, .unset] [(.int (8 : Int32)), (.int p1)])
    refine X0.step (fun hA hx hq t_ k_ => XS.iushr hA hx rfl (hb hq at_72) rfl k_) ?_
    show OFin _ _ _ _ _ _ T0 (mkF m 73 #[.val (.int p0), .val (.int p1), .val (.int p2), .val (.int p3), .val (.int (Int32.ofNat l1)), .val (.int ca1), .val (.int cb1), .val (.int (0 : Int32)), .val (.int (Int32.ofNat l2)), .unset, .unset, .unset, .unset, .unset, .unset, .unset, .unset, .unset, .unset, .unset, .unset] [(.int ((p1.toUInt32 >>> ((8 : Int32) &&& 31).toUInt32).toInt32))])
    refine X0.step (fun hA hx hq t_ k_ => XS.sipush hA hx rfl (hb hq at_73) k_) ?_
    show OFin _ _ _ _ _ _ T0 (mkF m 76 #[.val (.int p0), .val (.int p1), .val (.int p2), .val (.int p3), .val (.int (Int32.ofNat l1)), .val (.int ca1), .val (.int cb1), .val (.int (0 : Int32)), .val (.int (Int32.ofNat l2)), .unset, .unset, .unset, .unset, .unset, .unset, .unset, .unset, .unset, .unset, .unset, .unset] [(.int (255 : Int32)), (.int ((p1.toUInt32 >>> ((8 : Int32) &&& 31).toUInt32).toInt32))])
    refine X0.step (fun hA hx hq t_ k_ => XS.iand hA hx rfl (hb hq at_76) rfl k_) ?_
    show OFin _ _ _ _ _ _ T0 (mkF m 77 #[.val (.int p0), .val (.int p1), .val (.int p2), .val (.int p3), .val (.int (Int32.ofNat l1)), .val (.int ca1), .val (.int cb1), .val (.int (0 : Int32)), .val (.int (Int32.ofNat l2)), .unset, .unset, .unset, .unset, .unset, .unset, .unset, .unset, .unset, .unset, .unset, .unset] [(.int (((p1.toUInt32 >>> ((8 : Int32) &&& 31).toUInt32).toInt32) &&& (255 : Int32)))])
    refine X0.step (fun hA hx hq t_ k_ => XS.i2c hA hx rfl (hb hq at_77) rfl k_) ?_
    show OFin _ _ _ _ _ _ T0 (mkF m 78 #[.val (.int p0), .val (.int p1), .val (.int p2), .val (.int p3), .val (.int (Int32.ofNat l1)), .val (.int ca1), .val (.int cb1), .val (.int (0 : Int32)), .val (.int (Int32.ofNat l2)), .unset, .unset, .unset, .unset, .unset, .unset, .unset, .unset, .unset, .unset, .unset, .unset] [(.int ((((p1.toUInt32 >>> ((8 : Int32) &&& 31).toUInt32).toInt32) &&& (255 : Int32)).toUInt32.toUInt16.toUInt32.toInt32))])
    have hca2 : own_ok ((((p1.toUInt32 >>> ((8 : Int32) &&& 31).toUInt32).toInt32) &&& (255 : Int32)).toUInt32.toUInt16.toUInt32.toInt32) := own_c8 _
    generalize ((((p1.toUInt32 >>> ((8 : Int32) &&& 31).toUInt32).toInt32) &&& (255 : Int32)).toUInt32.toUInt16.toUInt32.toInt32) = ca2 at hca2 ⊢
    show OFin _ _ _ _ _ _ T0 (mkF m 78 #[.val (.int p0), .val (.int p1), .val (.int p2), .val (.int p3), .val (.int (Int32.ofNat l1)), .val (.int ca1), .val (.int cb1), .val (.int (0 : Int32)), .val (.int (Int32.ofNat l2)), .unset, .unset, .unset, .unset, .unset, .unset, .unset, .unset, .unset, .unset, .unset, .unset] [(.int ca2)])
    refine X0.step (fun hA hx hq t_ k_ => XS.istore hA hx rfl (hb hq at_78) rfl (l' := #[.val (.int p0), .val (.int p1), .val (.int p2), .val (.int p3), .val (.int (Int32.ofNat l1)), .val (.int ca1), .val (.int cb1), .val (.int (0 : Int32)), .val (.int (Int32.ofNat l2)), .val (.int ca2), .unset, .unset, .unset, .unset, .unset, .unset, .unset, .unset, .unset, .unset, .unset]) rfl k_) ?_
    show OFin _ _ _ _ _ _ T0 (mkF m 80 #[.val (.int p0), .val (.int p1), .val (.int p2), .val (.int p3), .val (.int (Int32.ofNat l1)), .val (.int ca1), .val (.int cb1), .val (.int (0 : Int32)), .val (.int (Int32.ofNat l2)), .val (.int ca2), .unset, .unset, .unset, .unset, .unset, .unset, .unset, .unset, .unset, .unset, .unset] [])
    refine X0.step (fun hA hx hq t_ k_ => XS.iload hA hx rfl (hb hq at_80) rfl k_) ?_
    show OFin _ _ _ _ _ _ T0 (mkF m 82 #[.val (.int p0), .val (.int p1), .val (.int p2), .val (.int p3), .val (.int (Int32.ofNat l1)), .val (.int ca1), .val (.int cb1), .val (.int (0 : Int32)), .val (.int (Int32.ofNat l2)), .val (.int ca2), .unset, .unset, .unset, .unset, .unset, .unset, .unset, .unset, .unset, .unset, .unset] [(.int (0 : Int32))])
    refine X0.step (fun hA hx hq t_ k_ => XS.ifYes hA hx rfl (pc0 := 82) (pc' := 90) rfl (hb hq at_82) rfl ((if0 _ _).trans (teq ((rfl : (0 : Int32) = (0 : Int32)))).1) (by decide) (by decide) k_) ?_
    show OFin _ _ _ _ _ _ T0 (mkF m 90 #[.val (.int p0), .val (.int p1), .val (.int p2), .val (.int p3), .val (.int (Int32.ofNat l1)), .val (.int ca1), .val (.int cb1), .val (.int (0 : Int32)), .val (.int (Int32.ofNat l2)), .val (.int ca2), .unset, .unset, .unset, .unset, .unset, .unset, .unset, .unset, .unset, .unset, .unset] [])
    refine X0.step (fun hA hx hq t_ k_ => XS.iloadN hA hx rfl (hb hq at_90) rfl k_) ?_
    show OFin _ _ _ _ _ _ T0 (mkF m 91 #[.val (.int p0), .val (.int p1), .val (.int p2), .val (.int p3), .val (.int (Int32.ofNat l1)), .val (.int ca1), .val (.int cb1), .val (.int (0 : Int32)), .val (.int (Int32.ofNat l2)), .val (.int ca2), .unset, .unset, .unset, .unset, .unset, .unset, .unset, .unset, .unset, .unset, .unset] [(.int p1)])
    refine X0.step (fun hA hx hq t_ k_ => XS.bipush hA hx rfl (hb hq at_91) k_) ?_
    show OFin _ _ _ _ _ _ T0 (mkF m 93 #[.val (.int p0), .val (.int p1), .val (.int p2), .val (.int p3), .val (.int (Int32.ofNat l1)), .val (.int ca1), .val (.int cb1), .val (.int (0 : Int32)), .val (.int (Int32.ofNat l2)), .val (.int ca2), .unset, .unset, .unset, .unset, .unset, .unset, .unset, .unset, .unset, .unset, .unset] [(.int (16 : Int32)), (.int p1)])
    refine X0.step (fun hA hx hq t_ k_ => XS.iushr hA hx rfl (hb hq at_93) rfl k_) ?_
    show OFin _ _ _ _ _ _ T0 (mkF m 94 #[.val (.int p0), .val (.int p1), .val (.int p2), .val (.int p3), .val (.int (Int32.ofNat l1)), .val (.int ca1), .val (.int cb1), .val (.int (0 : Int32)), .val (.int (Int32.ofNat l2)), .val (.int ca2), .unset, .unset, .unset, .unset, .unset, .unset, .unset, .unset, .unset, .unset, .unset] [(.int ((p1.toUInt32 >>> ((16 : Int32) &&& 31).toUInt32).toInt32))])
    refine X0.step (fun hA hx hq t_ k_ => XS.sipush hA hx rfl (hb hq at_94) k_) ?_
    show OFin _ _ _ _ _ _ T0 (mkF m 97 #[.val (.int p0), .val (.int p1), .val (.int p2), .val (.int p3), .val (.int (Int32.ofNat l1)), .val (.int ca1), .val (.int cb1), .val (.int (0 : Int32)), .val (.int (Int32.ofNat l2)), .val (.int ca2), .unset, .unset, .unset, .unset, .unset, .unset, .unset, .unset, .unset, .unset, .unset] [(.int (255 : Int32)), (.int ((p1.toUInt32 >>> ((16 : Int32) &&& 31).toUInt32).toInt32))])
    refine X0.step (fun hA hx hq t_ k_ => XS.iand hA hx rfl (hb hq at_97) rfl k_) ?_
    show OFin _ _ _ _ _ _ T0 (mkF m 98 #[.val (.int p0), .val (.int p1), .val (.int p2), .val (.int p3), .val (.int (Int32.ofNat l1)), .val (.int ca1), .val (.int cb1), .val (.int (0 : Int32)), .val (.int (Int32.ofNat l2)), .val (.int ca2), .unset, .unset, .unset, .unset, .unset, .unset, .unset, .unset, .unset, .unset, .unset] [(.int (((p1.toUInt32 >>> ((16 : Int32) &&& 31).toUInt32).toInt32) &&& (255 : Int32)))])
    refine X0.step (fun hA hx hq t_ k_ => XS.i2c hA hx rfl (hb hq at_98) rfl k_) ?_
    show OFin _ _ _ _ _ _ T0 (mkF m 99 #[.val (.int p0), .val (.int p1), .val (.int p2), .val (.int p3), .val (.int (Int32.ofNat l1)), .val (.int ca1), .val (.int cb1), .val (.int (0 : Int32)), .val (.int (Int32.ofNat l2)), .val (.int ca2), .unset, .unset, .unset, .unset, .unset, .unset, .unset, .unset, .unset, .unset, .unset] [(.int ((((p1.toUInt32 >>> ((16 : Int32) &&& 31).toUInt32).toInt32) &&& (255 : Int32)).toUInt32.toUInt16.toUInt32.toInt32))])
    have hcb2 : own_ok ((((p1.toUInt32 >>> ((16 : Int32) &&& 31).toUInt32).toInt32) &&& (255 : Int32)).toUInt32.toUInt16.toUInt32.toInt32) := own_c8 _
    generalize ((((p1.toUInt32 >>> ((16 : Int32) &&& 31).toUInt32).toInt32) &&& (255 : Int32)).toUInt32.toUInt16.toUInt32.toInt32) = cb2 at hcb2 ⊢
    show OFin _ _ _ _ _ _ T0 (mkF m 99 #[.val (.int p0), .val (.int p1), .val (.int p2), .val (.int p3), .val (.int (Int32.ofNat l1)), .val (.int ca1), .val (.int cb1), .val (.int (0 : Int32)), .val (.int (Int32.ofNat l2)), .val (.int ca2), .unset, .unset, .unset, .unset, .unset, .unset, .unset, .unset, .unset, .unset, .unset] [(.int cb2)])
    refine X0.step (fun hA hx hq t_ k_ => XS.istore hA hx rfl (hb hq at_99) rfl (l' := #[.val (.int p0), .val (.int p1), .val (.int p2), .val (.int p3), .val (.int (Int32.ofNat l1)), .val (.int ca1), .val (.int cb1), .val (.int (0 : Int32)), .val (.int (Int32.ofNat l2)), .val (.int ca2), .val (.int cb2), .unset, .unset, .unset, .unset, .unset, .unset, .unset, .unset, .unset, .unset]) rfl k_) ?_
    show OFin _ _ _ _ _ _ T0 (mkF m 101 #[.val (.int p0), .val (.int p1), .val (.int p2), .val (.int p3), .val (.int (Int32.ofNat l1)), .val (.int ca1), .val (.int cb1), .val (.int (0 : Int32)), .val (.int (Int32.ofNat l2)), .val (.int ca2), .val (.int cb2), .unset, .unset, .unset, .unset, .unset, .unset, .unset, .unset, .unset, .unset] [])
    exact j101 _ _ _ _ hl2 hca2 hcb2
  · refine X0.step (fun hA hx hq t_ k_ => XS.ifNo hA hx rfl (hb hq at_32) rfl ((if0 _ _).trans (feq (k1)).1) k_) ?_
    show OFin _ _ _ _ _ _ T0 (mkF m 35 #[.val (.int p0), .val (.int p1), .val (.int p2), .val (.int p3), .val (.int (Int32.ofNat l1)), .val (.int ca1), .val (.int cb1), .unset, .unset, .unset, .unset, .unset, .unset, .unset, .unset, .unset, .unset, .unset, .unset, .unset, .unset] [])
    refine X0.step (fun hA hx hq t_ k_ => XS.iconst hA hx rfl (hb hq at_35) k_) ?_
    show OFin _ _ _ _ _ _ T0 (mkF m 36 #[.val (.int p0), .val (.int p1), .val (.int p2), .val (.int p3), .val (.int (Int32.ofNat l1)), .val (.int ca1), .val (.int cb1), .unset, .unset, .unset, .unset, .unset, .unset, .unset, .unset, .unset, .unset, .unset, .unset, .unset, .unset] [(.int (1 : Int32))])
    refine X0.step (fun hA hx hq t_ k_ => XS.goto hA hx rfl (pc0 := 36) (pc' := 40) rfl (hb hq at_36) (by decide) (by decide) k_) ?_
    show OFin _ _ _ _ _ _ T0 (mkF m 40 #[.val (.int p0), .val (.int p1), .val (.int p2), .val (.int p3), .val (.int (Int32.ofNat l1)), .val (.int ca1), .val (.int cb1), .unset, .unset, .unset, .unset, .unset, .unset, .unset, .unset, .unset, .unset, .unset, .unset, .unset, .unset] [(.int (1 : Int32))])
    refine X0.step (fun hA hx hq t_ k_ => XS.istore hA hx rfl (hb hq at_40) rfl (l' := #[.val (.int p0), .val (.int p1), .val (.int p2), .val (.int p3), .val (.int (Int32.ofNat l1)), .val (.int ca1), .val (.int cb1), .val (.int (1 : Int32)), .unset, .unset, .unset, .unset, .unset, .unset, .unset, .unset, .unset, .unset, .unset, .unset, .unset]) rfl k_) ?_
    show OFin _ _ _ _ _ _ T0 (mkF m 42 #[.val (.int p0), .val (.int p1), .val (.int p2), .val (.int p3), .val (.int (Int32.ofNat l1)), .val (.int ca1), .val (.int cb1), .val (.int (1 : Int32)), .unset, .unset, .unset, .unset, .unset, .unset, .unset, .unset, .unset, .unset, .unset, .unset, .unset] [])
    refine X0.step (fun hA hx hq t_ k_ => XS.iload hA hx rfl (hb hq at_42) rfl k_) ?_
    show OFin _ _ _ _ _ _ T0 (mkF m 44 #[.val (.int p0), .val (.int p1), .val (.int p2), .val (.int p3), .val (.int (Int32.ofNat l1)), .val (.int ca1), .val (.int cb1), .val (.int (1 : Int32)), .unset, .unset, .unset, .unset, .unset, .unset, .unset, .unset, .unset, .unset, .unset, .unset, .unset] [(.int (1 : Int32))])
    refine X0.step (fun hA hx hq t_ k_ => XS.ifNo hA hx rfl (hb hq at_44) rfl ((if0 _ _).trans (feq ((by decide))).1) k_) ?_
    show OFin _ _ _ _ _ _ T0 (mkF m 47 #[.val (.int p0), .val (.int p1), .val (.int p2), .val (.int p3), .val (.int (Int32.ofNat l1)), .val (.int ca1), .val (.int cb1), .val (.int (1 : Int32)), .unset, .unset, .unset, .unset, .unset, .unset, .unset, .unset, .unset, .unset, .unset, .unset, .unset] [])
    refine X0.step (fun hA hx hq t_ k_ => XS.iload hA hx rfl (hb hq at_47) rfl k_) ?_
    show OFin _ _ _ _ _ _ T0 (mkF m 49 #[.val (.int p0), .val (.int p1), .val (.int p2), .val (.int p3), .val (.int (Int32.ofNat l1)), .val (.int ca1), .val (.int cb1), .val (.int (1 : Int32)), .unset, .unset, .unset, .unset, .unset, .unset, .unset, .unset, .unset, .unset, .unset, .unset, .unset] [(.int (Int32.ofNat l1))])
    refine X0.step (fun hA hx hq t_ k_ => XS.goto hA hx rfl (pc0 := 49) (pc' := 57) rfl (hb hq at_49) (by decide) (by decide) k_) ?_
    show OFin _ _ _ _ _ _ T0 (mkF m 57 #[.val (.int p0), .val (.int p1), .val (.int p2), .val (.int p3), .val (.int (Int32.ofNat l1)), .val (.int ca1), .val (.int cb1), .val (.int (1 : Int32)), .unset, .unset, .unset, .unset, .unset, .unset, .unset, .unset, .unset, .unset, .unset, .unset, .unset] [(.int (Int32.ofNat l1))])
    refine X0.step (fun hA hx hq t_ k_ => XS.istore hA hx rfl (hb hq at_57) rfl (l' := #[.val (.int p0), .val (.int p1), .val (.int p2), .val (.int p3), .val (.int (Int32.ofNat l1)), .val (.int ca1), .val (.int cb1), .val (.int (1 : Int32)), .val (.int (Int32.ofNat l1)), .unset, .unset, .unset, .unset, .unset, .unset, .unset, .unset, .unset, .unset, .unset, .unset]) rfl k_) ?_
    show OFin _ _ _ _ _ _ T0 (mkF m 59 #[.val (.int p0), .val (.int p1), .val (.int p2), .val (.int p3), .val (.int (Int32.ofNat l1)), .val (.int ca1), .val (.int cb1), .val (.int (1 : Int32)), .val (.int (Int32.ofNat l1)), .unset, .unset, .unset, .unset, .unset, .unset, .unset, .unset, .unset, .unset, .unset, .unset] [])
    refine X0.step (fun hA hx hq t_ k_ => XS.iload hA hx rfl (hb hq at_59) rfl k_) ?_
    show OFin _ _ _ _ _ _ T0 (mkF m 61 #[.val (.int p0), .val (.int p1), .val (.int p2), .val (.int p3), .val (.int (Int32.ofNat l1)), .val (.int ca1), .val (.int cb1), .val (.int (1 : Int32)), .val (.int (Int32.ofNat l1)), .unset, .unset, .unset, .unset, .unset, .unset, .unset, .unset, .unset, .unset, .unset, .unset] [(.int (1 : Int32))])
    refine X0.step (fun hA hx hq t_ k_ => XS.ifNo hA hx rfl (hb hq at_61) rfl ((if0 _ _).trans (feq ((by decide))).1) k_) ?_
    show OFin _ _ _ _ _ _ T0 (mkF m 64 #[.val (.int p0), .val (.int p1), .val (.int p2), .val (.int p3), .val (.int (Int32.ofNat l1)), .val (.int ca1), .val (.int cb1), .val (.int (1 : Int32)), .val (.int (Int32.ofNat l1)), .unset, .unset, .unset, .unset, .unset, .unset, .unset, .unset, .unset, .unset, .unset, .unset] [])
    refine X0.step (fun hA hx hq t_ k_ => XS.iload hA hx rfl (hb hq at_64) rfl k_) ?_
    show OFin _ _ _ _ _ _ T0 (mkF m 66 #[.val (.int p0), .val (.int p1), .val (.int p2), .val (.int p3), .val (.int (Int32.ofNat l1)), .val (.int ca1), .val (.int cb1), .val (.int (1 : Int32)), .val (.int (Int32.ofNat l1)), .unset, .unset, .unset, .unset, .unset, .unset, .unset, .unset, .unset, .unset, .unset, .unset] [(.int ca1)])
    refine X0.step (fun hA hx hq t_ k_ => XS.goto hA hx rfl (pc0 := 66) (pc' := 78) rfl (hb hq at_66) (by decide) (by decide) k_) ?_
    show OFin _ _ _ _ _ _ T0 (mkF m 78 #[.val (.int p0), .val (.int p1), .val (.int p2), .val (.int p3), .val (.int (Int32.ofNat l1)), .val (.int ca1), .val (.int cb1), .val (.int (1 : Int32)), .val (.int (Int32.ofNat l1)), .unset, .unset, .unset, .unset, .unset, .unset, .unset, .unset, .unset, .unset, .unset, .unset] [(.int ca1)])
    refine X0.step (fun hA hx hq t_ k_ => XS.istore hA hx rfl (hb hq at_78) rfl (l' := #[.val (.int p0), .val (.int p1), .val (.int p2), .val (.int p3), .val (.int (Int32.ofNat l1)), .val (.int ca1), .val (.int cb1), .val (.int (1 : Int32)), .val (.int (Int32.ofNat l1)), .val (.int ca1), .unset, .unset, .unset, .unset, .unset, .unset, .unset, .unset, .unset, .unset, .unset]) rfl k_) ?_
    show OFin _ _ _ _ _ _ T0 (mkF m 80 #[.val (.int p0), .val (.int p1), .val (.int p2), .val (.int p3), .val (.int (Int32.ofNat l1)), .val (.int ca1), .val (.int cb1), .val (.int (1 : Int32)), .val (.int (Int32.ofNat l1)), .val (.int ca1), .unset, .unset, .unset, .unset, .unset, .unset, .unset, .unset, .unset, .unset, .unset] [])
    refine X0.step (fun hA hx hq t_ k_ => XS.iload hA hx rfl (hb hq at_80) rfl k_) ?_
    show OFin _ _ _ _ _ _ T0 (mkF m 82 #[.val (.int p0), .val (.int p1), .val (.int p2), .val (.int p3), .val (.int (Int32.ofNat l1)), .val (.int ca1), .val (.int cb1), .val (.int (1 : Int32)), .val (.int (Int32.ofNat l1)), .val (.int ca1), .unset, .unset, .unset, .unset, .unset, .unset, .unset, .unset, .unset, .unset, .unset] [(.int (1 : Int32))])
    refine X0.step (fun hA hx hq t_ k_ => XS.ifNo hA hx rfl (hb hq at_82) rfl ((if0 _ _).trans (feq ((by decide))).1) k_) ?_
    show OFin _ _ _ _ _ _ T0 (mkF m 85 #[.val (.int p0), .val (.int p1), .val (.int p2), .val (.int p3), .val (.int (Int32.ofNat l1)), .val (.int ca1), .val (.int cb1), .val (.int (1 : Int32)), .val (.int (Int32.ofNat l1)), .val (.int ca1), .unset, .unset, .unset, .unset, .unset, .unset, .unset, .unset, .unset, .unset, .unset] [])
    refine X0.step (fun hA hx hq t_ k_ => XS.iload hA hx rfl (hb hq at_85) rfl k_) ?_
    show OFin _ _ _ _ _ _ T0 (mkF m 87 #[.val (.int p0), .val (.int p1), .val (.int p2), .val (.int p3), .val (.int (Int32.ofNat l1)), .val (.int ca1), .val (.int cb1), .val (.int (1 : Int32)), .val (.int (Int32.ofNat l1)), .val (.int ca1), .unset, .unset, .unset, .unset, .unset, .unset, .unset, .unset, .unset, .unset, .unset] [(.int cb1)])
    refine X0.step (fun hA hx hq t_ k_ => XS.goto hA hx rfl (pc0 := 87) (pc' := 99) rfl (hb hq at_87) (by decide) (by decide) k_) ?_
    show OFin _ _ _ _ _ _ T0 (mkF m 99 #[.val (.int p0), .val (.int p1), .val (.int p2), .val (.int p3), .val (.int (Int32.ofNat l1)), .val (.int ca1), .val (.int cb1), .val (.int (1 : Int32)), .val (.int (Int32.ofNat l1)), .val (.int ca1), .unset, .unset, .unset, .unset, .unset, .unset, .unset, .unset, .unset, .unset, .unset] [(.int cb1)])
    refine X0.step (fun hA hx hq t_ k_ => XS.istore hA hx rfl (hb hq at_99) rfl (l' := #[.val (.int p0), .val (.int p1), .val (.int p2), .val (.int p3), .val (.int (Int32.ofNat l1)), .val (.int ca1), .val (.int cb1), .val (.int (1 : Int32)), .val (.int (Int32.ofNat l1)), .val (.int ca1), .val (.int cb1), .unset, .unset, .unset, .unset, .unset, .unset, .unset, .unset, .unset, .unset]) rfl k_) ?_
    show OFin _ _ _ _ _ _ T0 (mkF m 101 #[.val (.int p0), .val (.int p1), .val (.int p2), .val (.int p3), .val (.int (Int32.ofNat l1)), .val (.int ca1), .val (.int cb1), .val (.int (1 : Int32)), .val (.int (Int32.ofNat l1)), .val (.int ca1), .val (.int cb1), .unset, .unset, .unset, .unset, .unset, .unset, .unset, .unset, .unset, .unset] [])
    exact j101 _ _ _ _ hl1 hca1 hcb1
set_option maxRecDepth 65536 in
set_option maxHeartbeats 40000000 in
theorem comes_1 {Post : Tables → Env → Array Value → State → Outcome → State → Prop} (hpost : ∀ tb e args s v u, (limb_1_1.after args s (.returned v) u = true ∧ limb_1_2.after args s (.returned v) u = true ∧ True) → ReturnedEndW s (.returned v) u (Jvm.fieldLocs frame_1_writes args s ++ Jvm.arrayLocs frame_1_arrays args s ++ Jvm.staticLocs frame_1_statics s) 32 1152 → Post tb e args s (.returned v) u) :
    ArmFor flags0 classFile x code maxLocals ret World_1 tables_1 room_1 Calls_1 rest_1 Pre_1 Post := by
  intro l hfl _ _ p e ha hc hk s m args below hf hA hF happ hP
  obtain ⟨hcalls, hrest, hpre⟩ := hP
  obtain ⟨-, -, -, hnamed, -, -, -, hat⟩ := (Spec.applies_iff hf).mp happ
  obtain ⟨hg, hn⟩ := and_e (Cond.before_iff.mp (show (Jvm.Cond.and given_1 narrow_1).before args s = true from hpre))
  obtain ⟨hcount, hg0⟩ := and_e hg
  obtain ⟨w0, w1, w2, w3, rfl⟩ : ∃ w0 w1 w2 w3 : Value, args = #[w0, w1, w2, w3] := by
    have hs : args.size = 4 := by simpa [Cond.value, given_1] using hcount
    obtain ⟨L⟩ := args
    match L, hs with
    | [w0, w1, w2, w3], _ => exact ⟨w0, w1, w2, w3, rfl⟩
  have hw := fun d (hd : d ∈ tables_1) => atoms_spec (ws := Jvm.Cond.code x code maxLocals ret :: tables_1) hat d (List.mem_cons_of_mem _ hd)
  have hfit : Fit s := fun {y c} hc i hi => by
    obtain ⟨ha, rfl⟩ := Array.getElem?_eq_some_iff.mp hc
    have q := List.all_eq_true.mp ((Array.all_eq_true_iff_forall_mem.mp hF) _ (Array.getElem_mem ha)) i (List.mem_range.mpr hi)
    simpa [Array.getElem?_eq_getElem hi] using q
  obtain ⟨ha0, hg1⟩ := and_e hg0
  obtain ⟨i0, ei0⟩ := is_v ha0
  obtain rfl : w0 = (.int i0) := Option.some.inj ei0
  obtain ⟨ha1, hg2⟩ := and_e hg1
  obtain ⟨i1, ei1⟩ := is_v ha1
  obtain rfl : w1 = (.int i1) := Option.some.inj ei1
  obtain ⟨ha2, hg3⟩ := and_e hg2
  obtain ⟨i2, ei2⟩ := is_v ha2
  obtain rfl : w2 = (.int i2) := Option.some.inj ei2
  obtain ⟨i3, ei3⟩ := is_v hg3
  obtain rfl : w3 = (.int i3) := Option.some.inj ei3
  obtain ⟨hsets, hown0⟩ := atoms_of _ (rest_1_c_eq ▸ (show rest_1_c.before _ s = true from hrest))
  obtain ⟨m0, hn0⟩ := and_e hn
  obtain ⟨m1, hn1⟩ := and_e hn0
  obtain ⟨m2, hn2⟩ := and_e hn1
  obtain ⟨m3, hn3⟩ := and_e hn2
  obtain ⟨m4, hn4⟩ := and_e hn3
  obtain ⟨m5, hn5⟩ := and_e hn4
  obtain ⟨m6, hn6⟩ := and_e hn5
  obtain ⟨m7, hn7⟩ := and_e hn6
  obtain ⟨m8, hn8⟩ := and_e hn7
  obtain ⟨m9, hn9⟩ := and_e hn8
  obtain ⟨m10, hn10⟩ := and_e hn9
  obtain ⟨kR, vR, ER, SR⟩ := o_static m1 (hw _ (List.mem_of_getElem? (i := 34) rfl)) (hw _ (List.mem_of_getElem? (i := 57) rfl))
  have FR := o_fieldI vR m3
  obtain ⟨kC, vC, EC, SC⟩ := o_static m6 (hw _ (List.mem_of_getElem? (i := 34) rfl)) (hw _ (List.mem_of_getElem? (i := 93) rfl))
  have FC := o_fieldI vC m8
  obtain ⟨kT, vT, ET, ST⟩ := o_static m0 (hw _ (List.mem_of_getElem? (i := 34) rfl)) (hw _ (List.mem_of_getElem? (i := 35) rfl))
  have FT := o_fieldI vT m2
  obtain ⟨kN, vN, EN, SN⟩ := o_static m7 (hw _ (List.mem_of_getElem? (i := 34) rfl)) (hw _ (List.mem_of_getElem? (i := 95) rfl))
  have FN := o_fieldI vN hn10
  obtain ⟨kK, vK, EK, SK⟩ := o_static m4 (hw _ (List.mem_of_getElem? (i := 34) rfl)) (hw _ (List.mem_of_getElem? (i := 77) rfl))
  have FK := o_fieldI vK m9
  obtain ⟨kA, vA, EA, SA⟩ := o_static m5 (hw _ (List.mem_of_getElem? (i := 34) rfl)) (hw _ (List.mem_of_getElem? (i := 91) rfl))
  have FA := o_fieldI vA m10
  have n5 := not_v (Cond.before_iff.mp (hsets _ (List.mem_of_getElem? (i := 2) rfl)))
  obtain ⟨cs, ecs⟩ := is_v (Cond.before_iff.mp (hsets _ (List.mem_of_getElem? (i := 1) rfl)))
  have SS : Sta s s.heap "java/lang/String" "COMPACT_STRINGS" "Z" (.int cs) := Sta.start ecs (Or.inl (hsets _ (List.mem_of_getElem? (i := 0) rfl)))
  have hcs : ¬ (cs = (0 : Int32)) := gotF (Cond.eq_ints ecs (Term.int_eval (0))) n5
  obtain ⟨n, o, h1, h2, h3, _, L, rfl, ⟨rfl, N⟩, -, hq⟩ := rm0 l s _ hw tables_1 i0 i1 i2 i3 cs kR kC kT kN kK kA s.heap s.heap.size (Old.start s) SR ER FR SC EC FC ST ET FT SN EN FN SK EK FK SA EA FA SS hcs p e ha hc hk s m _ below hf ((Spec.applies_iff_loose hf).mp happ).1 ⟨rfl, State.Warmed39.refl s, rfl, CHv.start (own_EW hw) (fun p hp => hcalls.1 p hp) (hsets _ (List.mem_of_getElem? (i := 2) rfl)) (hw _ (List.mem_of_getElem? (i := 23) rfl)) (hw _ (List.mem_of_getElem? (i := 9) rfl))⟩ trivial
  refine ⟨n, _, h1, h2, h3, hpost _ _ _ _ _ _ ⟨Cond.after_iff.mpr rfl, Cond.after_iff.mpr (eq_i res_at (Term.int_eval (1)) rfl), trivial⟩ ⟨hq.1, hq.2.1, hq.2.2.1, (hq.2.2.2.sift fun y hy => Or.inr (N y hy)).mono (by decide) (by decide)⟩⟩
theorem main_1_1 : Claimed_1_1 := comes_1 fun _ _ _ _ _ _ h hF => ⟨h.1, hF⟩
theorem main_1_2 : Claimed_1_2 := comes_1 fun _ _ _ _ _ _ h hF => ⟨h.2.1, hF⟩
end Jvm.Pilot.@@N@@
namespace Jvm.Pilot.@@N@@
open Jvm Jvm.ClassFile Sem Op Lib Jvm.Free Jvm.Stand Jvm.Pilot.@@N@@.Jvm.D
/-! MADE BY PROGRAM (witnessworld.py) out of the Statement's table words and the real class files: 24 classes; the members and pool entries that the words name. The judged class is class 1, her method 3. -/
namespace start1
open Jvm.ClassFile
def u (s : String) : CpInfo := .utf8 (stringToUtf16 s)
/-- a pool by its gaps: so many unusable entries, then the entry; so many at the end -/
def gap : Nat → List CpInfo → List CpInfo
  | 0, r => r
  | n + 1, r => .unusable :: gap n r
def poolList (es : List (Nat × CpInfo)) (last : Nat) : List CpInfo := es.foldr (fun e r => gap e.1 (e.2 :: r)) (gap last [])
def pool (es : List (Nat × CpInfo)) (last : Nat) : Array CpInfo := ⟨poolList es last⟩
def fileOf (pool : Array CpInfo) (this : Nat) (attrs : Array Attribute := #[]) (ms : Array MethodInfo := #[]) (fl : Nat := 33) (sup : Nat := 0) (ifs : Array Nat := #[]) (fds : Array FieldInfo := #[]) : ClassFile where
  minorVersion := 0
  majorVersion := 65
  constantPool := pool
  accessFlags := fl
  thisClass := this
  superClass := sup
  interfaces := ifs
  fields := fds
  methods := ms
  attributes := attrs
def plain (name : String) (sup : Option ClassId) : Class where
  name := name
  kind := .ordinary
  loader := none
  accessFlags := 33
  super := sup
  interfaces := #[]
  cf := none
  fields := #[]
  methods := #[]
  instanceTypes := #[]
  staticTypes := #[]
  resolved := #[]
  callSites := []
  init := .initialized
  statics := none
  mirror := none

def pool0 : Array CpInfo := pool [(5, u "<init>"), (0, u "()V"), (1, .class_ 10), (1, u "java/lang/Object")] 113

def k0c0 : Code := { maxStack := 0, maxLocals := 1, code := object_method_1_code, exceptionTable := #[], attributes := #[] }
def k0m0 : Method := { name := "<init>", desc := "()V", sig := { parameters := [], returnType := none }, accessFlags := 1, code := some k0c0 }
/-- java/lang/Object -/
def k0 : Class := { plain "java/lang/Object" none with
  accessFlags := 33
  interfaces := #[]
  cf := some (fileOf pool0 8 #[] #[{ accessFlags := 1, nameIndex := 5, descriptorIndex := 6, attributes := #[] }] 33 0 #[] #[])
  fields := #[]
  methods := #[k0m0]
  instanceTypes := #[]
  staticTypes := #[]
  resolved := Array.replicate 124 none
  statics := none }

def pool1 : Array CpInfo := pool [(2, .class_ 4), (1, u "java/lang/Object"), (0, u "<init>"), (0, u "()V"), (0, .fieldref 8 9), (0, .class_ 10), (0, .nameAndType 11 12), (0, u "com/example/replay_proof/replayproof/model/Name$Kind"), (0, u "ROLE"), (0, u "Lcom/example/replay_proof/replayproof/model/Name$Kind;"), (0, .fieldref 8 14), (0, .nameAndType 15 12), (0, u "CONSTANT"), (0, .fieldref 8 17), (0, .nameAndType 18 12), (0, u "TIMESTAMP"), (0, .fieldref 8 20), (0, .nameAndType 21 12), (0, u "NONCE"), (0, .fieldref 8 23), (0, .nameAndType 24 12), (0, u "KEY"), (0, .fieldref 8 26), (0, .nameAndType 27 12), (0, u "AGENT"), (0, .class_ 29), (0, u "java/lang/String"), (0, .methodref 28 31), (0, .nameAndType 5 32), (0, u "([C)V"), (0, .integer 2147483647), (0, .class_ 35), (0, u "com/example/replay_proof/replayproof/model/Name"), (0, .methodref 37 38), (0, .class_ 39), (0, .nameAndType 40 41), (0, u "com/example/replay_proof/replayproof/model/NameEqualsPinLaw"), (0, u "text"), (0, u "(ICC)Ljava/lang/String;"), (0, .methodref 37 43), (0, .nameAndType 44 45), (0, u "kindOf"), (0, u "(I)Lcom/example/replay_proof/replayproof/model/Name$Kind;"), (0, .methodref 34 47), (0, .nameAndType 5 48), (0, u "(Ljava/lang/String;Lcom/example/replay_proof/replayproof/model/Name$Kind;)V"), (0, .methodref 34 50), (0, .nameAndType 51 52), (0, u "equals"), (0, u "(Ljava/lang/Object;)Z"), (3, u "law"), (0, u "(IIII)Z")] 4

def k1m0 : Method := { name := "<init>", desc := "()V", sig := { parameters := [], returnType := none }, accessFlags := 1, code := none }
def k1c1 : Code := { maxStack := 2, maxLocals := 1, code := method_2_code, exceptionTable := #[], attributes := #[] }
def k1m1 : Method := { name := "kindOf", desc := "(I)Lcom/example/replay_proof/replayproof/model/Name$Kind;", sig := { parameters := [.int], returnType := some (.object "com/example/replay_proof/replayproof/model/Name$Kind") }, accessFlags := 10, code := some k1c1 }
def k1c2 : Code := { maxStack := 3, maxLocals := 4, code := method_3_code, exceptionTable := #[], attributes := #[] }
def k1m2 : Method := { name := "text", desc := "(ICC)Ljava/lang/String;", sig := { parameters := [.int, .char, .char], returnType := some (.object "java/lang/String") }, accessFlags := 10, code := some k1c2 }
def k1c3 : Code := { maxStack := 5, maxLocals := 21, code := code, exceptionTable := #[], attributes := #[] }
def k1m3 : Method := { name := "law", desc := "(IIII)Z", sig := { parameters := [.int, .int, .int, .int], returnType := some .boolean }, accessFlags := 9, code := some k1c3 }
/-- com/example/replay_proof/replayproof/model/NameEqualsPinLaw -/
def k1 : Class := { plain "com/example/replay_proof/replayproof/model/NameEqualsPinLaw" (some 0) with
  accessFlags := 49
  interfaces := #[]
  cf := some (fileOf pool1 37 #[] #[{ accessFlags := 1, nameIndex := 5, descriptorIndex := 6, attributes := #[] }, { accessFlags := 10, nameIndex := 44, descriptorIndex := 45, attributes := #[] }, { accessFlags := 10, nameIndex := 40, descriptorIndex := 41, attributes := #[] }, { accessFlags := 9, nameIndex := 56, descriptorIndex := 57, attributes := #[] }] 49 2 #[] #[])
  fields := #[]
  methods := #[k1m0, k1m1, k1m2, k1m3]
  instanceTypes := #[]
  staticTypes := #[]
  resolved := Array.replicate 62 none
  statics := none }

def pool2 : Array CpInfo := pool [(1, .methodref 2 3), (0, .class_ 4), (0, .nameAndType 5 6), (0, u "java/lang/Object"), (0, u "<init>"), (0, u "()V"), (6, .class_ 14), (0, u "com/example/replay_proof/replayproof/model/Message")] 17

def k2c0 : Code := { maxStack := 1, maxLocals := 1, code := prog_80_method_1_code, exceptionTable := #[], attributes := #[] }
def k2m0 : Method := { name := "<init>", desc := "()V", sig := { parameters := [], returnType := none }, accessFlags := 0, code := some k2c0 }
/-- com/example/replay_proof/replayproof/model/Message -/
def k2 : Class := { plain "com/example/replay_proof/replayproof/model/Message" (some 0) with
  accessFlags := 1057
  interfaces := #[]
  cf := some (fileOf pool2 13 #[] #[{ accessFlags := 0, nameIndex := 5, descriptorIndex := 6, attributes := #[] }] 1057 2 #[] #[])
  fields := #[]
  methods := #[k2m0]
  instanceTypes := #[]
  staticTypes := #[]
  resolved := Array.replicate 32 none
  statics := none }

def pool3 : Array CpInfo := pool [(1, .methodref 2 3), (0, .class_ 4), (0, .nameAndType 5 6), (0, u "com/example/replay_proof/replayproof/model/Message"), (0, u "<init>"), (0, u "()V"), (0, .methodref 8 9), (0, .class_ 10), (0, .nameAndType 11 12), (0, u "java/util/Objects"), (0, u "requireNonNull"), (0, u "(Ljava/lang/Object;)Ljava/lang/Object;"), (0, .class_ 14), (0, u "java/lang/String"), (0, .fieldref 16 17), (0, .class_ 18), (0, .nameAndType 19 20), (0, u "com/example/replay_proof/replayproof/model/Name"), (0, u "text"), (0, u "Ljava/lang/String;"), (0, .class_ 22), (0, u "com/example/replay_proof/replayproof/model/Name$Kind"), (0, .fieldref 16 24), (0, .nameAndType 25 26), (0, u "kind"), (0, u "Lcom/example/replay_proof/replayproof/model/Name$Kind;"), (1, .nameAndType 29 30), (0, u "equals"), (0, u "(Ljava/lang/Object;)Z"), (14, .methodref 13 28), (6, u "(Ljava/lang/String;Lcom/example/replay_proof/replayproof/model/Name$Kind;)V")] 40

def k3c0 : Code := { maxStack := 2, maxLocals := 3, code := prog_81_method_1_code, exceptionTable := #[], attributes := #[] }
def k3m0 : Method := { name := "<init>", desc := "(Ljava/lang/String;Lcom/example/replay_proof/replayproof/model/Name$Kind;)V", sig := { parameters := [(.object "java/lang/String"), (.object "com/example/replay_proof/replayproof/model/Name$Kind")], returnType := none }, accessFlags := 1, code := some k3c0 }
def k3c1 : Code := { maxStack := 2, maxLocals := 3, code := prog_81_method_6_code, exceptionTable := #[], attributes := #[] }
def k3m1 : Method := { name := "equals", desc := "(Ljava/lang/Object;)Z", sig := { parameters := [(.object "java/lang/Object")], returnType := some .boolean }, accessFlags := 1, code := some k3c1 }
/-- com/example/replay_proof/replayproof/model/Name -/
def k3 : Class := { plain "com/example/replay_proof/replayproof/model/Name" (some 2) with
  accessFlags := 49
  interfaces := #[]
  cf := some (fileOf pool3 16 #[.nestMembers #[21]] #[{ accessFlags := 1, nameIndex := 5, descriptorIndex := 52, attributes := #[] }, { accessFlags := 1, nameIndex := 29, descriptorIndex := 30, attributes := #[] }] 49 2 #[] #[{ accessFlags := 18, nameIndex := 19, descriptorIndex := 20, attributes := #[] }, { accessFlags := 18, nameIndex := 25, descriptorIndex := 26, attributes := #[] }])
  fields := #[{ name := "text", type := (.object "java/lang/String"), accessFlags := 18, slot := 0, constantValue := 0 }, { name := "kind", type := (.object "com/example/replay_proof/replayproof/model/Name$Kind"), accessFlags := 18, slot := 1, constantValue := 0 }]
  methods := #[k3m0, k3m1]
  instanceTypes := #[(.object "java/lang/String"), (.object "com/example/replay_proof/replayproof/model/Name$Kind")]
  staticTypes := #[]
  resolved := Array.replicate 93 none
  statics := none }

def pool4 : Array CpInfo := pool [(1, .class_ 2), (0, u "java/io/Serializable"), (0, .class_ 4), (0, u "java/lang/Object")] 2

/-- java/io/Serializable -/
def k4 : Class := { plain "java/io/Serializable" (some 0) with
  accessFlags := 1537
  interfaces := #[]
  cf := some (fileOf pool4 1 #[] #[] 1537 3 #[] #[])
  fields := #[]
  methods := #[]
  instanceTypes := #[]
  staticTypes := #[]
  resolved := Array.replicate 7 none
  statics := none }

def pool5 : Array CpInfo := pool [(1, .class_ 2), (0, u "java/lang/Comparable"), (0, .class_ 4), (0, u "java/lang/Object")] 7

/-- java/lang/Comparable -/
def k5 : Class := { plain "java/lang/Comparable" (some 0) with
  accessFlags := 1537
  interfaces := #[]
  cf := some (fileOf pool5 1 #[] #[] 1537 3 #[] #[])
  fields := #[]
  methods := #[]
  instanceTypes := #[]
  staticTypes := #[]
  resolved := Array.replicate 12 none
  statics := none }

def pool6 : Array CpInfo := pool [(2, .class_ 4), (1, u "java/lang/CharSequence"), (42, .class_ 48), (0, u "java/lang/CharSequence$1CodePointIterator"), (10, .class_ 60), (0, u "java/lang/CharSequence$1CharIterator"), (5, .class_ 67), (0, u "java/lang/Object")] 63

/-- java/lang/CharSequence -/
def k6 : Class := { plain "java/lang/CharSequence" (some 0) with
  accessFlags := 1537
  interfaces := #[]
  cf := some (fileOf pool6 2 #[.nestMembers #[47, 59]] #[] 1537 66 #[] #[])
  fields := #[]
  methods := #[]
  instanceTypes := #[]
  staticTypes := #[]
  resolved := Array.replicate 131 none
  statics := none }

def pool7 : Array CpInfo := pool [(1, .class_ 2), (0, u "java/lang/constant/Constable"), (0, .class_ 4), (0, u "java/lang/Object")] 6

/-- java/lang/constant/Constable -/
def k7 : Class := { plain "java/lang/constant/Constable" (some 0) with
  accessFlags := 1537
  interfaces := #[]
  cf := some (fileOf pool7 1 #[] #[] 1537 3 #[] #[])
  fields := #[]
  methods := #[]
  instanceTypes := #[]
  staticTypes := #[]
  resolved := Array.replicate 11 none
  statics := none }

def pool8 : Array CpInfo := pool [(1, .class_ 2), (0, u "java/lang/constant/ConstantDesc"), (0, .class_ 4), (0, u "java/lang/Object")] 32

/-- java/lang/constant/ConstantDesc -/
def k8 : Class := { plain "java/lang/constant/ConstantDesc" (some 0) with
  accessFlags := 1537
  interfaces := #[]
  cf := some (fileOf pool8 1 #[] #[] 1537 3 #[] #[])
  fields := #[]
  methods := #[]
  instanceTypes := #[]
  staticTypes := #[]
  resolved := Array.replicate 37 none
  statics := none }

def pool9 : Array CpInfo := pool [(1, .methodref 2 3), (0, .class_ 4), (0, .nameAndType 5 6), (0, u "java/lang/Object"), (0, u "<init>"), (0, u "()V"), (0, .string 8), (0, u ""), (0, .fieldref 10 11), (0, .class_ 12), (0, .nameAndType 13 14), (0, u "java/lang/String"), (0, u "value"), (0, u "[B"), (0, .fieldref 10 16), (0, .nameAndType 17 18), (0, u "coder"), (0, u "B"), (2, u "hash"), (0, u "I"), (2, u "hashIsZero"), (0, u "Z"), (0, .methodref 10 28), (0, .nameAndType 5 29), (0, u "([CIILjava/lang/Void;)V"), (8, .fieldref 10 39), (0, .nameAndType 40 26), (0, u "COMPACT_STRINGS"), (1, .class_ 44), (1, u "java/lang/StringUTF16"), (0, u "compress"), (1, .methodref 42 48), (0, .nameAndType 49 50), (0, u "coderFromArrayLen"), (0, u "([BI)B"), (56, .class_ 109), (1, u "java/lang/StringLatin1"), (67, .methodref 42 178), (0, .nameAndType 45 179), (0, u "([CII)[B"), (361, .methodref 107 542), (0, .nameAndType 543 544), (0, u "equals"), (0, u "([B[B)Z"), (28, u "(Ljava/lang/Object;)Z"), (1, .class_ 576), (0, u "java/lang/CharSequence"), (22, u "CASE_INSENSITIVE_ORDER"), (0, u "Ljava/util/Comparator;"), (409, u "([C)V"), (90, u "serialPersistentFields"), (0, u "[Ljava/io/ObjectStreamField;"), (0, .class_ 1104), (0, u "java/lang/String$CaseInsensitiveComparator"), (1, .class_ 1107), (0, u "java/io/Serializable"), (0, .class_ 1109), (0, u "java/lang/Comparable"), (0, .class_ 1111), (0, u "java/lang/constant/Constable"), (0, .class_ 1113), (0, u "java/lang/constant/ConstantDesc"), (2, u "serialVersionUID"), (0, u "J"), (3, u "REPL"), (0, u "C"), (2, u "LATIN1"), (1, u "UTF16")] 323

def k9m0 : Method := { name := "<init>", desc := "()V", sig := { parameters := [], returnType := none }, accessFlags := 1, code := none }
def k9c1 : Code := { maxStack := 5, maxLocals := 2, code := jdk_42_method_3_code, exceptionTable := #[], attributes := #[] }
def k9m1 : Method := { name := "<init>", desc := "([C)V", sig := { parameters := [(.array .char)], returnType := none }, accessFlags := 1, code := some k9c1 }
def k9c2 : Code := { maxStack := 2, maxLocals := 3, code := jdk_42_method_66_code, exceptionTable := #[], attributes := #[] }
def k9m2 : Method := { name := "equals", desc := "(Ljava/lang/Object;)Z", sig := { parameters := [(.object "java/lang/Object")], returnType := some .boolean }, accessFlags := 1, code := some k9c2 }
def k9c3 : Code := { maxStack := 4, maxLocals := 6, code := jdk_42_method_149_code, exceptionTable := #[], attributes := #[] }
def k9m3 : Method := { name := "<init>", desc := "([CIILjava/lang/Void;)V", sig := { parameters := [(.array .char), .int, .int, (.object "java/lang/Void")], returnType := none }, accessFlags := 2, code := some k9c3 }
/-- java/lang/String -/
def k9 : Class := { plain "java/lang/String" (some 0) with
  accessFlags := 49
  interfaces := #[4, 5, 6, 7, 8]
  cf := some (fileOf pool9 10 #[.nestMembers #[1103]] #[{ accessFlags := 1, nameIndex := 5, descriptorIndex := 6, attributes := #[] }, { accessFlags := 1, nameIndex := 5, descriptorIndex := 1010, attributes := #[] }, { accessFlags := 1, nameIndex := 543, descriptorIndex := 573, attributes := #[] }, { accessFlags := 2, nameIndex := 5, descriptorIndex := 29, attributes := #[] }] 49 2 #[1106, 1108, 575, 1110, 1112] #[{ accessFlags := 18, nameIndex := 13, descriptorIndex := 14, attributes := #[] }, { accessFlags := 18, nameIndex := 17, descriptorIndex := 18, attributes := #[] }, { accessFlags := 2, nameIndex := 21, descriptorIndex := 22, attributes := #[] }, { accessFlags := 2, nameIndex := 25, descriptorIndex := 26, attributes := #[] }, { accessFlags := 26, nameIndex := 1116, descriptorIndex := 1117, attributes := #[] }, { accessFlags := 24, nameIndex := 40, descriptorIndex := 26, attributes := #[] }, { accessFlags := 26, nameIndex := 1101, descriptorIndex := 1102, attributes := #[] }, { accessFlags := 26, nameIndex := 1121, descriptorIndex := 1122, attributes := #[] }, { accessFlags := 25, nameIndex := 599, descriptorIndex := 600, attributes := #[] }, { accessFlags := 24, nameIndex := 1125, descriptorIndex := 18, attributes := #[] }, { accessFlags := 24, nameIndex := 1127, descriptorIndex := 18, attributes := #[] }])
  fields := #[{ name := "value", type := (.array .byte), accessFlags := 18, slot := 0, constantValue := 0 }, { name := "coder", type := .byte, accessFlags := 18, slot := 1, constantValue := 0 }, { name := "hash", type := .int, accessFlags := 2, slot := 2, constantValue := 0 }, { name := "hashIsZero", type := .boolean, accessFlags := 2, slot := 3, constantValue := 0 }, { name := "serialVersionUID", type := .long, accessFlags := 26, slot := 0, constantValue := 0 }, { name := "COMPACT_STRINGS", type := .boolean, accessFlags := 24, slot := 1, constantValue := 0 }, { name := "serialPersistentFields", type := (.array (.object "java/io/ObjectStreamField")), accessFlags := 26, slot := 2, constantValue := 0 }, { name := "REPL", type := .char, accessFlags := 26, slot := 3, constantValue := 0 }, { name := "CASE_INSENSITIVE_ORDER", type := (.object "java/util/Comparator"), accessFlags := 25, slot := 4, constantValue := 0 }, { name := "LATIN1", type := .byte, accessFlags := 24, slot := 5, constantValue := 0 }, { name := "UTF16", type := .byte, accessFlags := 24, slot := 6, constantValue := 0 }]
  methods := #[k9m0, k9m1, k9m2, k9m3]
  instanceTypes := #[(.array .byte), .byte, .int, .boolean]
  staticTypes := #[.long, .boolean, (.array (.object "java/io/ObjectStreamField")), .char, (.object "java/util/Comparator"), .byte, .byte]
  resolved := Array.replicate 1451 none
  statics := some 0 }

def pool10 : Array CpInfo := pool [(2, .class_ 4), (1, u "java/lang/Enum"), (0, u "name"), (0, u "Ljava/lang/String;"), (2, u "ordinal"), (0, u "I"), (1, .class_ 14), (1, u "java/lang/Object"), (4, u "hash"), (86, .class_ 108), (1, u "java/lang/Enum$EnumDesc"), (2, .class_ 112), (0, u "java/lang/constant/Constable"), (0, .class_ 114), (0, u "java/lang/Comparable"), (0, .class_ 116), (0, u "java/io/Serializable")] 87

/-- java/lang/Enum -/
def k10 : Class := { plain "java/lang/Enum" (some 0) with
  accessFlags := 1057
  interfaces := #[7, 5, 4]
  cf := some (fileOf pool10 2 #[.nestMembers #[106]] #[] 1057 12 #[111, 113, 115] #[{ accessFlags := 18, nameIndex := 5, descriptorIndex := 6, attributes := #[] }, { accessFlags := 18, nameIndex := 9, descriptorIndex := 10, attributes := #[] }, { accessFlags := 2, nameIndex := 19, descriptorIndex := 10, attributes := #[] }])
  fields := #[{ name := "name", type := (.object "java/lang/String"), accessFlags := 18, slot := 0, constantValue := 0 }, { name := "ordinal", type := .int, accessFlags := 18, slot := 1, constantValue := 0 }, { name := "hash", type := .int, accessFlags := 2, slot := 2, constantValue := 0 }]
  methods := #[]
  instanceTypes := #[(.object "java/lang/String"), .int, .int]
  staticTypes := #[]
  resolved := Array.replicate 204 none
  statics := none }

def pool11 : Array CpInfo := pool [(1, .class_ 2), (0, u "com/example/replay_proof/replayproof/model/Name$Kind"), (2, u "ROLE"), (0, u "Lcom/example/replay_proof/replayproof/model/Name$Kind;"), (2, u "CONSTANT"), (2, u "TIMESTAMP"), (2, u "NONCE"), (2, u "KEY"), (2, u "AGENT"), (2, u "$VALUES"), (0, u "[Lcom/example/replay_proof/replayproof/model/Name$Kind;"), (6, .class_ 34), (1, u "java/lang/Enum"), (8, u "fresh"), (0, u "Z"), (27, .class_ 73), (0, u "com/example/replay_proof/replayproof/model/Name")] 2

/-- com/example/replay_proof/replayproof/model/Name$Kind -/
def k11 : Class := { plain "com/example/replay_proof/replayproof/model/Name$Kind" (some 10) with
  accessFlags := 16433
  interfaces := #[]
  cf := some (fileOf pool11 1 #[.nestHost 72] #[] 16433 32 #[] #[{ accessFlags := 16409, nameIndex := 5, descriptorIndex := 6, attributes := #[] }, { accessFlags := 16409, nameIndex := 9, descriptorIndex := 6, attributes := #[] }, { accessFlags := 16409, nameIndex := 12, descriptorIndex := 6, attributes := #[] }, { accessFlags := 16409, nameIndex := 15, descriptorIndex := 6, attributes := #[] }, { accessFlags := 16409, nameIndex := 18, descriptorIndex := 6, attributes := #[] }, { accessFlags := 16409, nameIndex := 21, descriptorIndex := 6, attributes := #[] }, { accessFlags := 18, nameIndex := 43, descriptorIndex := 44, attributes := #[] }, { accessFlags := 4122, nameIndex := 24, descriptorIndex := 25, attributes := #[] }])
  fields := #[{ name := "ROLE", type := (.object "com/example/replay_proof/replayproof/model/Name$Kind"), accessFlags := 16409, slot := 0, constantValue := 0 }, { name := "CONSTANT", type := (.object "com/example/replay_proof/replayproof/model/Name$Kind"), accessFlags := 16409, slot := 1, constantValue := 0 }, { name := "TIMESTAMP", type := (.object "com/example/replay_proof/replayproof/model/Name$Kind"), accessFlags := 16409, slot := 2, constantValue := 0 }, { name := "NONCE", type := (.object "com/example/replay_proof/replayproof/model/Name$Kind"), accessFlags := 16409, slot := 3, constantValue := 0 }, { name := "KEY", type := (.object "com/example/replay_proof/replayproof/model/Name$Kind"), accessFlags := 16409, slot := 4, constantValue := 0 }, { name := "AGENT", type := (.object "com/example/replay_proof/replayproof/model/Name$Kind"), accessFlags := 16409, slot := 5, constantValue := 0 }, { name := "fresh", type := .boolean, accessFlags := 18, slot := 3, constantValue := 0 }, { name := "$VALUES", type := (.array (.object "com/example/replay_proof/replayproof/model/Name$Kind")), accessFlags := 4122, slot := 6, constantValue := 0 }]
  methods := #[]
  instanceTypes := #[(.object "java/lang/String"), .int, .int, .boolean]
  staticTypes := #[(.object "com/example/replay_proof/replayproof/model/Name$Kind"), (.object "com/example/replay_proof/replayproof/model/Name$Kind"), (.object "com/example/replay_proof/replayproof/model/Name$Kind"), (.object "com/example/replay_proof/replayproof/model/Name$Kind"), (.object "com/example/replay_proof/replayproof/model/Name$Kind"), (.object "com/example/replay_proof/replayproof/model/Name$Kind"), (.array (.object "com/example/replay_proof/replayproof/model/Name$Kind"))]
  resolved := Array.replicate 76 none
  statics := some 1 }

def pool12 : Array CpInfo := pool [(2, .class_ 4), (1, u "java/lang/Object"), (0, u "<init>"), (0, u "()V"), (35, .class_ 44), (1, u "java/util/Objects"), (0, u "requireNonNull"), (0, u "(Ljava/lang/Object;)Ljava/lang/Object;")] 137

def k12m0 : Method := { name := "<init>", desc := "()V", sig := { parameters := [], returnType := none }, accessFlags := 2, code := none }
def k12c1 : Code := { maxStack := 2, maxLocals := 1, code := jdk_31_method_10_code, exceptionTable := #[], attributes := #[] }
def k12m1 : Method := { name := "requireNonNull", desc := "(Ljava/lang/Object;)Ljava/lang/Object;", sig := { parameters := [(.object "java/lang/Object")], returnType := some (.object "java/lang/Object") }, accessFlags := 9, code := some k12c1 }
/-- java/util/Objects -/
def k12 : Class := { plain "java/util/Objects" (some 0) with
  accessFlags := 49
  interfaces := #[]
  cf := some (fileOf pool12 42 #[] #[{ accessFlags := 2, nameIndex := 5, descriptorIndex := 6, attributes := #[] }, { accessFlags := 9, nameIndex := 45, descriptorIndex := 46, attributes := #[] }] 49 2 #[] #[])
  fields := #[]
  methods := #[k12m0, k12m1]
  instanceTypes := #[]
  staticTypes := #[]
  resolved := Array.replicate 184 none
  statics := none }

def pool13 : Array CpInfo := pool [(4, .class_ 6), (1, u "java/lang/Object"), (0, u "<init>"), (0, u "()V"), (5, .class_ 16), (1, u "java/lang/StringLatin1"), (104, u "$assertionsDisabled"), (0, u "Z"), (98, .class_ 223), (1, u "java/lang/StringLatin1$LinesSpliterator"), (57, u "equals"), (0, u "([B[B)Z"), (107, .class_ 391), (0, u "java/lang/StringLatin1$CharsSpliterator")] 3

def k13m0 : Method := { name := "<init>", desc := "()V", sig := { parameters := [], returnType := none }, accessFlags := 0, code := none }
def k13c1 : Code := { maxStack := 3, maxLocals := 3, code := jdk_43_method_13_code, exceptionTable := #[], attributes := #[] }
def k13m1 : Method := { name := "equals", desc := "([B[B)Z", sig := { parameters := [(.array .byte), (.array .byte)], returnType := some .boolean }, accessFlags := 9, code := some k13c1 }
/-- java/lang/StringLatin1 -/
def k13 : Class := { plain "java/lang/StringLatin1" (some 0) with
  accessFlags := 48
  interfaces := #[]
  cf := some (fileOf pool13 14 #[.nestMembers #[390, 221]] #[{ accessFlags := 0, nameIndex := 7, descriptorIndex := 8, attributes := #[] }, { accessFlags := 9, nameIndex := 281, descriptorIndex := 282, attributes := #[] }] 48 4 #[] #[{ accessFlags := 4120, nameIndex := 121, descriptorIndex := 122, attributes := #[] }])
  fields := #[{ name := "$assertionsDisabled", type := .boolean, accessFlags := 4120, slot := 0, constantValue := 0 }]
  methods := #[k13m0, k13m1]
  instanceTypes := #[]
  staticTypes := #[.boolean]
  resolved := Array.replicate 395 none
  statics := none }

def pool14 : Array CpInfo := pool [(6, .class_ 8), (1, u "java/lang/Object"), (0, u "<init>"), (0, u "()V"), (1, .class_ 14), (1, u "java/lang/StringUTF16"), (31, u "$assertionsDisabled"), (0, u "Z"), (13, u "HI_BYTE_SHIFT"), (0, u "I"), (2, u "LO_BYTE_SHIFT"), (49, .methodref 12 116), (0, .nameAndType 117 118), (0, u "compress"), (0, u "([CI[BII)I"), (3, u "([CII)[B"), (138, u "coderFromArrayLen"), (0, u "([BI)B"), (106, .class_ 371), (1, u "java/lang/StringUTF16$LinesSpliterator"), (58, u "MAX_LENGTH"), (196, .class_ 628), (0, u "java/lang/StringUTF16$CodePointsSpliterator"), (0, .class_ 630), (0, u "java/lang/StringUTF16$CharsSpliterator")] 4

def k14m0 : Method := { name := "<init>", desc := "()V", sig := { parameters := [], returnType := none }, accessFlags := 0, code := none }
def k14c1 : Code := { maxStack := 2, maxLocals := 2, code := jdk_52_method_15_code, exceptionTable := #[], attributes := #[] }
def k14m1 : Method := { name := "coderFromArrayLen", desc := "([BI)B", sig := { parameters := [(.array .byte), .int], returnType := some .byte }, accessFlags := 8, code := some k14c1 }
def k14c2 : Code := { maxStack := 5, maxLocals := 6, code := jdk_52_method_16_code, exceptionTable := #[], attributes := #[] }
def k14m2 : Method := { name := "compress", desc := "([CII)[B", sig := { parameters := [(.array .char), .int, .int], returnType := some (.array .byte) }, accessFlags := 9, code := some k14c2 }
def k14c3 : Code := { maxStack := 3, maxLocals := 7, code := jdk_52_method_21_code, exceptionTable := #[], attributes := #[] }
def k14m3 : Method := { name := "compress", desc := "([CI[BII)I", sig := { parameters := [(.array .char), .int, (.array .byte), .int, .int], returnType := some .int }, accessFlags := 9, code := some k14c3 }
/-- java/lang/StringUTF16 -/
def k14 : Class := { plain "java/lang/StringUTF16" (some 0) with
  accessFlags := 48
  interfaces := #[]
  cf := some (fileOf pool14 12 #[.nestMembers #[627, 629, 369]] #[{ accessFlags := 0, nameIndex := 9, descriptorIndex := 10, attributes := #[] }, { accessFlags := 8, nameIndex := 261, descriptorIndex := 262, attributes := #[] }, { accessFlags := 9, nameIndex := 117, descriptorIndex := 122, attributes := #[] }, { accessFlags := 9, nameIndex := 117, descriptorIndex := 118, attributes := #[] }] 48 6 #[] #[{ accessFlags := 26, nameIndex := 61, descriptorIndex := 62, attributes := #[] }, { accessFlags := 26, nameIndex := 65, descriptorIndex := 62, attributes := #[] }, { accessFlags := 24, nameIndex := 430, descriptorIndex := 62, attributes := #[] }, { accessFlags := 4120, nameIndex := 46, descriptorIndex := 47, attributes := #[] }])
  fields := #[{ name := "HI_BYTE_SHIFT", type := .int, accessFlags := 26, slot := 0, constantValue := 0 }, { name := "LO_BYTE_SHIFT", type := .int, accessFlags := 26, slot := 1, constantValue := 0 }, { name := "MAX_LENGTH", type := .int, accessFlags := 24, slot := 2, constantValue := 0 }, { name := "$assertionsDisabled", type := .boolean, accessFlags := 4120, slot := 3, constantValue := 0 }]
  methods := #[k14m0, k14m1, k14m2, k14m3]
  instanceTypes := #[]
  staticTypes := #[.int, .int, .int, .boolean]
  resolved := Array.replicate 635 none
  statics := none }

def pool15 : Array CpInfo := pool [(2, .class_ 4), (1, u "java/lang/Object"), (0, u "<init>"), (0, u "()V"), (17, .class_ 26), (1, u "jdk/internal/util/Preconditions"), (28, .class_ 56), (0, u "jdk/internal/util/Preconditions$4"), (57, .class_ 115), (0, u "jdk/internal/util/Preconditions$1"), (7, u "SIOOBE_FORMATTER"), (0, u "Ljava/util/function/BiFunction;"), (0, .class_ 126), (0, u "jdk/internal/util/Preconditions$2"), (3, u "AIOOBE_FORMATTER"), (0, .class_ 132), (0, u "jdk/internal/util/Preconditions$3"), (3, u "IOOBE_FORMATTER")] 57

def k15m0 : Method := { name := "<init>", desc := "()V", sig := { parameters := [], returnType := none }, accessFlags := 1, code := none }
/-- jdk/internal/util/Preconditions -/
def k15 : Class := { plain "jdk/internal/util/Preconditions" (some 0) with
  accessFlags := 33
  interfaces := #[]
  cf := some (fileOf pool15 24 #[.nestMembers #[55, 131, 125, 114]] #[{ accessFlags := 1, nameIndex := 5, descriptorIndex := 6, attributes := #[] }] 33 2 #[] #[{ accessFlags := 25, nameIndex := 123, descriptorIndex := 124, attributes := #[] }, { accessFlags := 25, nameIndex := 130, descriptorIndex := 124, attributes := #[] }, { accessFlags := 25, nameIndex := 136, descriptorIndex := 124, attributes := #[] }])
  fields := #[{ name := "SIOOBE_FORMATTER", type := (.object "java/util/function/BiFunction"), accessFlags := 25, slot := 0, constantValue := 0 }, { name := "AIOOBE_FORMATTER", type := (.object "java/util/function/BiFunction"), accessFlags := 25, slot := 1, constantValue := 0 }, { name := "IOOBE_FORMATTER", type := (.object "java/util/function/BiFunction"), accessFlags := 25, slot := 2, constantValue := 0 }]
  methods := #[k15m0]
  instanceTypes := #[]
  staticTypes := #[(.object "java/util/function/BiFunction"), (.object "java/util/function/BiFunction"), (.object "java/util/function/BiFunction")]
  resolved := Array.replicate 194 none
  statics := some 2 }

def pool16 : Array CpInfo := pool [(9, u "<init>"), (6, .class_ 18), (1, u "java/lang/Object"), (0, u "()V"), (1, .class_ 23), (1, u "jdk/internal/util/ArraysSupport"), (0, u "LOG2_ARRAY_LONG_INDEX_SCALE"), (0, u "I"), (2, u "U"), (0, u "Ljdk/internal/misc/Unsafe;"), (8, u "BIG_ENDIAN"), (0, u "Z"), (8, u "LOG2_BYTE_BIT_SIZE"), (4, u "LOG2_ARRAY_INT_INDEX_SCALE"), (54, u "JLA"), (0, u "Ljdk/internal/access/JavaLangAccess;"), (11, u "LOG2_ARRAY_BOOLEAN_INDEX_SCALE"), (9, u "LOG2_ARRAY_BYTE_INDEX_SCALE"), (5, u "LOG2_ARRAY_CHAR_INDEX_SCALE"), (5, u "LOG2_ARRAY_SHORT_INDEX_SCALE"), (18, u "LOG2_ARRAY_FLOAT_INDEX_SCALE"), (24, u "LOG2_ARRAY_DOUBLE_INDEX_SCALE"), (89, u "T_BOOLEAN"), (2, u "T_CHAR"), (1, u "T_FLOAT"), (1, u "T_DOUBLE"), (1, u "T_BYTE"), (1, u "T_SHORT"), (1, u "T_INT"), (1, u "T_LONG"), (1, u "SOFT_MAX_ARRAY_LENGTH")] 83

def k16m0 : Method := { name := "<init>", desc := "()V", sig := { parameters := [], returnType := none }, accessFlags := 2, code := none }
/-- jdk/internal/util/ArraysSupport -/
def k16 : Class := { plain "jdk/internal/util/ArraysSupport" (some 0) with
  accessFlags := 33
  interfaces := #[]
  cf := some (fileOf pool16 21 #[] #[{ accessFlags := 2, nameIndex := 9, descriptorIndex := 19, attributes := #[] }] 33 16 #[] #[{ accessFlags := 24, nameIndex := 28, descriptorIndex := 29, attributes := #[] }, { accessFlags := 26, nameIndex := 38, descriptorIndex := 39, attributes := #[] }, { accessFlags := 25, nameIndex := 121, descriptorIndex := 25, attributes := #[] }, { accessFlags := 25, nameIndex := 131, descriptorIndex := 25, attributes := #[] }, { accessFlags := 25, nameIndex := 137, descriptorIndex := 25, attributes := #[] }, { accessFlags := 25, nameIndex := 143, descriptorIndex := 25, attributes := #[] }, { accessFlags := 25, nameIndex := 53, descriptorIndex := 25, attributes := #[] }, { accessFlags := 25, nameIndex := 24, descriptorIndex := 25, attributes := #[] }, { accessFlags := 25, nameIndex := 162, descriptorIndex := 25, attributes := #[] }, { accessFlags := 25, nameIndex := 187, descriptorIndex := 25, attributes := #[] }, { accessFlags := 26, nameIndex := 48, descriptorIndex := 25, attributes := #[] }, { accessFlags := 25, nameIndex := 277, descriptorIndex := 25, attributes := #[] }, { accessFlags := 25, nameIndex := 280, descriptorIndex := 25, attributes := #[] }, { accessFlags := 25, nameIndex := 282, descriptorIndex := 25, attributes := #[] }, { accessFlags := 25, nameIndex := 284, descriptorIndex := 25, attributes := #[] }, { accessFlags := 25, nameIndex := 286, descriptorIndex := 25, attributes := #[] }, { accessFlags := 25, nameIndex := 288, descriptorIndex := 25, attributes := #[] }, { accessFlags := 25, nameIndex := 290, descriptorIndex := 25, attributes := #[] }, { accessFlags := 25, nameIndex := 292, descriptorIndex := 25, attributes := #[] }, { accessFlags := 26, nameIndex := 108, descriptorIndex := 109, attributes := #[] }, { accessFlags := 25, nameIndex := 294, descriptorIndex := 25, attributes := #[] }])
  fields := #[{ name := "U", type := (.object "jdk/internal/misc/Unsafe"), accessFlags := 24, slot := 0, constantValue := 0 }, { name := "BIG_ENDIAN", type := .boolean, accessFlags := 26, slot := 1, constantValue := 0 }, { name := "LOG2_ARRAY_BOOLEAN_INDEX_SCALE", type := .int, accessFlags := 25, slot := 2, constantValue := 0 }, { name := "LOG2_ARRAY_BYTE_INDEX_SCALE", type := .int, accessFlags := 25, slot := 3, constantValue := 0 }, { name := "LOG2_ARRAY_CHAR_INDEX_SCALE", type := .int, accessFlags := 25, slot := 4, constantValue := 0 }, { name := "LOG2_ARRAY_SHORT_INDEX_SCALE", type := .int, accessFlags := 25, slot := 5, constantValue := 0 }, { name := "LOG2_ARRAY_INT_INDEX_SCALE", type := .int, accessFlags := 25, slot := 6, constantValue := 0 }, { name := "LOG2_ARRAY_LONG_INDEX_SCALE", type := .int, accessFlags := 25, slot := 7, constantValue := 0 }, { name := "LOG2_ARRAY_FLOAT_INDEX_SCALE", type := .int, accessFlags := 25, slot := 8, constantValue := 0 }, { name := "LOG2_ARRAY_DOUBLE_INDEX_SCALE", type := .int, accessFlags := 25, slot := 9, constantValue := 0 }, { name := "LOG2_BYTE_BIT_SIZE", type := .int, accessFlags := 26, slot := 10, constantValue := 0 }, { name := "T_BOOLEAN", type := .int, accessFlags := 25, slot := 11, constantValue := 0 }, { name := "T_CHAR", type := .int, accessFlags := 25, slot := 12, constantValue := 0 }, { name := "T_FLOAT", type := .int, accessFlags := 25, slot := 13, constantValue := 0 }, { name := "T_DOUBLE", type := .int, accessFlags := 25, slot := 14, constantValue := 0 }, { name := "T_BYTE", type := .int, accessFlags := 25, slot := 15, constantValue := 0 }, { name := "T_SHORT", type := .int, accessFlags := 25, slot := 16, constantValue := 0 }, { name := "T_INT", type := .int, accessFlags := 25, slot := 17, constantValue := 0 }, { name := "T_LONG", type := .int, accessFlags := 25, slot := 18, constantValue := 0 }, { name := "JLA", type := (.object "jdk/internal/access/JavaLangAccess"), accessFlags := 26, slot := 19, constantValue := 0 }, { name := "SOFT_MAX_ARRAY_LENGTH", type := .int, accessFlags := 25, slot := 20, constantValue := 0 }]
  methods := #[k16m0]
  instanceTypes := #[]
  staticTypes := #[(.object "jdk/internal/misc/Unsafe"), .boolean, .int, .int, .int, .int, .int, .int, .int, .int, .int, .int, .int, .int, .int, .int, .int, .int, .int, (.object "jdk/internal/access/JavaLangAccess"), .int]
  resolved := Array.replicate 378 none
  statics := none }

def pool17 : Array CpInfo := pool [(1, u "java/lang/Cloneable"), (0, .class_ 1), (0, u "java/lang/Object"), (0, .class_ 3)] 3

/-- java/lang/Cloneable -/
def k17 : Class := { plain "java/lang/Cloneable" (some 0) with
  accessFlags := 1537
  interfaces := #[]
  cf := some (fileOf pool17 2 #[] #[] 1537 4 #[] #[])
  fields := #[]
  methods := #[]
  instanceTypes := #[]
  staticTypes := #[]
  resolved := Array.replicate 8 none
  statics := none }

/-- the primitive byte -/
def k18 : Class := { plain "byte" none with kind := .primitive 'B', accessFlags := 0x411 }
/-- [B -/
def k19 : Class := { plain "[B" (some 0) with kind := .array 18 .byte, interfaces := #[17, 4], accessFlags := 1041 }

/-- the primitive char -/
def k20 : Class := { plain "char" none with kind := .primitive 'C', accessFlags := 0x411 }
/-- [C -/
def k21 : Class := { plain "[C" (some 0) with kind := .array 20 .char, interfaces := #[17, 4], accessFlags := 1041 }

/-- the primitive int -/
def k22 : Class := { plain "int" none with kind := .primitive 'I', accessFlags := 0x411 }
/-- [I -/
def k23 : Class := { plain "[I" (some 0) with kind := .array 22 .int, interfaces := #[17, 4], accessFlags := 1041 }

def heap : Heap := #[{ cls := 9, slots := #[.long 0, .int 1, .null, .int 0, .null, .int 0, .int 0], vm := .statics 9 },
  { cls := 11, slots := #[.ref 3, .ref 4, .ref 5, .ref 6, .ref 7, .ref 8, .null], vm := .statics 11 },
  { cls := 15, slots := #[.null, .null, .null], vm := .statics 15 },
  { cls := 11, slots := #[.null, .int 0, .int 0, .int 1], vm := .none },
  { cls := 11, slots := #[.null, .int 1, .int 0, .int 1], vm := .none },
  { cls := 11, slots := #[.null, .int 2, .int 0, .int 1], vm := .none },
  { cls := 11, slots := #[.null, .int 3, .int 0, .int 1], vm := .none },
  { cls := 11, slots := #[.null, .int 4, .int 0, .int 1], vm := .none },
  { cls := 11, slots := #[.null, .int 5, .int 0, .int 1], vm := .none }]
def classes : Array Class := #[k0, k1, k2, k3, k4, k5, k6, k7, k8, k9, k10, k11, k12, k13, k14, k15, k16, k17, k18, k19, k20, k21, k22, k23]
def interned : List (Array UInt16 × Addr) := []
def slotsUsed : Nat := 41
def theMethod : MethodId := ⟨1, 3⟩
def args0 : Array Value := #[.int 0, .int 1, .int 2, .int 3]
def aboutOver (below : List Frame) : State where
  vm := { classes := classes, interned := interned.toArray }
  heap := heap
  slotsUsed := slotsUsed
  threads := #[{ frames := .invoking theMethod args0 :: below }]
def below0 : List Frame := [.native { method := ⟨0, 0⟩, args := #[] }]
def about1 : State := aboutOver below0
def p0 : Program := .bare "" "" ""
def e0 : Env := launch0.env 0 0 0
theorem w_frames : about1.frames = Frame.invoking theMethod args0 :: below0 := rfl
set_option maxRecDepth 65536 in
theorem w_args : argsFit about1.vm theMethod args0 = true := by decide +kernel
set_option maxRecDepth 65536 in
theorem w_heap : heapFits about1 = true := by decide +kernel
set_option maxRecDepth 65536 in
theorem w_runnable : about1.curStatus? = some .runnable := by decide +kernel
set_option maxRecDepth 65536 in
theorem w_alone : about1.alone = true := by decide +kernel
set_option maxRecDepth 65536 in
theorem w_named : about1.methodNamed? x = some theMethod := by decide +kernel
set_option maxRecDepth 65536 in
theorem w_hears : about1.hears theMethod below0 = true := by decide +kernel
set_option maxRecDepth 65536 in
theorem w_ripe : about1.ripe theMethod args0 below0 = true := by decide +kernel
theorem w_running : about1.status = .running := rfl
set_option maxRecDepth 65536 in
theorem w_room : about1.hasRoom e0.platform room_1 = true :=
  launch0.hasRoom_least _ room_1 (by decide +kernel) (by decide +kernel) (by decide +kernel) (by decide +kernel) (by decide +kernel) (by decide +kernel)
theorem allAtoms_all (ts : List Jvm.Cond) (a : Array Jvm.Value) (st : Jvm.State) : (allAtoms ts).before a st = ts.all (fun c => c.before a st) := by
  induction ts with
  | nil => rfl
  | cons c t ih =>
    show (Jvm.Cond.and c (allAtoms t)).before a st = _
    rw [Jvm.Cond.before_and, ih, List.all_cons]
def words1 : List Jvm.Cond := Jvm.Cond.code x code maxLocals ret :: tables_1
/-- a 'code' word, met by the world's own term for the bytes: nothing is compared byte by byte -/
theorem code_word {y : MethodName} {bytes : ByteArray} {mx : Nat} {rt : Option FieldType} {a : Array Value} {s : State} {m : MethodId} {meth : Method} {c : Code} (h1 : s.methodNamed? y = some m) (h2 : s.vm.method? m = some meth) (h3 : meth.code = some c) (h4 : c.code = bytes)
    (h5 : (c.maxLocals == mx && c.exceptionTable.isEmpty && decide (c.maxStack ≤ mostOperands) && decide (meth.sig.returnType = rt) && !meth.locks && decide (parseMethodDescriptor y.desc = some meth.sig)) = true) : (Jvm.Cond.code y bytes mx rt).before a s = true := by
  simp only [Bool.and_eq_true, beq_iff_eq, Bool.not_eq_true', decide_eq_true_eq] at h5
  obtain ⟨⟨⟨⟨⟨g1, g2⟩, g3⟩, g4⟩, g5⟩, g6⟩ := h5
  simp [Cond.before, Cond.holds, Cond.value, h1, h2, h3, h4, g1, g2, g3, g4, g5, g6]
def isCode : Jvm.Cond → Bool
  | .code _ _ _ _ => true
  | _ => false
theorem all_split {L : List Jvm.Cond} {P : Jvm.Cond → Bool} (h1 : L.all (fun c => isCode c || P c) = true) (h2 : ∀ c ∈ L.filter isCode, P c = true) : L.all P = true := by
  refine List.all_eq_true.mpr fun c hc => ?_
  have h := List.all_eq_true.mp h1 c hc
  rcases Bool.eq_false_or_eq_true (isCode c) with hi | hi
  · exact h2 c (List.mem_filter.mpr ⟨hc, hi⟩)
  · simpa [hi] using h
set_option maxRecDepth 65536 in
theorem w_c0 : (Jvm.Cond.code x code maxLocals ret).before args0 about1 = true := code_word (m := ⟨1, 3⟩) (meth := k1m3) (c := k1c3) (by decide +kernel) rfl rfl rfl (by decide +kernel)
set_option maxRecDepth 65536 in
theorem w_c1 : (Jvm.Cond.code ({ cls := "com/example/replay_proof/replayproof/model/NameEqualsPinLaw", name := "text", desc := "(ICC)Ljava/lang/String;" } : Jvm.MethodName) method_3_code (4 : Nat) (Option.some (Jvm.ClassFile.FieldType.object "java/lang/String"))).before args0 about1 = true := code_word (m := ⟨1, 2⟩) (meth := k1m2) (c := k1c2) (by decide +kernel) rfl rfl rfl (by decide +kernel)
set_option maxRecDepth 65536 in
theorem w_c2 : (Jvm.Cond.code ({ cls := "java/lang/String", name := "<init>", desc := "([C)V" } : Jvm.MethodName) jdk_42_method_3_code (2 : Nat) (Option.none : Option Jvm.ClassFile.FieldType)).before args0 about1 = true := code_word (m := ⟨9, 1⟩) (meth := k9m1) (c := k9c1) (by decide +kernel) rfl rfl rfl (by decide +kernel)
set_option maxRecDepth 65536 in
theorem w_c3 : (Jvm.Cond.code ({ cls := "java/lang/String", name := "<init>", desc := "([CIILjava/lang/Void;)V" } : Jvm.MethodName) jdk_42_method_149_code (6 : Nat) (Option.none : Option Jvm.ClassFile.FieldType)).before args0 about1 = true := code_word (m := ⟨9, 3⟩) (meth := k9m3) (c := k9c3) (by decide +kernel) rfl rfl rfl (by decide +kernel)
set_option maxRecDepth 65536 in
theorem w_c4 : (Jvm.Cond.code ({ cls := "java/lang/Object", name := "<init>", desc := "()V" } : Jvm.MethodName) object_method_1_code (1 : Nat) (Option.none : Option Jvm.ClassFile.FieldType)).before args0 about1 = true := code_word (m := ⟨0, 0⟩) (meth := k0m0) (c := k0c0) (by decide +kernel) rfl rfl rfl (by decide +kernel)
set_option maxRecDepth 65536 in
theorem w_c5 : (Jvm.Cond.code ({ cls := "com/example/replay_proof/replayproof/model/NameEqualsPinLaw", name := "kindOf", desc := "(I)Lcom/example/replay_proof/replayproof/model/Name$Kind;" } : Jvm.MethodName) method_2_code (1 : Nat) (Option.some (Jvm.ClassFile.FieldType.object "com/example/replay_proof/replayproof/model/Name$Kind"))).before args0 about1 = true := code_word (m := ⟨1, 1⟩) (meth := k1m1) (c := k1c1) (by decide +kernel) rfl rfl rfl (by decide +kernel)
set_option maxRecDepth 65536 in
theorem w_c6 : (Jvm.Cond.code ({ cls := "com/example/replay_proof/replayproof/model/Name", name := "<init>", desc := "(Ljava/lang/String;Lcom/example/replay_proof/replayproof/model/Name$Kind;)V" } : Jvm.MethodName) prog_81_method_1_code (3 : Nat) (Option.none : Option Jvm.ClassFile.FieldType)).before args0 about1 = true := code_word (m := ⟨3, 0⟩) (meth := k3m0) (c := k3c0) (by decide +kernel) rfl rfl rfl (by decide +kernel)
set_option maxRecDepth 65536 in
theorem w_c7 : (Jvm.Cond.code ({ cls := "com/example/replay_proof/replayproof/model/Message", name := "<init>", desc := "()V" } : Jvm.MethodName) prog_80_method_1_code (1 : Nat) (Option.none : Option Jvm.ClassFile.FieldType)).before args0 about1 = true := code_word (m := ⟨2, 0⟩) (meth := k2m0) (c := k2c0) (by decide +kernel) rfl rfl rfl (by decide +kernel)
set_option maxRecDepth 65536 in
theorem w_c8 : (Jvm.Cond.code ({ cls := "java/util/Objects", name := "requireNonNull", desc := "(Ljava/lang/Object;)Ljava/lang/Object;" } : Jvm.MethodName) jdk_31_method_10_code (1 : Nat) (Option.some (Jvm.ClassFile.FieldType.object "java/lang/Object"))).before args0 about1 = true := code_word (m := ⟨12, 1⟩) (meth := k12m1) (c := k12c1) (by decide +kernel) rfl rfl rfl (by decide +kernel)
set_option maxRecDepth 65536 in
theorem w_c9 : (Jvm.Cond.code ({ cls := "com/example/replay_proof/replayproof/model/Name", name := "equals", desc := "(Ljava/lang/Object;)Z" } : Jvm.MethodName) prog_81_method_6_code (3 : Nat) (Option.some Jvm.ClassFile.FieldType.boolean)).before args0 about1 = true := code_word (m := ⟨3, 1⟩) (meth := k3m1) (c := k3c1) (by decide +kernel) rfl rfl rfl (by decide +kernel)
set_option maxRecDepth 65536 in
theorem w_c10 : (Jvm.Cond.code ({ cls := "java/lang/String", name := "equals", desc := "(Ljava/lang/Object;)Z" } : Jvm.MethodName) jdk_42_method_66_code (3 : Nat) (Option.some Jvm.ClassFile.FieldType.boolean)).before args0 about1 = true := code_word (m := ⟨9, 2⟩) (meth := k9m2) (c := k9c2) (by decide +kernel) rfl rfl rfl (by decide +kernel)
set_option maxRecDepth 65536 in
theorem w_c11 : (Jvm.Cond.code ({ cls := "java/lang/StringLatin1", name := "equals", desc := "([B[B)Z" } : Jvm.MethodName) jdk_43_method_13_code (3 : Nat) (Option.some Jvm.ClassFile.FieldType.boolean)).before args0 about1 = true := code_word (m := ⟨13, 1⟩) (meth := k13m1) (c := k13c1) (by decide +kernel) rfl rfl rfl (by decide +kernel)
set_option maxRecDepth 65536 in
theorem w_c12 : (Jvm.Cond.code ({ cls := "java/lang/StringUTF16", name := "compress", desc := "([CII)[B" } : Jvm.MethodName) jdk_52_method_16_code (6 : Nat) (Option.some (Jvm.ClassFile.FieldType.array Jvm.ClassFile.FieldType.byte))).before args0 about1 = true := code_word (m := ⟨14, 2⟩) (meth := k14m2) (c := k14c2) (by decide +kernel) rfl rfl rfl (by decide +kernel)
set_option maxRecDepth 65536 in
theorem w_c13 : (Jvm.Cond.code ({ cls := "java/lang/StringUTF16", name := "compress", desc := "([CI[BII)I" } : Jvm.MethodName) jdk_52_method_21_code (7 : Nat) (Option.some Jvm.ClassFile.FieldType.int)).before args0 about1 = true := code_word (m := ⟨14, 3⟩) (meth := k14m3) (c := k14c3) (by decide +kernel) rfl rfl rfl (by decide +kernel)
set_option maxRecDepth 65536 in
theorem w_c14 : (Jvm.Cond.code ({ cls := "java/lang/StringUTF16", name := "coderFromArrayLen", desc := "([BI)B" } : Jvm.MethodName) jdk_52_method_15_code (2 : Nat) (Option.some Jvm.ClassFile.FieldType.byte)).before args0 about1 = true := code_word (m := ⟨14, 1⟩) (meth := k14m1) (c := k14c1) (by decide +kernel) rfl rfl rfl (by decide +kernel)
def codes1 : List Jvm.Cond := [Jvm.Cond.code x code maxLocals ret, Jvm.Cond.code ({ cls := "com/example/replay_proof/replayproof/model/NameEqualsPinLaw", name := "text", desc := "(ICC)Ljava/lang/String;" } : Jvm.MethodName) method_3_code (4 : Nat) (Option.some (Jvm.ClassFile.FieldType.object "java/lang/String")), Jvm.Cond.code ({ cls := "java/lang/String", name := "<init>", desc := "([C)V" } : Jvm.MethodName) jdk_42_method_3_code (2 : Nat) (Option.none : Option Jvm.ClassFile.FieldType), Jvm.Cond.code ({ cls := "java/lang/String", name := "<init>", desc := "([CIILjava/lang/Void;)V" } : Jvm.MethodName) jdk_42_method_149_code (6 : Nat) (Option.none : Option Jvm.ClassFile.FieldType), Jvm.Cond.code ({ cls := "java/lang/Object", name := "<init>", desc := "()V" } : Jvm.MethodName) object_method_1_code (1 : Nat) (Option.none : Option Jvm.ClassFile.FieldType), Jvm.Cond.code ({ cls := "com/example/replay_proof/replayproof/model/NameEqualsPinLaw", name := "kindOf", desc := "(I)Lcom/example/replay_proof/replayproof/model/Name$Kind;" } : Jvm.MethodName) method_2_code (1 : Nat) (Option.some (Jvm.ClassFile.FieldType.object "com/example/replay_proof/replayproof/model/Name$Kind")), Jvm.Cond.code ({ cls := "com/example/replay_proof/replayproof/model/Name", name := "<init>", desc := "(Ljava/lang/String;Lcom/example/replay_proof/replayproof/model/Name$Kind;)V" } : Jvm.MethodName) prog_81_method_1_code (3 : Nat) (Option.none : Option Jvm.ClassFile.FieldType), Jvm.Cond.code ({ cls := "com/example/replay_proof/replayproof/model/Message", name := "<init>", desc := "()V" } : Jvm.MethodName) prog_80_method_1_code (1 : Nat) (Option.none : Option Jvm.ClassFile.FieldType), Jvm.Cond.code ({ cls := "java/util/Objects", name := "requireNonNull", desc := "(Ljava/lang/Object;)Ljava/lang/Object;" } : Jvm.MethodName) jdk_31_method_10_code (1 : Nat) (Option.some (Jvm.ClassFile.FieldType.object "java/lang/Object")), Jvm.Cond.code ({ cls := "com/example/replay_proof/replayproof/model/Name", name := "equals", desc := "(Ljava/lang/Object;)Z" } : Jvm.MethodName) prog_81_method_6_code (3 : Nat) (Option.some Jvm.ClassFile.FieldType.boolean), Jvm.Cond.code ({ cls := "java/lang/String", name := "equals", desc := "(Ljava/lang/Object;)Z" } : Jvm.MethodName) jdk_42_method_66_code (3 : Nat) (Option.some Jvm.ClassFile.FieldType.boolean), Jvm.Cond.code ({ cls := "java/lang/StringLatin1", name := "equals", desc := "([B[B)Z" } : Jvm.MethodName) jdk_43_method_13_code (3 : Nat) (Option.some Jvm.ClassFile.FieldType.boolean), Jvm.Cond.code ({ cls := "java/lang/StringUTF16", name := "compress", desc := "([CII)[B" } : Jvm.MethodName) jdk_52_method_16_code (6 : Nat) (Option.some (Jvm.ClassFile.FieldType.array Jvm.ClassFile.FieldType.byte)), Jvm.Cond.code ({ cls := "java/lang/StringUTF16", name := "compress", desc := "([CI[BII)I" } : Jvm.MethodName) jdk_52_method_21_code (7 : Nat) (Option.some Jvm.ClassFile.FieldType.int), Jvm.Cond.code ({ cls := "java/lang/StringUTF16", name := "coderFromArrayLen", desc := "([BI)B" } : Jvm.MethodName) jdk_52_method_15_code (2 : Nat) (Option.some Jvm.ClassFile.FieldType.byte)]
set_option maxRecDepth 65536 in
theorem codes_eq : words1.filter isCode = codes1 := rfl
theorem w_codes : ∀ c ∈ words1.filter isCode, c.before args0 about1 = true := by
  rw [codes_eq]
  intro c hc
  simp only [codes1, List.mem_cons, List.not_mem_nil, or_false] at hc
  rcases hc with rfl | rfl | rfl | rfl | rfl | rfl | rfl | rfl | rfl | rfl | rfl | rfl | rfl | rfl | rfl
  · exact w_c0
  · exact w_c1
  · exact w_c2
  · exact w_c3
  · exact w_c4
  · exact w_c5
  · exact w_c6
  · exact w_c7
  · exact w_c8
  · exact w_c9
  · exact w_c10
  · exact w_c11
  · exact w_c12
  · exact w_c13
  · exact w_c14
set_option maxRecDepth 65536 in
theorem w_t1 : (words1.take 24).all (fun c => isCode c || c.before args0 about1) = true := by decide +kernel
set_option maxRecDepth 65536 in
theorem w_t2 : ((words1.drop 24).take 24).all (fun c => isCode c || c.before args0 about1) = true := by decide +kernel
set_option maxRecDepth 65536 in
theorem w_t3 : (((words1.drop 24).drop 24).take 24).all (fun c => isCode c || c.before args0 about1) = true := by decide +kernel
set_option maxRecDepth 65536 in
theorem w_t4 : ((((words1.drop 24).drop 24).drop 24).take 24).all (fun c => isCode c || c.before args0 about1) = true := by decide +kernel
set_option maxRecDepth 65536 in
theorem w_t5 : ((((words1.drop 24).drop 24).drop 24).drop 24).all (fun c => isCode c || c.before args0 about1) = true := by decide +kernel
theorem w_tables : (allAtoms (Jvm.Cond.code x code maxLocals ret :: tables_1)).before args0 about1 = true := by
  rw [allAtoms_all]
  show words1.all (fun c => c.before args0 about1) = true
  refine all_split ?_ w_codes
  rw [← List.take_append_drop 24 words1, List.all_append, w_t1, ← List.take_append_drop 24 (words1.drop 24), List.all_append, w_t2, ← List.take_append_drop 24 ((words1.drop 24).drop 24), List.all_append, w_t3, ← List.take_append_drop 24 (((words1.drop 24).drop 24).drop 24), List.all_append, w_t4, w_t5]
  rfl
set_option maxRecDepth 65536 in
theorem w_rest : rest_1_c.before args0 about1 = true := by decide +kernel
set_option maxRecDepth 65536 in
theorem w_case : (Jvm.Cond.and given_1 narrow_1).before args0 about1 = true := by decide +kernel
set_option maxRecDepth 65536 in
theorem w_consts : constsHeld consts_1 about1 := Jvm.Lit.constsHeldB_iff.mp (by decide +kernel)
theorem w_applies : (headSpec (Jvm.Cond.code x code maxLocals ret :: tables_1) room_1).applies x e0.platform about1 = true :=
  (Spec.applies_iff w_frames).mpr ⟨w_running, w_runnable, w_alone, w_named, w_hears, w_ripe, w_room, w_tables⟩
theorem atStart : AtStart classFile x code maxLocals ret World_1 tables_1 room_1 Calls_1 rest_1 Pre_1 launch0 p0 e0 about1 theMethod args0 below0 :=
  ⟨lists_1, trivial, launch0.admits_env _ _ _, launch0.least_env, fairChoices_fair.cas, fairChoices_fair.clock, w_frames, w_args, w_heap, w_applies, ⟨w_consts, trivial⟩, w_rest, w_case⟩
end start1
theorem witness_1 : WitnessClaimed_1 := ⟨start1.p0, start1.e0, start1.about1, start1.theMethod, start1.args0, start1.below0, start1.atStart⟩
end Jvm.Pilot.@@N@@
