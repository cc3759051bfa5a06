import JvmDerived
import JvmDerived.Pilot.@@N@@Statement
import JvmDerived.Pilot.@@N@@Code
set_option linter.unusedVariables false
set_option linter.unusedSimpArgs false

namespace Jvm.Pilot.@@N@@
open Jvm Jvm.ClassFile Sem Op Lib Jvm.Free Jvm.Stand Jvm.LawKit Jvm.RoadKit Bundle Jvm.Pilot.@@N@@.Jvm.D
section Own
variable {p : Program} {l : Launch} {e : Env} {R : Room} {s : State} {m : MethodId} {args : Array Value} {below : List Frame} {meth : Method} {c : Code} {T T' : State} {cells slots n0 kk nn : Nat} {Z : State} {a0 : Array Value} {h h' : Heap} {Q : Option Value → Heap → Prop} {g g' : JFrame} {y : MethodName} {bytes : ByteArray} {maxL : Nat} {ret : Option FieldType}
/-- where a walk stands: its fixed facts, and the library's Stand with its written places hidden (all of them new) -/
def OAt (n0 : Nat) (Z : State) (y : MethodName) (bytes : ByteArray) (maxL : Nat) (ret : Option FieldType) (p : Program) (l : Launch) (e : Env) (R : Room) (s : State) (m : MethodId) (args : Array Value) (below : List Frame) (meth : Method) (c : Code) (T : State) (h : Heap) (cells slots : Nat) : Prop :=
  (p.tables.exec = Jvm.exec ∧ Z.Warmed39 s.vm ∧ s.vm.findClass y.cls = some m.cls ∧ meth.name = y.name ∧ c.code = bytes ∧ c.maxLocals = maxL ∧ meth.sig.returnType = ret ∧ meth.locks = false) ∧
    ∃ locs, Stand p l e R s m args below meth c T locs cells slots ∧ Fr n0 locs ∧ T.heap = h
/-- the run from here ends, returns, and Q holds of what it returns and of the heap -/
def OFin (n0 : Nat) (p : Program) (e : Env) (s : State) (below : List Frame) (Q : Option Value → Heap → Prop) (kk nn : Nat) (T : State) (g : JFrame) : Prop :=
  ∃ s₂ o, Steps p.tables e below (T.setTop g) s₂ ∧ s₂.status = .running ∧ Ended s₂ below o ∧ ∃ v L, o = .returned v ∧ (Q v s₂.heap ∧ Fr n0 L) ∧ FrameEnd s o s₂ L kk nn
abbrev OMeets (l : Launch) (Z : State) (y : MethodName) (ws : List Jvm.Cond) (bytes : ByteArray) (maxL : Nat) (ret : Option FieldType) (rm : Room) (as' : Array Value) (h0 : Heap) (n0 : Nat) (Q : Option Value → Heap → Prop) : Prop :=
  MetFree l y (head1 (Jvm.Cond.code y bytes maxL ret :: ws) rm) (fun a U => a = as' ∧ Z.Warmed39 U.vm ∧ U.heap = h0) (fun _ _ _ _ _ => True) (fun _ U o U' => ∃ v L, o = .returned v ∧ (Q v U'.heap ∧ Fr n0 L) ∧ FrameEnd U o U' L rm.cells rm.slots)
theorem o_enter {ws : List Jvm.Cond} {rm : Room} {as' : Array Value} {h0 : Heap} (pn : plainFor y = true)
    (body : ∀ (p : Program) (e : Env) (s : State) (m : MethodId) (below : List Frame) (meth : Method) (c : Code) (s₁ : State), OAt n0 Z y bytes maxL ret p l e rm s m as' below meth c s₁ h0 0 0 → OFin n0 p e s below Q rm.cells rm.slots s₁ (entryFrame m as' maxL)) :
    OMeets l Z y ws bytes maxL ret rm as' h0 n0 Q := by
  refine MetFree.of_bodySF pn hisR ?_
  intro p e s m args below meth c s₁ Bd hml0 hP hK
  obtain ⟨rfl, hZ, hh⟩ := hP
  have e0 : s₁.heap = h0 := by rw [← hh, Bd.state]; rfl
  exact body p e s m below meth c s₁ ⟨⟨Bd.exec, hZ, findClass_of_methodNamed Bd.named, (name_of_methodNamed Bd.named Bd.method).1, Bd.bytes, hml0, Bd.returns, Bd.notSynchronized⟩, [], Stand.of_body Bd, Fr.nil n0, e0⟩
theorem OFin.cast (q : g = g') (k : OFin n0 p e s below Q kk nn T g') : OFin n0 p e s below Q kk nn T g := q ▸ k
theorem OFin.run (f : ∀ t, Steps p.tables e below (T'.setTop g') t → Steps p.tables e below (T.setTop g) t) (k : OFin n0 p e s below Q kk nn T' g') : OFin n0 p e s below Q kk nn T g := by
  obtain ⟨s₂, o, h1, h2⟩ := k; exact ⟨s₂, o, f _ h1, h2⟩
theorem OFin.imp {Q' : Option Value → Heap → Prop} (k : OFin n0 p e s below Q' kk nn T g) (f : ∀ v h, Q' v h → Q v h) : OFin n0 p e s below Q kk nn T g := by
  obtain ⟨s₂, o, h1, h2, h3, v, L, h4, h5, h6⟩ := k; exact ⟨s₂, o, h1, h2, h3, v, L, h4, ⟨f _ _ h5.1, h5.2⟩, h6⟩
/-- a step of the single-step laws -/
theorem OAt.step (X : OAt n0 Z y bytes maxL ret p l e R s m args below meth c T h cells slots) (f : At T m c below → p.tables.exec = Jvm.exec → c.code = bytes → ∀ t, Steps p.tables e below (T.setTop g') t → Steps p.tables e below (T.setTop g) t) (k : OFin n0 p e s below Q kk nn T g') : OFin n0 p e s below Q kk nn T g := by
  obtain ⟨⟨hx, -, -, -, hby, -⟩, locs, X, -⟩ := X
  exact OFin.run (f X.here hx hby) k
theorem OAt.retN (X : OAt n0 Z y bytes maxL (some t) p l e R s m args below meth c T h cells slots) (ht : t = .boolean ∨ t = .byte ∨ t = .char ∨ t = .short) {pc : Nat} {Ls : Array Slot} {z : Int32} {rest : List Value} (hd : decode bytes pc = .ok (.ireturn, 1)) (hc : cells ≤ kk) (hn : slots ≤ nn) (hQ : Q (some (.int (nar t z))) h) : OFin n0 p e s below Q kk nn T (mkF m pc Ls (.int z :: rest)) := by
  obtain ⟨⟨hx, -, -, -, hby, -, hret, hlk⟩, locs, X, N, eh⟩ := X
  obtain ⟨fs, hr, hrun, hended, hW, hsame⟩ := X.leave (v := some (.int (nar t z))) (fun h => by rw [hret] at h; cases h) hlk
  exact ⟨_, _, Jvm.RoadKit.retN X hx hret ht (hb hby hd) hr, hrun, hended, _, _, rfl, ⟨by show Q _ T.heap; rw [eh]; exact hQ, N⟩, ⟨_, rfl⟩, hW, hsame.mono hc hn⟩
theorem OAt.retI (X : OAt n0 Z y bytes maxL (some .int) p l e R s m args below meth c T h cells slots) {pc : Nat} {Ls : Array Slot} {z : Int32} {rest : List Value} (hd : decode bytes pc = .ok (.ireturn, 1)) (hc : cells ≤ kk) (hn : slots ≤ nn) (hQ : Q (some (.int z)) h) : OFin n0 p e s below Q kk nn T (mkF m pc Ls (.int z :: rest)) := by
  obtain ⟨⟨hx, -, -, -, hby, -, hret, hlk⟩, locs, X, N, eh⟩ := X
  obtain ⟨fs, hr, hrun, hended, hW, hsame⟩ := X.leave (v := some (.int z)) (fun h => by rw [hret] at h; cases h) hlk
  exact ⟨_, _, retOut X hx hret rfl (Or.inl ⟨rfl, Or.inl rfl, _, rfl⟩) (hb hby hd) hr, hrun, hended, _, _, rfl, ⟨by show Q _ T.heap; rw [eh]; exact hQ, N⟩, ⟨_, rfl⟩, hW, hsame.mono hc hn⟩
theorem OAt.retL (X : OAt n0 Z y bytes maxL (some .long) p l e R s m args below meth c T h cells slots) {pc : Nat} {Ls : Array Slot} {z : Int64} {rest : List Value} (hd : decode bytes pc = .ok (.lreturn, 1)) (hc : cells ≤ kk) (hn : slots ≤ nn) (hQ : Q (some (.long z)) h) : OFin n0 p e s below Q kk nn T (mkF m pc Ls (.long z :: rest)) := by
  obtain ⟨⟨hx, -, -, -, hby, -, hret, hlk⟩, locs, X, N, eh⟩ := X
  obtain ⟨fs, hr, hrun, hended, hW, hsame⟩ := X.leave (v := some (.long z)) (fun h => by rw [hret] at h; cases h) hlk
  exact ⟨_, _, retOut X hx hret rfl (Or.inr (Or.inl ⟨rfl, rfl, _, rfl⟩)) (hb hby hd) hr, hrun, hended, _, _, rfl, ⟨by show Q _ T.heap; rw [eh]; exact hQ, N⟩, ⟨_, rfl⟩, hW, hsame.mono hc hn⟩
theorem OAt.retR (X : OAt n0 Z y bytes maxL (some t) p l e R s m args below meth c T h cells slots) (ht : t.isReference = true) {pc : Nat} {Ls : Array Slot} {w : Value} {rest : List Value} (hw : w.isRef = true) (hd : decode bytes pc = .ok (.areturn, 1)) (hc : cells ≤ kk) (hn : slots ≤ nn) (hQ : Q (some w) h) : OFin n0 p e s below Q kk nn T (mkF m pc Ls (w :: rest)) := by
  obtain ⟨⟨hx, -, -, -, hby, -, hret, hlk⟩, locs, X, N, eh⟩ := X
  have hna : narrow t w = w := by rcases ref_cases hw with rfl | ⟨a, rfl⟩ <;> cases t <;> first | rfl | cases ht
  obtain ⟨fs, hr, hrun, hended, hW, hsame⟩ := X.leave (v := some w) (fun h => by rw [hret] at h; cases h) hlk
  exact ⟨_, _, retOut X hx hret hna (Or.inr (Or.inr (Or.inr (Or.inr ⟨rfl, ht, hw⟩)))) (hb hby hd) hr, hrun, hended, _, _, rfl, ⟨by show Q _ T.heap; rw [eh]; exact hQ, N⟩, ⟨_, rfl⟩, hW, hsame.mono hc hn⟩
theorem OAt.retV (X : OAt n0 Z y bytes maxL none p l e R s m args below meth c T h cells slots) {pc : Nat} {Ls : Array Slot} (hd : decode bytes pc = .ok (.return_, 1)) (hc : cells ≤ kk) (hn : slots ≤ nn) (hQ : Q none h) : OFin n0 p e s below Q kk nn T (mkF m pc Ls []) := by
  obtain ⟨⟨hx, -, -, -, hby, -, hret, hlk⟩, locs, X, N, eh⟩ := X
  obtain ⟨fs, hr, hrun, hended, hW, hsame⟩ := X.leave (v := none) (fun _ => rfl) hlk
  exact ⟨_, _, X.returnOut hx hret (hb hby hd) hr, hrun, hended, _, _, rfl, ⟨by show Q _ T.heap; rw [eh]; exact hQ, N⟩, ⟨_, rfl⟩, hW, hsame.mono hc hn⟩
theorem OAt.ldcI (X : OAt n0 Z y bytes maxL ret p l e R s m args below meth c T h cells slots) {index : Nat} {v : Int32} (w : (Jvm.Cond.constant y.cls index v).before a0 Z = true) (hg : g.method = m) (hd : decode bytes g.pc = .ok (.ldc index, 2))
    (k : OFin n0 p e s below Q kk nn T { g with pc := g.pc + 2, stack := .int v :: g.stack }) : OFin n0 p e s below Q kk nn T g := by
  obtain ⟨⟨hx, hZ, hown, -, hby, -⟩, locs, X, -⟩ := X
  exact OFin.run (X.ldcInt hx hown (mvT hZ w) hg (hb hby hd)) k
theorem OAt.ldcwI (X : OAt n0 Z y bytes maxL ret p l e R s m args below meth c T h cells slots) {index : Nat} {v : Int32} (w : (Jvm.Cond.constant y.cls index v).before a0 Z = true) (hg : g.method = m) (hd : decode bytes g.pc = .ok (.ldc_w index, 3))
    (k : OFin n0 p e s below Q kk nn T { g with pc := g.pc + 3, stack := .int v :: g.stack }) : OFin n0 p e s below Q kk nn T g := by
  obtain ⟨⟨hx, hZ, hown, -, hby, -⟩, locs, X, -⟩ := X
  exact OFin.run (X.ldcwInt hx hown (mvT hZ w) hg (hb hby hd)) k
theorem OAt.ldcL (X : OAt n0 Z y bytes maxL ret p l e R s m args below meth c T h cells slots) {index : Nat} {v : Int64} (w : (Jvm.Cond.constantLong y.cls index v).before a0 Z = true) (hg : g.method = m) (hd : decode bytes g.pc = .ok (.ldc2_w index, 3))
    (k : OFin n0 p e s below Q kk nn T { g with pc := g.pc + 3, stack := .long v :: g.stack }) : OFin n0 p e s below Q kk nn T g := by
  obtain ⟨⟨hx, hZ, hown, -, hby, -⟩, locs, X, -⟩ := X
  exact OFin.run (X.ldc2Long hx hown (mvT hZ w) hg (hb hby hd)) k
theorem OAt.getF (X : OAt n0 Z y bytes maxL ret p l e R s m args below meth c T h cells slots) {O n d : String} {index : Nat} (w : (Jvm.Cond.fieldLink y.cls index O n d).before a0 Z = true) {a : Addr} {v : Value} (F : Fld Z h a O n d v) (hg : g.method = m) {rest : List Value} (hs : g.stack = .ref a :: rest) (hd : decode bytes g.pc = .ok (.getfield index, 3))
    (k : ∀ T', OAt n0 Z y bytes maxL ret p l e R s m args below meth c T' h cells slots → OFin n0 p e s below Q kk nn T' { g with pc := g.pc + 3, stack := v :: rest }) : OFin n0 p e s below Q kk nn T g := by
  obtain ⟨C, locs, X, N, eh⟩ := X
  obtain ⟨hx, hZ, hown, -, hby, -⟩ := id C
  obtain ⟨T', X', e', st⟩ := Jvm.RoadKit.getF X hx hZ hown (host := "") (Or.inl w) Via.refl eh F hg hs (hb hby hd)
  exact OFin.run st (k T' ⟨C, locs, X', N, e'⟩)
theorem OAt.getS (X : OAt n0 Z y bytes maxL ret p l e R s m args below meth c T h cells slots) {O n d : String} {index : Nat} (w : (Jvm.Cond.fieldLink y.cls index O n d).before a0 Z = true) {v : Value} (F : Sta Z h O n d v) (hg : g.method = m) (hd : decode bytes g.pc = .ok (.getstatic index, 3))
    (k : ∀ T', OAt n0 Z y bytes maxL ret p l e R s m args below meth c T' h cells slots → OFin n0 p e s below Q kk nn T' { g with pc := g.pc + 3, stack := v :: g.stack }) : OFin n0 p e s below Q kk nn T g := by
  obtain ⟨C, locs, X, N, eh⟩ := X
  obtain ⟨hx, hZ, hown, -, hby, -⟩ := id C
  obtain ⟨T', X', e', st⟩ := Jvm.RoadKit.getS X hx hZ hown w Via.refl eh F hg (hb hby hd) (host := "")
  exact OFin.run st (k T' ⟨C, locs, X', N, e'⟩)
theorem OAt.putF (X : OAt n0 Z y bytes maxL ret p l e R s m args below meth c T h cells slots) {O n d C : String} {index ki : Nat} {ty : FieldType} (w : (Jvm.Cond.fieldLink y.cls index O n d).before a0 Z = true) {a : Addr} {v old : Value} (F : Fld Z h a O n d old) (E : Exa Z h a C) (L : (Jvm.Cond.lays C O n d).before a0 Z = true ∨ ((Jvm.Cond.laysFinal C O n d).before a0 Z = true ∧ y.cls = O ∧ y.name = "<init>"))
    (wi : (Jvm.Cond.instantiable C ki).before a0 Z = true) (hty : parseFieldDescriptor d = some ty) (hn : narrow ty v = v) (hf : fits ty v = true) (hnew : n0 ≤ a) (hg : g.method = m) {rest : List Value} (hs : g.stack = v :: .ref a :: rest) (hd : decode bytes g.pc = .ok (.putfield index, 3))
    (k : ∀ T' h', OAt n0 Z y bytes maxL ret p l e R s m args below meth c T' h' cells slots → Wr h h' a (Jvm.RoadKit.slotOf Z O n d) v → OFin n0 p e s below Q kk nn T' { g with pc := g.pc + 3, stack := rest }) : OFin n0 p e s below Q kk nn T g := by
  obtain ⟨C, locs, X, N, eh⟩ := X
  obtain ⟨hx, hZ, hown, hnm, hby, -⟩ := id C
  obtain ⟨T', h', X', e', W, st⟩ := Jvm.RoadKit.putF X hx hZ hown (host := "") (Or.inl w) Via.refl eh F E (L.imp id fun q => ⟨q.1, q.2.1, hnm.trans q.2.2⟩) wi hty hn hf hg hs (hb hby hd)
  exact OFin.run st (k T' h' ⟨C, _, X', Fr.snoc X' N hnew, e'⟩ W)
theorem OAt.initO (X : OAt n0 Z y bytes maxL ret p l e R s m args below meth c T h cells slots) {idx : Nat} (w1 : (Jvm.Cond.methodLink y.cls idx Lib.objectInit).before a0 Z = true) (w2 : (Jvm.Cond.instanceMethod Lib.objectInit).before a0 Z = true) (w3 : (Jvm.Cond.code Lib.objectInit ⟨#[0xb1]⟩ 1 none).before a0 Z = true) (hg : g.method = m) (hsize : g.locals.size = maxL) {a : Addr} {rest : List Value} (hs : g.stack = .ref a :: rest) (hd : decode bytes g.pc = .ok (.invokespecial idx, 3))
    (hf : 1 ≤ R.frames) {W : Nat} (hW : 2 * g.monitorRoom + (rest.map fun v => v.category).sum ≤ W) (hl : W + 12 ≤ R.locals)
    (k : ∀ T', OAt n0 Z y bytes maxL ret p l e R s m args below meth c T' h cells slots → OFin n0 p e s below Q kk nn T' { g with pc := g.pc + 3, stack := rest }) : OFin n0 p e s below Q kk nn T g := by
  obtain ⟨C, locs, X, N, eh⟩ := X
  obtain ⟨hx, hZ, hown, -, hby, hml, -⟩ := id C
  obtain ⟨T', X', e', st⟩ := Jvm.RoadKit.initO X hx hZ hown w1 w2 w3 eh hg (hsize.trans hml.symm) hs (hb hby hd) hf hW hl
  exact OFin.run st (k T' ⟨C, locs, X', N, e'⟩)
theorem OAt.newO (X : OAt n0 Z y bytes maxL ret p l e R s m args below meth c T h cells slots) {C : String} {index n : Nat} (w : (Jvm.Cond.classLink y.cls index C).before a0 Z = true) (wi : (Jvm.Cond.instantiable C n).before a0 Z = true) (wz : (Jvm.Cond.initialized C).before a0 Z = true) (hg : g.method = m) (hd : decode bytes g.pc = .ok (.new index, 3)) (hc : cells + 1 ≤ R.cells) (hl : slots + n ≤ R.slots)
    (k : ∀ T' h' a, a = h.size → OAt n0 Z y bytes maxL ret p l e R s m args below meth c T' h' (cells + 1) (slots + n) → Ext h h' → Exa Z h' a C → (∀ {O nm d : String} {ty : FieldType}, Laid Z a0 C O nm d → parseFieldDescriptor d = some ty → Fld Z h' a O nm d (defaultValue ty)) → OFin n0 p e s below Q kk nn T' { g with pc := g.pc + 3, stack := .ref a :: g.stack }) : OFin n0 p e s below Q kk nn T g := by
  obtain ⟨C', locs, X, N, eh⟩ := X
  obtain ⟨hx, hZ, hown, -, hby, -⟩ := id C'
  obtain ⟨T', h', X', e', E, A, D, -, st⟩ := Jvm.RoadKit.newO X hx hZ hown w wi wz eh hg (hb hby hd) hc hl
  exact OFin.run st (k T' h' _ rfl ⟨C', locs, X', N, e'⟩ E A D)
theorem OAt.newP (X : OAt n0 Z y bytes maxL ret p l e R s m args below meth c T h cells slots) {aty : ArrayType} (w : (Jvm.Cond.arrayClass (newarray.typeOf aty)).before a0 Z = true) (hg : g.method = m) (hd : decode bytes g.pc = .ok (.newarray aty, 2)) {n : Int32} {rest : List Value} (hs : g.stack = .int n :: rest) (hn : ¬ n < 0) {cap : Nat} (hcap : n.toNatClampNeg ≤ cap) (hb8 : cap * 8 ≤ 536870912) (hc : cells + 1 ≤ R.cells) (hl : slots + cap ≤ R.slots) {ad : String} (had : "[" ++ (newarray.typeOf aty).toString = ad)
    (k : ∀ T' h' cA a, a = h.size → OAt n0 Z y bytes maxL ret p l e R s m args below meth c T' h' (cells + 1) (slots + cap) → Ext h h' → Arr Z h' a (newA cA (newarray.typeOf aty) n) (newarray.typeOf aty) → Exa Z h' a ad → OFin n0 p e s below Q kk nn T' { g with pc := g.pc + 2, stack := .ref a :: rest }) : OFin n0 p e s below Q kk nn T g := by
  obtain ⟨C', locs, X, N, eh⟩ := X
  obtain ⟨hx, hZ, hown, -, hby, -⟩ := id C'
  obtain ⟨T', h', cA, X', e', E, A, A', st⟩ := newPE X hx hZ w eh hg (hb hby hd) hs hn hcap hb8 hc hl had
  exact OFin.run st (k T' h' cA _ rfl ⟨C', locs, X', N, e'⟩ E A A')
theorem OAt.newRA (X : OAt n0 Z y bytes maxL ret p l e R s m args below meth c T h cells slots) {C : String} {ty : FieldType} {index : Nat} (hC : (FieldType.array ty).toString = C) (w1 : (Jvm.Cond.classLink y.cls index C).before a0 Z = true) (w2 : (Jvm.Cond.arrayOver (.array ty)).before a0 Z = true) (hg : g.method = m) (hd : decode bytes g.pc = .ok (.anewarray index, 3)) {n : Int32} {rest : List Value} (hs : g.stack = .int n :: rest) (hn : ¬ n < 0) {cap : Nat} (hcap : n.toNatClampNeg ≤ cap) (hb8 : cap * 8 ≤ 536870912) (hc : cells + 1 ≤ R.cells) (hl : slots + cap ≤ R.slots) {ad : String} (had : "[" ++ C = ad)
    (k : ∀ T' h' cA a, a = h.size → OAt n0 Z y bytes maxL ret p l e R s m args below meth c T' h' (cells + 1) (slots + cap) → Ext h h' → Arr Z h' a (newA cA (.array ty) n) (.array ty) → Exa Z h' a ad → OvrA Z cA ty C → OFin n0 p e s below Q kk nn T' { g with pc := g.pc + 3, stack := .ref a :: rest }) : OFin n0 p e s below Q kk nn T g := by
  obtain ⟨C', locs, X, N, eh⟩ := X
  obtain ⟨hx, hZ, hown, -, hby, -⟩ := id C'
  obtain ⟨T', h', cA, X', e', E, A, A', O, st⟩ := Jvm.RoadKit.newRA X hx hZ hown hC w1 w2 eh hg (hb hby hd) hs hn hcap hb8 hc hl had
  exact OFin.run st (k T' h' cA _ rfl ⟨C', locs, X', N, e'⟩ E A A' O)
theorem OAt.clone (X : OAt n0 Z y bytes maxL ret p l e R s m args below meth c T h cells slots) {ad : String} {index : Nat} (w1 : (Jvm.Cond.methodLink y.cls index ⟨ad, "clone", "()Ljava/lang/Object;"⟩).before a0 Z = true) (w2 : (Jvm.Cond.sameMethod ad "java/lang/Object" "clone" "()Ljava/lang/Object;").before a0 Z = true) (w3 : (Jvm.Cond.native ⟨"java/lang/Object", "clone", "()Ljava/lang/Object;"⟩).before a0 Z = true)
    (w4 : (Jvm.Cond.instanceMethod ⟨"java/lang/Object", "clone", "()Ljava/lang/Object;"⟩).before a0 Z = true) (w5 : (Jvm.Cond.selects ad ⟨ad, "clone", "()Ljava/lang/Object;"⟩ ⟨"java/lang/Object", "clone", "()Ljava/lang/Object;"⟩).before a0 Z = true) (w6 : (Jvm.Cond.castable ad "java/lang/Cloneable").before a0 Z = true)
    {a : Addr} {cl : Cell} {ty : FieldType} (A : Arr Z h a cl ty) (E : Exa Z h a ad) (F : FitC Z cl) (hg : g.method = m) (hsize : g.locals.size = maxL) {rest : List Value} (hs : g.stack = .ref a :: rest) (hd : decode bytes g.pc = .ok (.invokevirtual index, 3))
    (hf : 1 ≤ R.frames) {W cap : Nat} (hW : 2 * g.monitorRoom + (rest.map fun v => v.category).sum ≤ W) (hl : W + 14 ≤ R.locals) (hcap : cl.slots.size ≤ cap) (hc : cells + 1 ≤ R.cells) (hsl : slots + cap ≤ R.slots)
    (k : ∀ T' h' b, b = h.size → OAt n0 Z y bytes maxL ret p l e R s m args below meth c T' h' (cells + 1) (slots + cap) → Ext h h' → Arr Z h' b (Jvm.RoadKit.cloneOf cl) ty → Exa Z h' b ad → OFin n0 p e s below Q kk nn T' { g with pc := g.pc + 3, stack := .ref b :: rest }) : OFin n0 p e s below Q kk nn T g := by
  obtain ⟨C', locs, X, N, eh⟩ := X
  obtain ⟨hx, hZ, hown, -, hby, hml, -⟩ := id C'
  obtain ⟨T', h', X', e', E', A', A'', st⟩ := Jvm.RoadKit.cloneA X hx hZ hown w1 w2 w3 w4 w5 w6 eh A E F hg (hsize.trans hml.symm) hs (hb hby hd) hf hW hl hcap hc hsl
  exact OFin.run st (k T' h' _ rfl ⟨C', locs, X', N, e'⟩ E' A' A'')
theorem OAt.stR (X : OAt n0 Z y bytes maxL ret p l e R s m args below meth c T h cells slots) {a : Addr} {cl : Cell} {ty : FieldType} (A : Arr Z h a cl ty) {j : Int32} {v : Value} (hin : ¬ (j < 0 ∨ cl.slots.size ≤ j.toNatClampNeg)) (hty : ty.isReference = true) (F : Sto Z h a v) (hnew : n0 ≤ a) (hg : g.method = m) {rest : List Value} (hs : g.stack = v :: .int j :: .ref a :: rest) (hd : decode bytes g.pc = .ok (.aastore, 1))
    (k : ∀ T' h', OAt n0 Z y bytes maxL ret p l e R s m args below meth c T' h' cells slots → Wr h h' a j.toNatClampNeg v → OFin n0 p e s below Q kk nn T' { g with pc := g.pc + 1, stack := rest }) : OFin n0 p e s below Q kk nn T g := by
  obtain ⟨C, locs, X, N, eh⟩ := X
  obtain ⟨hx, hZ, hown, -, hby, -⟩ := id C
  obtain ⟨T', h', X', e', W, st⟩ := Jvm.RoadKit.stR X hx hZ eh A hin hty F hg hs (hb hby hd)
  exact OFin.run st (k T' h' ⟨C, _, X', Fr.snoc X' N hnew, e'⟩ W)
theorem OAt.acmp (X : OAt n0 Z y bytes maxL ret p l e R s m args below meth c T h cells slots) (hg : g.method = m) {cd : ACond} {u v : Value} (h1 : u.isRef = true) (h2 : v.isRef = true) {rest : List Value} {o : Int} {pc0 pc' : Nat} {same : Bool} (hpc : g.pc = pc0) (hd : decode bytes g.pc = .ok (.if_acmp cd o, 3)) (hs : g.stack = v :: u :: rest) (hq : decide (u = v) = same) (ho : 0 ≤ (pc0 : Int) + o) (hp : pc' = if acV cd same = true then ((pc0 : Int) + o).toNat else pc0 + 3)
    (k : OFin n0 p e s below Q kk nn T { g with pc := pc', stack := rest }) : OFin n0 p e s below Q kk nn T g := by
  obtain ⟨⟨hx, hZ, hown, -, hby, -⟩, locs, X, -⟩ := X
  exact OFin.run (fun t kk => Jvm.RoadKit.acmp X hx hg h1 h2 hpc (hb hby hd) hs hq ho hp kk) k
theorem OAt.irem (X : OAt n0 Z y bytes maxL ret p l e R s m args below meth c T h cells slots) (hg : g.method = m) {u v : Int32} {rest : List Value} (hd : decode bytes g.pc = .ok (.irem, 1)) (hs : g.stack = .int v :: .int u :: rest) (hv : v ≠ 0)
    (k : OFin n0 p e s below Q kk nn T { g with pc := g.pc + 1, stack := .int (u % v) :: rest }) : OFin n0 p e s below Q kk nn T g := by
  obtain ⟨⟨hx, hZ, hown, -, hby, -⟩, locs, X, -⟩ := X
  exact OFin.run (fun t kk => iremM X hx hg (hb hby hd) hs hv kk) k
theorem OAt.callS (X : OAt n0 Z y bytes maxL ret p l e R s m args below meth c T h cells slots) {index : Nat} {y' : MethodName} {bytes' : ByteArray} {maxL' : Nat} {ret' : Option FieldType} (w1 : (Jvm.Cond.methodLink y.cls index y').before a0 Z = true) (w2 : (Jvm.Cond.static y').before a0 Z = true) (w3 : (Jvm.Cond.initialized y'.cls).before a0 Z = true) (w4 : (Jvm.Cond.code y' bytes' maxL' ret').before a0 Z = true)
    (hy : y'.cls ≠ "java/lang/invoke/MethodHandle" ∧ y'.cls ≠ "java/lang/invoke/VarHandle") {rm : Room} {Qc : Option Value → Heap → Prop} {argsL rest : List Value} (hM : OMeets l Z y' [] bytes' maxL' ret' rm argsL.toArray h n0 Qc)
    (hg : g.method = m) (hsize : g.locals.size = maxL) {ps : List FieldType} {r : Option FieldType} (hpd : parseMethodDescriptor y'.desc = some ⟨ps, r⟩) (hlen : argsL.length = ps.length) (hs : g.stack = argsL.reverse ++ rest) {W : Nat} (hW : 2 * g.monitorRoom + (rest.map fun v => v.category).sum ≤ W) (hd : decode bytes g.pc = .ok (.invokestatic index, 3))
    (hf : rm.frames + 1 ≤ R.frames) (hl : W + (maxL' + 11) + rm.locals ≤ R.locals) (hc : cells + rm.cells ≤ R.cells) (hn : slots + rm.slots ≤ R.slots)
    (k : ∀ v T' h', OAt n0 Z y bytes maxL ret p l e R s m args below meth c T' h' (cells + rm.cells) (slots + rm.slots) → Qc v h' → OFin n0 p e s below Q kk nn T' { g with pc := g.pc + 3, stack := v.toList ++ rest }) : OFin n0 p e s below Q kk nn T g := by
  obtain ⟨C, locs, X, N, eh⟩ := X
  obtain ⟨hx, hZ, hown, -, hby, hml, -⟩ := id C
  obtain ⟨v, _, ⟨T1, L1, k1, n1⟩, -, X1, ⟨Lc, hQ, l1, y1, z1⟩, st⟩ := Jvm.LawKit.callS X hx hown (mvT hZ w1) (mvT hZ w2) (mvT hZ w3) (mvT hZ w4) hy
    (backOf (W := W) (Q := fun v h L => Qc v h ∧ Fr n0 L) hM hZ w4 w3 hf hl) hg (hsize.trans hml.symm) (lenOf hpd hlen) hs hW (hb hby hd) (fun _ _ => ⟨rfl, eh, hc, hn⟩)
  dsimp only [Pt.U, Pt.locs, Pt.cells, Pt.slots] at X1 l1 y1 z1 st hQ
  subst l1 y1 z1
  exact OFin.run st (k v T1 _ ⟨C, _, X1, N.app hQ.2, rfl⟩ hQ.1)
theorem OAt.callI (X : OAt n0 Z y bytes maxL ret p l e R s m args below meth c T h cells slots) {index : Nat} {y' : MethodName} {bytes' : ByteArray} {maxL' : Nat} (hy1 : y'.name = "<init>") (w1 : (Jvm.Cond.methodLink y.cls index y').before a0 Z = true) (w2 : (Jvm.Cond.instanceMethod y').before a0 Z = true) (w3 : (Jvm.Cond.initialized y'.cls).before a0 Z = true) (w4 : (Jvm.Cond.code y' bytes' maxL' none).before a0 Z = true)
    (hy : y'.cls ≠ "java/lang/invoke/MethodHandle" ∧ y'.cls ≠ "java/lang/invoke/VarHandle") {rm : Room} {Qc : Option Value → Heap → Prop} {a : Addr} {argsL rest : List Value} (hM : OMeets l Z y' [] bytes' maxL' none rm (Value.ref a :: argsL).toArray h n0 Qc)
    (hg : g.method = m) (hsize : g.locals.size = maxL) {ps : List FieldType} {r : Option FieldType} (hpd : parseMethodDescriptor y'.desc = some ⟨ps, r⟩) (hlen : argsL.length = ps.length) (hs : g.stack = argsL.reverse ++ .ref a :: rest) {W : Nat} (hW : 2 * g.monitorRoom + (rest.map fun v => v.category).sum ≤ W) (hd : decode bytes g.pc = .ok (.invokespecial index, 3))
    (hf : rm.frames + 1 ≤ R.frames) (hl : W + (maxL' + 11) + rm.locals ≤ R.locals) (hc : cells + rm.cells ≤ R.cells) (hn : slots + rm.slots ≤ R.slots)
    (k : ∀ v T' h', OAt n0 Z y bytes maxL ret p l e R s m args below meth c T' h' (cells + rm.cells) (slots + rm.slots) → Qc v h' → OFin n0 p e s below Q kk nn T' { g with pc := g.pc + 3, stack := v.toList ++ rest }) : OFin n0 p e s below Q kk nn T g := by
  obtain ⟨C, locs, X, N, eh⟩ := X
  obtain ⟨hx, hZ, hown, -, hby, hml, -⟩ := id C
  obtain ⟨v, _, ⟨T1, L1, k1, n1⟩, -, X1, ⟨Lc, hQ, l1, y1, z1⟩, st⟩ := X.specialBack hx hy1 hown (mvT hZ w1) (mvT hZ w2) (mvT hZ w4) hy
    (backOf (W := W) (Q := fun v h L => Qc v h ∧ Fr n0 L) hM hZ w4 w3 hf hl) hg (hsize.trans hml.symm) (Steps.refl _) (lenOf hpd hlen) hs hW (hb hby hd) (fun _ _ => ⟨rfl, eh, hc, hn⟩)
  dsimp only [Pt.U, Pt.locs, Pt.cells, Pt.slots] at X1 l1 y1 z1 st hQ
  subst l1 y1 z1
  exact OFin.run (fun t k => st.trans k) (k v T1 _ ⟨C, _, X1, N.app hQ.2, rfl⟩ hQ.1)
theorem OAt.callV (X : OAt n0 Z y bytes maxL ret p l e R s m args below meth c T h cells slots) {index : Nat} {y' z' : MethodName} {C0 : String} {bytes' : ByteArray} {maxL' : Nat} {ret' : Option FieldType} (w1 : (Jvm.Cond.methodLink y.cls index y').before a0 Z = true) (w2 : (Jvm.Cond.declares y').before a0 Z = true) (nf : NotFace s y') (w5 : (Jvm.Cond.selects C0 y' z').before a0 Z = true) (w6 : (Jvm.Cond.instanceMethod z').before a0 Z = true) (w3 : (Jvm.Cond.initialized z'.cls).before a0 Z = true) (w4 : (Jvm.Cond.code z' bytes' maxL' ret').before a0 Z = true)
    (hy : y'.cls ≠ "java/lang/invoke/MethodHandle" ∧ y'.cls ≠ "java/lang/invoke/VarHandle") {rm : Room} {Qc : Option Value → Heap → Prop} {a : Addr} (E : Exa Z h a C0) {argsL rest : List Value} (hM : OMeets l Z z' [] bytes' maxL' ret' rm (Value.ref a :: argsL).toArray h n0 Qc)
    (hg : g.method = m) (hsize : g.locals.size = maxL) {ps : List FieldType} {r : Option FieldType} (hpd : parseMethodDescriptor y'.desc = some ⟨ps, r⟩) (hlen : argsL.length = ps.length) (hs : g.stack = argsL.reverse ++ .ref a :: rest) {W : Nat} (hW : 2 * g.monitorRoom + (rest.map fun v => v.category).sum ≤ W) (hd : decode bytes g.pc = .ok (.invokevirtual index, 3))
    (hf : rm.frames + 1 ≤ R.frames) (hl : W + (maxL' + 11) + rm.locals ≤ R.locals) (hc : cells + rm.cells ≤ R.cells) (hn : slots + rm.slots ≤ R.slots)
    (k : ∀ v T' h', OAt n0 Z y bytes maxL ret p l e R s m args below meth c T' h' (cells + rm.cells) (slots + rm.slots) → Qc v h' → OFin n0 p e s below Q kk nn T' { g with pc := g.pc + 3, stack := v.toList ++ rest }) : OFin n0 p e s below Q kk nn T g := by
  obtain ⟨C, locs, X, N, eh⟩ := X
  obtain ⟨hx, hZ, hown, -, hby, hml, -⟩ := id C
  obtain ⟨cq, kq, qa, qb, qc⟩ := isOf hZ eh E
  obtain ⟨v, _, ⟨T1, L1, k1, n1⟩, -, X1, ⟨Lc, hQ, l1, y1, z1⟩, st⟩ := X.virtualBack hx hown (mvT hZ w1) (mvT hZ w2) nf (mvT hZ w5) (mvT hZ w6) hy
    (backOf (W := W) (Q := fun v h L => Qc v h ∧ Fr n0 L) hM hZ w4 w3 hf hl) qa qc hg (hsize.trans hml.symm) (Steps.refl _) (lenOf hpd hlen) hs hW (hb hby hd) (fun _ _ => ⟨rfl, eh, hc, hn⟩)
  dsimp only [Pt.U, Pt.locs, Pt.cells, Pt.slots] at X1 l1 y1 z1 st hQ
  subst l1 y1 z1
  exact OFin.run (fun t k => st.trans k) (k v T1 _ ⟨C, _, X1, N.app hQ.2, rfl⟩ hQ.1)
theorem OAt.notFace (X : OAt n0 Z y bytes maxL ret p l e R s m args below meth c T h cells slots) {C0 : String} {y' z' : MethodName} (w : (Jvm.Cond.selects C0 y' z').before a0 Z = true) (hq : y' = z') : NotFace s y' := by
  obtain ⟨⟨hx, hZ, -⟩, -⟩ := X
  subst hq
  exact notFace_of_selects (args := #[]) (mvT hZ w)
theorem OAt.aload0 (X : OAt n0 Z y bytes maxL ret p l e R s m args below meth c T h cells slots) {a : Addr} {cl : Cell} {ty : FieldType} (A : Arr Z h a cl ty) {j : Int32} {v : Value} (hin : ¬ (j < 0 ∨ cl.slots.size ≤ j.toNatClampNeg)) (hv : cl.slots[j.toNatClampNeg]? = some v) (hg : g.method = m) {rest : List Value} (hs : g.stack = .int j :: .ref a :: rest)
    {i : Instr} (hi : (i = .iaload ∧ ty = .int) ∨ (i = .laload ∧ ty = .long) ∨ (i = .caload ∧ ty = .char) ∨ (i = .baload ∧ ty = .byte) ∨ (i = .aaload ∧ ty.isReference = true)) (hd : decode bytes g.pc = .ok (i, 1))
    (k : OFin n0 p e s below Q kk nn T { g with pc := g.pc + 1, stack := v :: rest }) : OFin n0 p e s below Q kk nn T g := by
  obtain ⟨⟨hx, hZ, hown, -, hby, -⟩, locs, X, N, eh⟩ := X
  have hA := State.isArrayOf_alike hZ.alike A.2.1
  have hc : T.heap[a]? = some cl := by rw [eh]; exact A.1
  rcases hi with ⟨rfl, rfl⟩ | ⟨rfl, rfl⟩ | ⟨rfl, rfl⟩ | ⟨rfl, rfl⟩ | ⟨rfl, ht⟩
  · exact OFin.run (X.iaload hx hc hA A.2.2 hin hv hg hs (hb hby hd)) k
  · exact OFin.run (X.laload hx hc hA A.2.2 hin hv hg hs (hb hby hd)) k
  · exact OFin.run (X.caload hx hc hA A.2.2 hin hv hg hs (hb hby hd)) k
  · exact OFin.run (X.baloadBytes hx hc hA A.2.2 hin hv hg hs (hb hby hd)) k
  · exact OFin.run (X.aaload hx hc hA ht A.2.2 hin hv hg hs (hb hby hd)) k
theorem OAt.alen (X : OAt n0 Z y bytes maxL ret p l e R s m args below meth c T h cells slots) {a : Addr} {cl : Cell} {ty : FieldType} (A : Arr Z h a cl ty) {n : Int32} (hn : cl.slots.size.toInt32 = n) (hg : g.method = m) {rest : List Value} (hs : g.stack = .ref a :: rest) (hd : decode bytes g.pc = .ok (.arraylength, 1))
    (k : OFin n0 p e s below Q kk nn T { g with pc := g.pc + 1, stack := .int n :: rest }) : OFin n0 p e s below Q kk nn T g := by
  obtain ⟨⟨hx, hZ, hown, -, hby, -⟩, locs, X, N, eh⟩ := X
  subst hn
  exact OFin.run (X.arraylength hx (by rw [eh]; exact A.1) (State.isArrayOf_alike hZ.alike A.2.1) hg hs (hb hby hd)) k
theorem OAt.stJ (X : OAt n0 Z y bytes maxL ret p l e R s m args below meth c T h cells slots) {a : Addr} {cl : Cell} (A : Arr Z h a cl .long) {j : Int32} {v : Int64} (hin : ¬ (j < 0 ∨ cl.slots.size ≤ j.toNatClampNeg)) (hnew : n0 ≤ a) (hg : g.method = m) {rest : List Value} (hs : g.stack = .long v :: .int j :: .ref a :: rest) (hd : decode bytes g.pc = .ok (.lastore, 1))
    (k : ∀ T' h', OAt n0 Z y bytes maxL ret p l e R s m args below meth c T' h' cells slots → Wr h h' a j.toNatClampNeg (.long v) → OFin n0 p e s below Q kk nn T' { g with pc := g.pc + 1, stack := rest }) : OFin n0 p e s below Q kk nn T g := by
  obtain ⟨C, locs, X, N, eh⟩ := X
  obtain ⟨hx, hZ, hown, -, hby, -⟩ := id C
  obtain ⟨T', h', X', e', W, st⟩ := Jvm.RoadKit.stJ X hx hZ eh A hin hg hs (hb hby hd)
  exact OFin.run st (k T' h' ⟨C, _, X', Fr.snoc X' N hnew, e'⟩ W)
theorem OAt.stB (X : OAt n0 Z y bytes maxL ret p l e R s m args below meth c T h cells slots) {a : Addr} {cl : Cell} (A : Arr Z h a cl .byte) {j v : Int32} (hin : ¬ (j < 0 ∨ cl.slots.size ≤ j.toNatClampNeg)) (hnew : n0 ≤ a) (hg : g.method = m) {rest : List Value} (hs : g.stack = .int v :: .int j :: .ref a :: rest) (hd : decode bytes g.pc = .ok (.bastore, 1))
    (k : ∀ T' h', OAt n0 Z y bytes maxL ret p l e R s m args below meth c T' h' cells slots → Wr h h' a j.toNatClampNeg (.int (nar .byte v)) → OFin n0 p e s below Q kk nn T' { g with pc := g.pc + 1, stack := rest }) : OFin n0 p e s below Q kk nn T g := by
  obtain ⟨C, locs, X, N, eh⟩ := X
  obtain ⟨hx, hZ, hown, -, hby, -⟩ := id C
  obtain ⟨T', h', X', e', W, st⟩ := Jvm.RoadKit.stB X hx hZ eh A hin hg hs (hb hby hd)
  exact OFin.run st (k T' h' ⟨C, _, X', Fr.snoc X' N hnew, e'⟩ W)
theorem OAt.stC (X : OAt n0 Z y bytes maxL ret p l e R s m args below meth c T h cells slots) {a : Addr} {cl : Cell} (A : Arr Z h a cl .char) {j v : Int32} (hin : ¬ (j < 0 ∨ cl.slots.size ≤ j.toNatClampNeg)) (hnew : n0 ≤ a) (hg : g.method = m) {rest : List Value} (hs : g.stack = .int v :: .int j :: .ref a :: rest) (hd : decode bytes g.pc = .ok (.castore, 1))
    (k : ∀ T' h', OAt n0 Z y bytes maxL ret p l e R s m args below meth c T' h' cells slots → Wr h h' a j.toNatClampNeg (.int (nar .char v)) → OFin n0 p e s below Q kk nn T' { g with pc := g.pc + 1, stack := rest }) : OFin n0 p e s below Q kk nn T g := by
  obtain ⟨C, locs, X, N, eh⟩ := X
  obtain ⟨hx, hZ, hown, -, hby, -⟩ := id C
  obtain ⟨T', h', X', e', W, st⟩ := Jvm.RoadKit.stC X hx hZ eh A hin hg hs (hb hby hd)
  exact OFin.run st (k T' h' ⟨C, _, X', Fr.snoc X' N hnew, e'⟩ W)
theorem OAt.instY (X : OAt n0 Z y bytes maxL ret p l e R s m args below meth c T h cells slots) {K : String} {index : Nat} (w : (Jvm.Cond.classLink y.cls index K).before a0 Z = true) {a : Addr} (F : Ins Z h a K true) (hg : g.method = m) {rest : List Value} (hs : g.stack = .ref a :: rest) (hd : decode bytes g.pc = .ok (.instanceof index, 3))
    (k : ∀ T', OAt n0 Z y bytes maxL ret p l e R s m args below meth c T' h cells slots → OFin n0 p e s below Q kk nn T' { g with pc := g.pc + 3, stack := .int 1 :: rest }) : OFin n0 p e s below Q kk nn T g := by
  obtain ⟨C, locs, X, N, eh⟩ := X
  obtain ⟨hx, hZ, hown, -, hby, -⟩ := id C
  obtain ⟨T', X', e', st⟩ := Jvm.RoadKit.instY X hx hZ hown w eh F hg hs (hb hby hd)
  exact OFin.run st (k T' ⟨C, locs, X', N, e'⟩)
theorem OAt.castY (X : OAt n0 Z y bytes maxL ret p l e R s m args below meth c T h cells slots) {K : String} {index : Nat} (w : (Jvm.Cond.classLink y.cls index K).before a0 Z = true) {a : Addr} (F : Ins Z h a K true) (hg : g.method = m) {rest : List Value} (hs : g.stack = .ref a :: rest) (hd : decode bytes g.pc = .ok (.checkcast index, 3))
    (k : ∀ T', OAt n0 Z y bytes maxL ret p l e R s m args below meth c T' h cells slots → OFin n0 p e s below Q kk nn T' { g with pc := g.pc + 3 }) : OFin n0 p e s below Q kk nn T g := by
  obtain ⟨C, locs, X, N, eh⟩ := X
  obtain ⟨hx, hZ, hown, -, hby, -⟩ := id C
  obtain ⟨T', X', e', st⟩ := Jvm.RoadKit.castY X hx hZ hown w eh F hg hs (hb hby hd)
  exact OFin.run st (k T' ⟨C, locs, X', N, e'⟩)
theorem OAt.instNo (X : OAt n0 Z y bytes maxL ret p l e R s m args below meth c T h cells slots) {K C : String} {index : Nat} (w : (Jvm.Cond.classLink y.cls index K).before a0 Z = true) {a : Addr} (E : Exa Z h a C) (F : ∃ c t, Z.vm.findClass C = some c ∧ Z.vm.findClass K = some t ∧ Z.vm.assignable c t = false) (hg : g.method = m) {rest : List Value} (hs : g.stack = .ref a :: rest) (hd : decode bytes g.pc = .ok (.instanceof index, 3))
    (k : ∀ T', OAt n0 Z y bytes maxL ret p l e R s m args below meth c T' h cells slots → OFin n0 p e s below Q kk nn T' { g with pc := g.pc + 3, stack := .int 0 :: rest }) : OFin n0 p e s below Q kk nn T g := by
  obtain ⟨C, locs, X, N, eh⟩ := X
  obtain ⟨hx, hZ, hown, -, hby, -⟩ := id C
  obtain ⟨T', X', e', st⟩ := Jvm.RoadKit.instNo X hx hZ hown w eh E F hg hs (hb hby hd)
  exact OFin.run st (k T' ⟨C, locs, X', N, e'⟩)
theorem OAt.instNull (X : OAt n0 Z y bytes maxL ret p l e R s m args below meth c T h cells slots) {index : Nat} (hg : g.method = m) {rest : List Value} (hs : g.stack = .null :: rest) (hd : decode bytes g.pc = .ok (.instanceof index, 3))
    (k : OFin n0 p e s below Q kk nn T { g with pc := g.pc + 3, stack := .int 0 :: rest }) : OFin n0 p e s below Q kk nn T g := by
  obtain ⟨⟨hx, hZ, hown, -, hby, -⟩, locs, X, N, eh⟩ := X
  exact OFin.run (X.instanceofNull hx hg hs (hb hby hd)) k
theorem o_nsRoot {O K : String} {n : Nat} (w : (Jvm.Cond.noSuperclass O).before a0 Z = true) (wk : (Jvm.Cond.instantiable K n).before a0 Z = true) (hn : O ≠ K) : NS Z O K := by
  obtain ⟨c, k, h1, h2, h3, -, -⟩ := Cond.noSuperclass_spec w
  obtain ⟨t, kt, g1, -⟩ := Cond.instantiable_spec wk
  have ne := ids_ne h1 g1 hn
  refine ⟨c, t, h1, g1, fun fuel => ?_⟩
  cases fuel with
  | zero => rfl
  | succ f => simp [Vm.isSubclassAux, ne, h2, h3]
theorem o_nsNo {C S K : String} {n : Nat} (w : (Jvm.Cond.superclass C S).before a0 Z = true) (wk : (Jvm.Cond.instantiable K n).before a0 Z = true) (q : NS Z C K) (hn : C ≠ K) : ∃ c t, Z.vm.findClass C = some c ∧ Z.vm.findClass K = some t ∧ Z.vm.assignable c t = false := by
  obtain ⟨c, t, h0, g0, n3⟩ := q
  obtain ⟨p, k, kp, h1, h2, h3, h4, h5, -, h7⟩ := Cond.superclass_spec h0 w
  obtain ⟨t2, k', g1, g2, g3, g4, -⟩ := Cond.instantiable_spec wk
  cases g0.symm.trans g1
  have ne := ids_ne h0 g0 hn
  have g5 : k'.isInterface = false := by simp only [Bool.or_eq_false_iff] at g4; exact g4.1
  refine ⟨c, t, h0, g0, ?_⟩
  show Z.vm.assignableAux (255 + 1) c t = false
  simp [Vm.assignableAux, ne, h2, g2, h5, g3, g5, Vm.isSubclass, n3]
/-- an array of N places; place j holds f j -/
def OArr (Z : State) (h : Heap) (a : Addr) (ty : FieldType) (N : Nat) (f : Nat → Value) : Prop := ∃ c : Cell, Arr Z h a c ty ∧ c.slots.size = N ∧ ∀ j, j < N → c.slots[j]? = some (f j)
theorem OArr.lt {a : Addr} {ty : FieldType} {N : Nat} {f : Nat → Value} (F : OArr Z h a ty N f) : a < h.size := by obtain ⟨c, A, -⟩ := F; exact A.lt
theorem OArr.ext {a : Addr} {ty : FieldType} {N : Nat} {f : Nat → Value} (F : OArr Z h a ty N f) (E : Ext h h') : OArr Z h' a ty N f := by obtain ⟨c, A, r⟩ := F; exact ⟨c, A.ext E, r⟩
theorem OArr.other {a b : Addr} {ty : FieldType} {N sl : Nat} {f : Nat → Value} {v : Value} (F : OArr Z h b ty N f) (W : Wr h h' a sl v) (q : b ≠ a) : OArr Z h' b ty N f := by obtain ⟨c, A, r⟩ := F; exact ⟨c, A.other W q, r⟩
theorem OArr.keep {a : Addr} {ws : List Addr} {ty : FieldType} {N : Nat} {f : Nat → Value} (F : OArr Z h a ty N f) (K : Keep h h' ws) (q : a ∉ ws) : OArr Z h' a ty N f := by obtain ⟨c, A, r⟩ := F; exact ⟨c, ⟨K.2.1 a c A.1 q, A.2⟩, r⟩
theorem OArr.new {a : Addr} {k : ClassId} {ty : FieldType} {z : Int32} (A : Arr Z h a (newA k ty z) ty) : OArr Z h a ty z.toNatClampNeg (fun _ => defaultValue ty) := ⟨_, A, sz_new _ _ _, fun j hj => by simp [newA, hj]⟩
theorem OArr.congr {a : Addr} {ty : FieldType} {N : Nat} {f f' : Nat → Value} (F : OArr Z h a ty N f) (q : ∀ j, j < N → f j = f' j) : OArr Z h a ty N f' := by obtain ⟨c, A, r1, r2⟩ := F; exact ⟨c, A, r1, fun j hj => by rw [r2 j hj, q j hj]⟩
theorem OArr.set {a : Addr} {ty : FieldType} {N i : Nat} {f : Nat → Value} {v : Value} (F : OArr Z h a ty N f) (W : Wr h h' a i v) : OArr Z h' a ty N (fun j => if j = i then v else f j) := by
  obtain ⟨c, A, r1, r2⟩ := F
  refine ⟨c.setSlot i v, A.same W, by rw [sz_set]; exact r1, fun j hj => ?_⟩
  by_cases q : j = i
  · subst q; simp [Cell.setSlot, r1, hj]
  · simp only [q, if_false]
    rw [← r2 j hj]
    exact Array.getElem?_setIfInBounds_ne (Ne.symm q)
theorem o_fitC {a : Addr} {cl : Cell} {ty : FieldType} (A : Arr Z h a cl ty) (q : ∀ (i : Nat) (v : Value), cl.slots[i]? = some v → fits ty v = true) : FitC Z cl := fun i v hv => by
  obtain ⟨hs, k, hk, comp, hkind⟩ := A.2.1
  simp [State.fitsSlot, State.slotType?, hk, hkind, q i v hv]
theorem o_in {N : Nat} {j : Int32} {cl : Cell} (S : cl.slots.size = N) (h0 : 0 ≤ j.toInt) (h1 : j.toInt < N) : ¬ (j < 0 ∨ cl.slots.size ≤ j.toNatClampNeg) := by
  have e : (0 : Int32).toInt = 0 := by decide
  have q : (j.toNatClampNeg : Int) = j.toInt := by show (j.toInt.toNat : Int) = _; omega
  rw [Int32.lt_iff_toInt_lt, S, e]; omega
theorem o_nat {j : Int32} (h0 : 0 ≤ j.toInt) : (j.toNatClampNeg : Int) = j.toInt := by show (j.toInt.toNat : Int) = _; omega
theorem OFin.mono {k2 n2 : Nat} (k : OFin n0 p e s below Q kk nn T g) (h1 : kk ≤ k2) (h2 : nn ≤ n2) : OFin n0 p e s below Q k2 n2 T g := by
  obtain ⟨s₂, o, q1, q2, q3, v, L, q4, q5, q6⟩ := k; exact ⟨s₂, o, q1, q2, q3, v, L, q4, q5, q6.1, q6.2.1, q6.2.2.mono h1 h2⟩
theorem o_static {C n d K : String} (hx : (Jvm.Cond.exactly (.static C n d) K).value args Z none Z [] = some true) (wi : (Jvm.Cond.initialized C).before args Z = true) (wl : (Jvm.Cond.laysStatic C n d).before args Z = true) :
    ∃ a, (Term.static C n d).eval args Z none [] Z = some (.ref a) ∧ Exa Z Z.heap a K ∧ Sta Z Z.heap C n d (.ref a) := by
  obtain ⟨a, ev⟩ := exa_v hx
  exact ⟨a, ev, Exa.start ev hx, Sta.start ev (Or.inr ⟨wi, wl⟩)⟩
theorem o_fieldI {t : Term} {O f dd : String} {k : Int32} {a : Addr} (ev : t.eval args Z none [] Z = some (.ref a)) (hq : (Jvm.Cond.eq (.field t O f dd) (.int k)).value args Z none Z [] = some true) : Fld Z Z.heap a O f dd (.int k) := by
  refine Fld.start ?_
  rw [← fld_at (C := O) (n := f) (dd := dd) ev]
  obtain ⟨u, v, h1, h2, h3, h4⟩ := cmp_v (Or.inl hq)
  have h5 : v = .int k := (Option.some.inj h2).symm
  subst h5
  obtain ⟨z, rfl⟩ := h4
  have := gotT (Cond.eq_ints h1 h2) hq
  rw [h1, this]
end Own
def own_pick (k : Int32) (a0_ a1_ a2_ a3_ a4_ : Addr) : Addr := if k = 0 then a0_ else if k = 1 then a1_ else if k = 2 then a2_ else if k = 3 then a3_ else a4_
def own_exp (k : Int32) : Int32 := if k = 0 then 1 else if k = 1 then 1 else 0
def own_num (a a0_ a1_ : Addr) : Int32 := if a = a0_ then 1 else if a = a1_ then 1 else 0
theorem own_same (k : Int32) (a0_ a1_ a2_ a3_ a4_ : Addr) (q1 : a0_ ≠ a2_) (q2 : a0_ ≠ a3_) (q3 : a0_ ≠ a4_) (q4 : a1_ ≠ a2_) (q5 : a1_ ≠ a3_) (q6 : a1_ ≠ a4_) : own_num (own_pick k a0_ a1_ a2_ a3_ a4_) a0_ a1_ = own_exp k := by
  unfold own_num own_pick own_exp
  by_cases h0 : k = 0
  · simp [h0]
  by_cases h1 : k = 1
  · simp [h0, h1]
  by_cases h2 : k = 2
  · simp [h0, h1, h2, Ne.symm q1, Ne.symm q4]
  by_cases h3 : k = 3
  · simp [h0, h1, h2, h3, Ne.symm q2, Ne.symm q5]
  · simp [h0, h1, h2, h3, Ne.symm q3, Ne.symm q6]
theorem own_exa {Z : State} {h : Heap} {K : String} (k : Int32) (a0_ a1_ a2_ a3_ a4_ : Addr) (e0 : Exa Z h a0_ K) (e1 : Exa Z h a1_ K) (e2 : Exa Z h a2_ K) (e3 : Exa Z h a3_ K) (e4 : Exa Z h a4_ K) : Exa Z h (own_pick k a0_ a1_ a2_ a3_ a4_) K := by
  unfold own_pick
  repeat' split
  all_goals assumption
theorem pn_com_example_typelith_typelith_value_BuiltInTypeIsNumericPinLaw : plainName "com/example/typelith/typelith/value/BuiltInTypeIsNumericPinLaw" = true := by first | (simp [plainName, overriddenIn]; done) | decide +kernel
theorem d1_0 : decode method_2_code 0 = .ok (.iload_n 0, 1) := by decide +kernel
theorem d1_1 : decode method_2_code 1 = .ok (.ifCond .ne 7, 3) := by decide +kernel
theorem d1_4 : decode method_2_code 4 = .ok (.getstatic 7, 3) := by decide +kernel
theorem d1_7 : decode method_2_code 7 = .ok (.areturn, 1) := by decide +kernel
theorem d1_8 : decode method_2_code 8 = .ok (.iload_n 0, 1) := by decide +kernel
theorem d1_9 : decode method_2_code 9 = .ok (.iconst 1, 1) := by decide +kernel
theorem d1_10 : decode method_2_code 10 = .ok (.if_icmp .ne 7, 3) := by decide +kernel
theorem d1_13 : decode method_2_code 13 = .ok (.getstatic 13, 3) := by decide +kernel
theorem d1_16 : decode method_2_code 16 = .ok (.areturn, 1) := by decide +kernel
theorem d1_17 : decode method_2_code 17 = .ok (.iload_n 0, 1) := by decide +kernel
theorem d1_18 : decode method_2_code 18 = .ok (.iconst 2, 1) := by decide +kernel
theorem d1_19 : decode method_2_code 19 = .ok (.if_icmp .ne 7, 3) := by decide +kernel
theorem d1_22 : decode method_2_code 22 = .ok (.getstatic 16, 3) := by decide +kernel
theorem d1_25 : decode method_2_code 25 = .ok (.areturn, 1) := by decide +kernel
theorem d1_26 : decode method_2_code 26 = .ok (.iload_n 0, 1) := by decide +kernel
theorem d1_27 : decode method_2_code 27 = .ok (.iconst 3, 1) := by decide +kernel
theorem d1_28 : decode method_2_code 28 = .ok (.if_icmp .ne 7, 3) := by decide +kernel
theorem d1_31 : decode method_2_code 31 = .ok (.getstatic 19, 3) := by decide +kernel
theorem d1_34 : decode method_2_code 34 = .ok (.areturn, 1) := by decide +kernel
theorem d1_35 : decode method_2_code 35 = .ok (.getstatic 22, 3) := by decide +kernel
theorem d1_38 : decode method_2_code 38 = .ok (.areturn, 1) := by decide +kernel
set_option maxRecDepth 65536 in
set_option maxHeartbeats 40000000 in
theorem rm1 (l : Launch) (Z : State) (a0 : Array Value) (hw : ∀ d ∈ tables_1, d.before a0 Z = true) (p0 : Int32) (a0_ a1_ a2_ a3_ a4_ : Addr) (h0 : Heap) (n0 : Nat) (S0 : Sta Z h0 "com/example/typelith/typelith/value/BuiltInType" "NUMBER" "Lcom/example/typelith/typelith/value/BuiltInType;" (.ref a0_)) (S1 : Sta Z h0 "com/example/typelith/typelith/value/BuiltInType" "INTEGER" "Lcom/example/typelith/typelith/value/BuiltInType;" (.ref a1_)) (S2 : Sta Z h0 "com/example/typelith/typelith/value/BuiltInType" "DATE" "Lcom/example/typelith/typelith/value/BuiltInType;" (.ref a2_)) (S3 : Sta Z h0 "com/example/typelith/typelith/value/BuiltInType" "BOOLEAN" "Lcom/example/typelith/typelith/value/BuiltInType;" (.ref a3_)) (S4 : Sta Z h0 "com/example/typelith/typelith/value/BuiltInType" "NULL" "Lcom/example/typelith/typelith/value/BuiltInType;" (.ref a4_)) :
    OMeets l Z (⟨"com/example/typelith/typelith/value/BuiltInTypeIsNumericPinLaw", "pick", "(I)Lcom/example/typelith/typelith/value/BuiltInType;"⟩ : MethodName) [] method_2_code 1 (some (.object "com/example/typelith/typelith/value/BuiltInType")) ({ frames := 0, cells := 0, slots := 0, locals := 0 } : Room) #[(.int p0)] h0 n0 (fun v h => v = some (.ref (own_pick p0 a0_ a1_ a2_ a3_ a4_)) ∧ h0 = h) := by
  refine o_enter (Z := Z) (plainFor_of_name pn_com_example_typelith_typelith_value_BuiltInTypeIsNumericPinLaw) ?_
  intro p e s m below meth c T0 X0
  refine OFin.cast (g' := (mkF m 0 #[.val (.int p0)] [])) (by first | rfl | simp [entryFrame, mkF, argsToLocals, Value.category]) ?_
  refine X0.step (fun hA hx hq t k => XS.iloadN hA hx rfl (hb hq d1_0) rfl k) ?_
  show OFin _ _ _ _ _ _ _ _ T0 (mkF m 1 #[.val (.int p0)] [(.int p0)])
  by_cases k0 : p0 = (0 : Int32)
  · refine X0.step (fun hA hx hq t k => XS.ifNo hA hx rfl (hb hq d1_1) rfl ((if0 _ _).trans (teq (k0)).2) k) ?_
    show OFin _ _ _ _ _ _ _ _ T0 (mkF m 4 #[.val (.int p0)] [])
    refine X0.getS (hw _ (List.mem_of_getElem? (i := 5) rfl)) S0 (g := (mkF m 4 #[.val (.int p0)] [])) rfl d1_4 ?_
    intro T1 X1
    show OFin _ _ _ _ _ _ _ _ T1 (mkF m 7 #[.val (.int p0)] [(.ref a0_)])
    exact X1.retR rfl rfl d1_7 (by decide) (by decide) (⟨by unfold own_pick; simp [k0], rfl⟩)
  · refine X0.step (fun hA hx hq t k => XS.ifYes hA hx rfl (pc0 := 1) (pc' := 8) rfl (hb hq d1_1) rfl ((if0 _ _).trans (feq (k0)).2) (by decide) (by decide) k) ?_
    show OFin _ _ _ _ _ _ _ _ T0 (mkF m 8 #[.val (.int p0)] [])
    refine X0.step (fun hA hx hq t k => XS.iloadN hA hx rfl (hb hq d1_8) rfl k) ?_
    show OFin _ _ _ _ _ _ _ _ T0 (mkF m 9 #[.val (.int p0)] [(.int p0)])
    refine X0.step (fun hA hx hq t k => XS.iconst hA hx rfl (hb hq d1_9) k) ?_
    show OFin _ _ _ _ _ _ _ _ T0 (mkF m 10 #[.val (.int p0)] [(.int (1 : Int32)), (.int p0)])
    by_cases k1 : p0 = (1 : Int32)
    · refine X0.step (fun hA hx hq t k => XS.icmpNo hA hx rfl (hb hq d1_10) rfl (teq (k1)).2 k) ?_
      show OFin _ _ _ _ _ _ _ _ T0 (mkF m 13 #[.val (.int p0)] [])
      refine X0.getS (hw _ (List.mem_of_getElem? (i := 21) rfl)) S1 (g := (mkF m 13 #[.val (.int p0)] [])) rfl d1_13 ?_
      intro T2 X2
      show OFin _ _ _ _ _ _ _ _ T2 (mkF m 16 #[.val (.int p0)] [(.ref a1_)])
      exact X2.retR rfl rfl d1_16 (by decide) (by decide) (⟨by unfold own_pick; simp [k0, k1], rfl⟩)
    · refine X0.step (fun hA hx hq t k => XS.icmpYes hA hx rfl (pc0 := 10) (pc' := 17) rfl (hb hq d1_10) rfl (feq (k1)).2 (by decide) (by decide) k) ?_
      show OFin _ _ _ _ _ _ _ _ T0 (mkF m 17 #[.val (.int p0)] [])
      refine X0.step (fun hA hx hq t k => XS.iloadN hA hx rfl (hb hq d1_17) rfl k) ?_
      show OFin _ _ _ _ _ _ _ _ T0 (mkF m 18 #[.val (.int p0)] [(.int p0)])
      refine X0.step (fun hA hx hq t k => XS.iconst hA hx rfl (hb hq d1_18) k) ?_
      show OFin _ _ _ _ _ _ _ _ T0 (mkF m 19 #[.val (.int p0)] [(.int (2 : Int32)), (.int p0)])
      by_cases k2 : p0 = (2 : Int32)
      · refine X0.step (fun hA hx hq t k => XS.icmpNo hA hx rfl (hb hq d1_19) rfl (teq (k2)).2 k) ?_
        show OFin _ _ _ _ _ _ _ _ T0 (mkF m 22 #[.val (.int p0)] [])
        refine X0.getS (hw _ (List.mem_of_getElem? (i := 24) rfl)) S2 (g := (mkF m 22 #[.val (.int p0)] [])) rfl d1_22 ?_
        intro T3 X3
        show OFin _ _ _ _ _ _ _ _ T3 (mkF m 25 #[.val (.int p0)] [(.ref a2_)])
        exact X3.retR rfl rfl d1_25 (by decide) (by decide) (⟨by unfold own_pick; simp [k0, k1, k2], rfl⟩)
      · refine X0.step (fun hA hx hq t k => XS.icmpYes hA hx rfl (pc0 := 19) (pc' := 26) rfl (hb hq d1_19) rfl (feq (k2)).2 (by decide) (by decide) k) ?_
        show OFin _ _ _ _ _ _ _ _ T0 (mkF m 26 #[.val (.int p0)] [])
        refine X0.step (fun hA hx hq t k => XS.iloadN hA hx rfl (hb hq d1_26) rfl k) ?_
        show OFin _ _ _ _ _ _ _ _ T0 (mkF m 27 #[.val (.int p0)] [(.int p0)])
        refine X0.step (fun hA hx hq t k => XS.iconst hA hx rfl (hb hq d1_27) k) ?_
        show OFin _ _ _ _ _ _ _ _ T0 (mkF m 28 #[.val (.int p0)] [(.int (3 : Int32)), (.int p0)])
        by_cases k3 : p0 = (3 : Int32)
        · refine X0.step (fun hA hx hq t k => XS.icmpNo hA hx rfl (hb hq d1_28) rfl (teq (k3)).2 k) ?_
          show OFin _ _ _ _ _ _ _ _ T0 (mkF m 31 #[.val (.int p0)] [])
          refine X0.getS (hw _ (List.mem_of_getElem? (i := 17) rfl)) S3 (g := (mkF m 31 #[.val (.int p0)] [])) rfl d1_31 ?_
          intro T4 X4
          show OFin _ _ _ _ _ _ _ _ T4 (mkF m 34 #[.val (.int p0)] [(.ref a3_)])
          exact X4.retR rfl rfl d1_34 (by decide) (by decide) (⟨by unfold own_pick; simp [k0, k1, k2, k3], rfl⟩)
        · refine X0.step (fun hA hx hq t k => XS.icmpYes hA hx rfl (pc0 := 28) (pc' := 35) rfl (hb hq d1_28) rfl (feq (k3)).2 (by decide) (by decide) k) ?_
          show OFin _ _ _ _ _ _ _ _ T0 (mkF m 35 #[.val (.int p0)] [])
          refine X0.getS (hw _ (List.mem_of_getElem? (i := 22) rfl)) S4 (g := (mkF m 35 #[.val (.int p0)] [])) rfl d1_35 ?_
          intro T5 X5
          show OFin _ _ _ _ _ _ _ _ T5 (mkF m 38 #[.val (.int p0)] [(.ref a4_)])
          exact X5.retR rfl rfl d1_38 (by decide) (by decide) (⟨by unfold own_pick; simp [k0, k1, k2, k3], rfl⟩)
theorem pn_com_example_typelith_typelith_value_BuiltInType : plainName "com/example/typelith/typelith/value/BuiltInType" = true := by first | (simp [plainName, overriddenIn]; done) | decide +kernel
theorem d2_0 : decode prog_206_method_7_code 0 = .ok (.aload_n 0, 1) := by decide +kernel
theorem d2_1 : decode prog_206_method_7_code 1 = .ok (.getstatic 3, 3) := by decide +kernel
theorem d2_4 : decode prog_206_method_7_code 4 = .ok (.if_acmp .eq 10, 3) := by decide +kernel
theorem d2_14 : decode prog_206_method_7_code 14 = .ok (.iconst 1, 1) := by decide +kernel
theorem d2_15 : decode prog_206_method_7_code 15 = .ok (.goto 4, 3) := by decide +kernel
theorem d2_19 : decode prog_206_method_7_code 19 = .ok (.ireturn, 1) := by decide +kernel
theorem d2_7 : decode prog_206_method_7_code 7 = .ok (.aload_n 0, 1) := by decide +kernel
theorem d2_8 : decode prog_206_method_7_code 8 = .ok (.getstatic 7, 3) := by decide +kernel
theorem d2_11 : decode prog_206_method_7_code 11 = .ok (.if_acmp .ne 7, 3) := by decide +kernel
theorem d2_18 : decode prog_206_method_7_code 18 = .ok (.iconst 0, 1) := by decide +kernel
set_option maxRecDepth 65536 in
set_option maxHeartbeats 40000000 in
theorem rm2 (l : Launch) (Z : State) (a0 : Array Value) (hw : ∀ d ∈ tables_1, d.before a0 Z = true) (a1 : Addr) (a0_ a1_ : Addr) (h0 : Heap) (n0 : Nat) (S0 : Sta Z h0 "com/example/typelith/typelith/value/BuiltInType" "NUMBER" "Lcom/example/typelith/typelith/value/BuiltInType;" (.ref a0_)) (S1 : Sta Z h0 "com/example/typelith/typelith/value/BuiltInType" "INTEGER" "Lcom/example/typelith/typelith/value/BuiltInType;" (.ref a1_)) :
    OMeets l Z (⟨"com/example/typelith/typelith/value/BuiltInType", "isNumeric", "()Z"⟩ : MethodName) [] prog_206_method_7_code 1 (some .boolean) ({ frames := 0, cells := 0, slots := 0, locals := 0 } : Room) #[(.ref a1)] h0 n0 (fun v h => v = some (.int (own_num a1 a0_ a1_)) ∧ h0 = h) := by
  refine o_enter (Z := Z) (plainFor_of_name pn_com_example_typelith_typelith_value_BuiltInType) ?_
  intro p e s m below meth c T0 X0
  refine OFin.cast (g' := (mkF m 0 #[.val (.ref a1)] [])) (by first | rfl | simp [entryFrame, mkF, argsToLocals, Value.category]) ?_
  refine X0.step (fun hA hx hq t k => XS.aloadN hA hx rfl (hb hq d2_0) rfl rfl k) ?_
  show OFin _ _ _ _ _ _ _ _ T0 (mkF m 1 #[.val (.ref a1)] [(.ref a1)])
  refine X0.getS (hw _ (List.mem_of_getElem? (i := 13) rfl)) S0 (g := (mkF m 1 #[.val (.ref a1)] [(.ref a1)])) rfl d2_1 ?_
  intro T1 X1
  show OFin _ _ _ _ _ _ _ _ T1 (mkF m 4 #[.val (.ref a1)] [(.ref a0_), (.ref a1)])
  by_cases k1 : a1 = a0_
  · refine X1.acmp (g := (mkF m 4 #[.val (.ref a1)] [(.ref a0_), (.ref a1)])) rfl rfl rfl (pc0 := 4) (pc' := 14) (same := true) rfl d2_4 rfl (decide_eq_true (congrArg Value.ref k1)) (by decide) (by decide) ?_
    show OFin _ _ _ _ _ _ _ _ T1 (mkF m 14 #[.val (.ref a1)] [])
    refine X1.step (fun hA hx hq t k => XS.iconst hA hx rfl (hb hq d2_14) k) ?_
    show OFin _ _ _ _ _ _ _ _ T1 (mkF m 15 #[.val (.ref a1)] [(.int (1 : Int32))])
    refine X1.step (fun hA hx hq t k => XS.goto hA hx rfl (pc0 := 15) (pc' := 19) rfl (hb hq d2_15) (by decide) (by decide) k) ?_
    show OFin _ _ _ _ _ _ _ _ T1 (mkF m 19 #[.val (.ref a1)] [(.int (1 : Int32))])
    exact X1.retN (by simp) d2_19 (by decide) (by decide) (⟨by unfold own_num; rw [if_pos k1]; rfl, rfl⟩)
  · refine X1.acmp (g := (mkF m 4 #[.val (.ref a1)] [(.ref a0_), (.ref a1)])) rfl rfl rfl (pc0 := 4) (pc' := 7) (same := false) rfl d2_4 rfl (decide_eq_false fun q => k1 (Value.ref.inj q)) (by decide) (by decide) ?_
    show OFin _ _ _ _ _ _ _ _ T1 (mkF m 7 #[.val (.ref a1)] [])
    refine X1.step (fun hA hx hq t k => XS.aloadN hA hx rfl (hb hq d2_7) rfl rfl k) ?_
    show OFin _ _ _ _ _ _ _ _ T1 (mkF m 8 #[.val (.ref a1)] [(.ref a1)])
    refine X1.getS (hw _ (List.mem_of_getElem? (i := 19) rfl)) S1 (g := (mkF m 8 #[.val (.ref a1)] [(.ref a1)])) rfl d2_8 ?_
    intro T2 X2
    show OFin _ _ _ _ _ _ _ _ T2 (mkF m 11 #[.val (.ref a1)] [(.ref a1_), (.ref a1)])
    by_cases k2 : a1 = a1_
    · refine X2.acmp (g := (mkF m 11 #[.val (.ref a1)] [(.ref a1_), (.ref a1)])) rfl rfl rfl (pc0 := 11) (pc' := 14) (same := true) rfl d2_11 rfl (decide_eq_true (congrArg Value.ref k2)) (by decide) (by decide) ?_
      show OFin _ _ _ _ _ _ _ _ T2 (mkF m 14 #[.val (.ref a1)] [])
      refine X2.step (fun hA hx hq t k => XS.iconst hA hx rfl (hb hq d2_14) k) ?_
      show OFin _ _ _ _ _ _ _ _ T2 (mkF m 15 #[.val (.ref a1)] [(.int (1 : Int32))])
      refine X2.step (fun hA hx hq t k => XS.goto hA hx rfl (pc0 := 15) (pc' := 19) rfl (hb hq d2_15) (by decide) (by decide) k) ?_
      show OFin _ _ _ _ _ _ _ _ T2 (mkF m 19 #[.val (.ref a1)] [(.int (1 : Int32))])
      exact X2.retN (by simp) d2_19 (by decide) (by decide) (⟨by unfold own_num; rw [if_neg k1, if_pos k2]; rfl, rfl⟩)
    · refine X2.acmp (g := (mkF m 11 #[.val (.ref a1)] [(.ref a1_), (.ref a1)])) rfl rfl rfl (pc0 := 11) (pc' := 18) (same := false) rfl d2_11 rfl (decide_eq_false fun q => k2 (Value.ref.inj q)) (by decide) (by decide) ?_
      show OFin _ _ _ _ _ _ _ _ T2 (mkF m 18 #[.val (.ref a1)] [])
      refine X2.step (fun hA hx hq t k => XS.iconst hA hx rfl (hb hq d2_18) k) ?_
      show OFin _ _ _ _ _ _ _ _ T2 (mkF m 19 #[.val (.ref a1)] [(.int (0 : Int32))])
      exact X2.retN (by simp) d2_19 (by decide) (by decide) (⟨by unfold own_num; rw [if_neg k1, if_neg k2]; rfl, rfl⟩)
theorem d3_0 : decode method_3_code 0 = .ok (.iload_n 0, 1) := by decide +kernel
theorem d3_1 : decode method_3_code 1 = .ok (.ifCond .ne 5, 3) := by decide +kernel
theorem d3_4 : decode method_3_code 4 = .ok (.iconst 1, 1) := by decide +kernel
theorem d3_5 : decode method_3_code 5 = .ok (.ireturn, 1) := by decide +kernel
theorem d3_6 : decode method_3_code 6 = .ok (.iload_n 0, 1) := by decide +kernel
theorem d3_7 : decode method_3_code 7 = .ok (.iconst 1, 1) := by decide +kernel
theorem d3_8 : decode method_3_code 8 = .ok (.if_icmp .ne 5, 3) := by decide +kernel
theorem d3_11 : decode method_3_code 11 = .ok (.iconst 1, 1) := by decide +kernel
theorem d3_12 : decode method_3_code 12 = .ok (.ireturn, 1) := by decide +kernel
theorem d3_13 : decode method_3_code 13 = .ok (.iconst 0, 1) := by decide +kernel
theorem d3_14 : decode method_3_code 14 = .ok (.ireturn, 1) := by decide +kernel
set_option maxRecDepth 65536 in
set_option maxHeartbeats 40000000 in
theorem rm3 (l : Launch) (Z : State) (a0 : Array Value) (hw : ∀ d ∈ tables_1, d.before a0 Z = true) (p0 : Int32) (h0 : Heap) (n0 : Nat)  :
    OMeets l Z (⟨"com/example/typelith/typelith/value/BuiltInTypeIsNumericPinLaw", "expected", "(I)Z"⟩ : MethodName) [] method_3_code 1 (some .boolean) ({ frames := 0, cells := 0, slots := 0, locals := 0 } : Room) #[(.int p0)] h0 n0 (fun v h => v = some (.int (own_exp p0)) ∧ h0 = h) := by
  refine o_enter (Z := Z) (plainFor_of_name pn_com_example_typelith_typelith_value_BuiltInTypeIsNumericPinLaw) ?_
  intro p e s m below meth c T0 X0
  refine OFin.cast (g' := (mkF m 0 #[.val (.int p0)] [])) (by first | rfl | simp [entryFrame, mkF, argsToLocals, Value.category]) ?_
  refine X0.step (fun hA hx hq t k => XS.iloadN hA hx rfl (hb hq d3_0) rfl k) ?_
  show OFin _ _ _ _ _ _ _ _ T0 (mkF m 1 #[.val (.int p0)] [(.int p0)])
  by_cases k1 : p0 = (0 : Int32)
  · refine X0.step (fun hA hx hq t k => XS.ifNo hA hx rfl (hb hq d3_1) rfl ((if0 _ _).trans (teq (k1)).2) k) ?_
    show OFin _ _ _ _ _ _ _ _ T0 (mkF m 4 #[.val (.int p0)] [])
    refine X0.step (fun hA hx hq t k => XS.iconst hA hx rfl (hb hq d3_4) k) ?_
    show OFin _ _ _ _ _ _ _ _ T0 (mkF m 5 #[.val (.int p0)] [(.int (1 : Int32))])
    exact X0.retN (by simp) d3_5 (by decide) (by decide) (⟨by unfold own_exp; rw [if_pos k1]; rfl, rfl⟩)
  · refine X0.step (fun hA hx hq t k => XS.ifYes hA hx rfl (pc0 := 1) (pc' := 6) rfl (hb hq d3_1) rfl ((if0 _ _).trans (feq (k1)).2) (by decide) (by decide) k) ?_
    show OFin _ _ _ _ _ _ _ _ T0 (mkF m 6 #[.val (.int p0)] [])
    refine X0.step (fun hA hx hq t k => XS.iloadN hA hx rfl (hb hq d3_6) rfl k) ?_
    show OFin _ _ _ _ _ _ _ _ T0 (mkF m 7 #[.val (.int p0)] [(.int p0)])
    refine X0.step (fun hA hx hq t k => XS.iconst hA hx rfl (hb hq d3_7) k) ?_
    show OFin _ _ _ _ _ _ _ _ T0 (mkF m 8 #[.val (.int p0)] [(.int (1 : Int32)), (.int p0)])
    by_cases k2 : p0 = (1 : Int32)
    · refine X0.step (fun hA hx hq t k => XS.icmpNo hA hx rfl (hb hq d3_8) rfl (teq (k2)).2 k) ?_
      show OFin _ _ _ _ _ _ _ _ T0 (mkF m 11 #[.val (.int p0)] [])
      refine X0.step (fun hA hx hq t k => XS.iconst hA hx rfl (hb hq d3_11) k) ?_
      show OFin _ _ _ _ _ _ _ _ T0 (mkF m 12 #[.val (.int p0)] [(.int (1 : Int32))])
      exact X0.retN (by simp) d3_12 (by decide) (by decide) (⟨by unfold own_exp; rw [if_neg k1, if_pos k2]; rfl, rfl⟩)
    · refine X0.step (fun hA hx hq t k => XS.icmpYes hA hx rfl (pc0 := 8) (pc' := 13) rfl (hb hq d3_8) rfl (feq (k2)).2 (by decide) (by decide) k) ?_
      show OFin _ _ _ _ _ _ _ _ T0 (mkF m 13 #[.val (.int p0)] [])
      refine X0.step (fun hA hx hq t k => XS.iconst hA hx rfl (hb hq d3_13) k) ?_
      show OFin _ _ _ _ _ _ _ _ T0 (mkF m 14 #[.val (.int p0)] [(.int (0 : Int32))])
      exact X0.retN (by simp) d3_14 (by decide) (by decide) (⟨by unfold own_exp; rw [if_neg k1, if_neg k2]; rfl, rfl⟩)
theorem pd_pIr_Lcom_example_typelith_typelith_value_BuiltInType_ : parseMethodDescriptor "(I)Lcom/example/typelith/typelith/value/BuiltInType;" = some ⟨[.int], some (.object "com/example/typelith/typelith/value/BuiltInType")⟩ := by decide +kernel
theorem pd_pr_Z : parseMethodDescriptor "()Z" = some ⟨[], some .boolean⟩ := by decide +kernel
theorem pd_pIr_Z : parseMethodDescriptor "(I)Z" = some ⟨[.int], some .boolean⟩ := by decide +kernel
set_option maxRecDepth 65536 in
set_option maxHeartbeats 40000000 in
theorem rm0 (l : Launch) (Z : State) (a0 : Array Value) (hw : ∀ d ∈ tables_1, d.before a0 Z = true) (ws : List Jvm.Cond) (p0 : Int32) (a0_ a1_ a2_ a3_ a4_ : Addr) (h0 : Heap) (n0 : Nat) (S0 : Sta Z h0 "com/example/typelith/typelith/value/BuiltInType" "NUMBER" "Lcom/example/typelith/typelith/value/BuiltInType;" (.ref a0_)) (S1 : Sta Z h0 "com/example/typelith/typelith/value/BuiltInType" "INTEGER" "Lcom/example/typelith/typelith/value/BuiltInType;" (.ref a1_)) (S2 : Sta Z h0 "com/example/typelith/typelith/value/BuiltInType" "DATE" "Lcom/example/typelith/typelith/value/BuiltInType;" (.ref a2_)) (S3 : Sta Z h0 "com/example/typelith/typelith/value/BuiltInType" "BOOLEAN" "Lcom/example/typelith/typelith/value/BuiltInType;" (.ref a3_)) (S4 : Sta Z h0 "com/example/typelith/typelith/value/BuiltInType" "NULL" "Lcom/example/typelith/typelith/value/BuiltInType;" (.ref a4_)) (E0 : Exa Z h0 a0_ "com/example/typelith/typelith/value/BuiltInType") (E1 : Exa Z h0 a1_ "com/example/typelith/typelith/value/BuiltInType") (E2 : Exa Z h0 a2_ "com/example/typelith/typelith/value/BuiltInType") (E3 : Exa Z h0 a3_ "com/example/typelith/typelith/value/BuiltInType") (E4 : Exa Z h0 a4_ "com/example/typelith/typelith/value/BuiltInType") (q1 : a0_ ≠ a2_) (q2 : a0_ ≠ a3_) (q3 : a0_ ≠ a4_) (q4 : a1_ ≠ a2_) (q5 : a1_ ≠ a3_) (q6 : a1_ ≠ a4_) :
    OMeets l Z x ws code maxLocals ret room_1 #[(.int p0)] h0 n0 (fun v h => v = some (.int 1)) := by
  refine o_enter (Z := Z) (plainFor_of_name pn_com_example_typelith_typelith_value_BuiltInTypeIsNumericPinLaw) ?_
  intro p e s m below meth c T0 X0
  refine OFin.cast (g' := (mkF m 0 #[.val (.int p0), .unset, .unset] [])) (by first | rfl | simp [entryFrame, mkF, argsToLocals, Value.category, maxLocals]) ?_
  refine X0.step (fun hA hx hq t k => XS.iloadN hA hx rfl (hb hq at_0) rfl k) ?_
  show OFin _ _ _ _ _ _ _ _ T0 (mkF m 1 #[.val (.int p0), .unset, .unset] [(.int p0)])
  refine X0.ldcI (hw _ (List.mem_of_getElem? (i := 0) rfl)) (g := (mkF m 1 #[.val (.int p0), .unset, .unset] [(.int p0)])) rfl at_1 ?_
  show OFin _ _ _ _ _ _ _ _ T0 (mkF m 3 #[.val (.int p0), .unset, .unset] [(.int (2147483647 : Int32)), (.int p0)])
  refine X0.step (fun hA hx hq t k => XS.iand hA hx rfl (hb hq at_3) rfl k) ?_
  show OFin _ _ _ _ _ _ _ _ T0 (mkF m 4 #[.val (.int p0), .unset, .unset] [(.int (p0 &&& (2147483647 : Int32)))])
  refine X0.step (fun hA hx hq t k => XS.iconst hA hx rfl (hb hq at_4) k) ?_
  show OFin _ _ _ _ _ _ _ _ T0 (mkF m 5 #[.val (.int p0), .unset, .unset] [(.int (5 : Int32)), (.int (p0 &&& (2147483647 : Int32)))])
  refine X0.irem (g := (mkF m 5 #[.val (.int p0), .unset, .unset] [(.int (5 : Int32)), (.int (p0 &&& (2147483647 : Int32)))])) rfl at_5 rfl (by decide) ?_
  show OFin _ _ _ _ _ _ _ _ T0 (mkF m 6 #[.val (.int p0), .unset, .unset] [(.int ((p0 &&& (2147483647 : Int32)) % (5 : Int32)))])
  refine X0.step (fun hA hx hq t k => XS.istoreN hA hx rfl (hb hq at_6) rfl (l' := #[.val (.int p0), .val (.int ((p0 &&& (2147483647 : Int32)) % (5 : Int32))), .unset]) rfl k) ?_
  show OFin _ _ _ _ _ _ _ _ T0 (mkF m 7 #[.val (.int p0), .val (.int ((p0 &&& (2147483647 : Int32)) % (5 : Int32))), .unset] [])
  refine X0.step (fun hA hx hq t k => XS.iloadN hA hx rfl (hb hq at_7) rfl k) ?_
  show OFin _ _ _ _ _ _ _ _ T0 (mkF m 8 #[.val (.int p0), .val (.int ((p0 &&& (2147483647 : Int32)) % (5 : Int32))), .unset] [(.int ((p0 &&& (2147483647 : Int32)) % (5 : Int32)))])
  refine X0.callS (y' := (⟨"com/example/typelith/typelith/value/BuiltInTypeIsNumericPinLaw", "pick", "(I)Lcom/example/typelith/typelith/value/BuiltInType;"⟩ : MethodName)) (hw _ (List.mem_of_getElem? (i := 1) rfl)) (hw _ (List.mem_of_getElem? (i := 2) rfl)) (hw _ (List.mem_of_getElem? (i := 3) rfl)) (hw _ (List.mem_of_getElem? (i := 4) rfl)) (by decide) (argsL := [(.int ((p0 &&& (2147483647 : Int32)) % (5 : Int32)))]) (rest := []) (rm1 l Z a0 hw ((p0 &&& (2147483647 : Int32)) % (5 : Int32)) a0_ a1_ a2_ a3_ a4_ h0 n0 S0 S1 S2 S3 S4) (g := (mkF m 8 #[.val (.int p0), .val (.int ((p0 &&& (2147483647 : Int32)) % (5 : Int32))), .unset] [(.int ((p0 &&& (2147483647 : Int32)) % (5 : Int32)))])) rfl rfl pd_pIr_Lcom_example_typelith_typelith_value_BuiltInType_ rfl rfl (W := 0) (by show 2 * 0 + _ ≤ _; exact Nat.le_of_eq rfl) at_8 (by decide) (by decide) (by decide) (by decide) ?_
  intro v1 T1 h1 X1 q1
  obtain ⟨rfl, rfl⟩ := q1
  show OFin _ _ _ _ _ _ _ _ T1 (mkF m 11 #[.val (.int p0), .val (.int ((p0 &&& (2147483647 : Int32)) % (5 : Int32))), .unset] [(.ref (own_pick ((p0 &&& (2147483647 : Int32)) % (5 : Int32)) a0_ a1_ a2_ a3_ a4_))])
  refine X1.step (fun hA hx hq t k => XS.astoreN hA hx rfl (hb hq at_11) rfl rfl (l' := #[.val (.int p0), .val (.int ((p0 &&& (2147483647 : Int32)) % (5 : Int32))), .val (.ref (own_pick ((p0 &&& (2147483647 : Int32)) % (5 : Int32)) a0_ a1_ a2_ a3_ a4_))]) rfl k) ?_
  show OFin _ _ _ _ _ _ _ _ T1 (mkF m 12 #[.val (.int p0), .val (.int ((p0 &&& (2147483647 : Int32)) % (5 : Int32))), .val (.ref (own_pick ((p0 &&& (2147483647 : Int32)) % (5 : Int32)) a0_ a1_ a2_ a3_ a4_))] [])
  refine X1.step (fun hA hx hq t k => XS.aloadN hA hx rfl (hb hq at_12) rfl rfl k) ?_
  show OFin _ _ _ _ _ _ _ _ T1 (mkF m 13 #[.val (.int p0), .val (.int ((p0 &&& (2147483647 : Int32)) % (5 : Int32))), .val (.ref (own_pick ((p0 &&& (2147483647 : Int32)) % (5 : Int32)) a0_ a1_ a2_ a3_ a4_))] [(.ref (own_pick ((p0 &&& (2147483647 : Int32)) % (5 : Int32)) a0_ a1_ a2_ a3_ a4_))])
  refine X1.callV (y' := (⟨"com/example/typelith/typelith/value/BuiltInType", "isNumeric", "()Z"⟩ : MethodName)) (z' := (⟨"com/example/typelith/typelith/value/BuiltInType", "isNumeric", "()Z"⟩ : MethodName)) (hw _ (List.mem_of_getElem? (i := 8) rfl)) (hw _ (List.mem_of_getElem? (i := 9) rfl)) (X1.notFace (hw _ (List.mem_of_getElem? (i := 11) rfl)) rfl) (hw _ (List.mem_of_getElem? (i := 11) rfl)) (hw _ (List.mem_of_getElem? (i := 10) rfl)) (hw _ (List.mem_of_getElem? (i := 6) rfl)) (hw _ (List.mem_of_getElem? (i := 12) rfl)) (by decide) (own_exa ((p0 &&& (2147483647 : Int32)) % (5 : Int32)) a0_ a1_ a2_ a3_ a4_ E0 E1 E2 E3 E4) (argsL := []) (rest := []) (rm2 l Z a0 hw (own_pick ((p0 &&& (2147483647 : Int32)) % (5 : Int32)) a0_ a1_ a2_ a3_ a4_) a0_ a1_ h0 n0 S0 S1) (g := (mkF m 13 #[.val (.int p0), .val (.int ((p0 &&& (2147483647 : Int32)) % (5 : Int32))), .val (.ref (own_pick ((p0 &&& (2147483647 : Int32)) % (5 : Int32)) a0_ a1_ a2_ a3_ a4_))] [(.ref (own_pick ((p0 &&& (2147483647 : Int32)) % (5 : Int32)) a0_ a1_ a2_ a3_ a4_))])) rfl rfl pd_pr_Z rfl rfl (W := 0) (by show 2 * 0 + _ ≤ _; exact Nat.le_of_eq rfl) at_13 (by decide) (by decide) (by decide) (by decide) ?_
  intro v2 T2 h2 X2 q2
  obtain ⟨rfl, rfl⟩ := q2
  show OFin _ _ _ _ _ _ _ _ T2 (mkF m 16 #[.val (.int p0), .val (.int ((p0 &&& (2147483647 : Int32)) % (5 : Int32))), .val (.ref (own_pick ((p0 &&& (2147483647 : Int32)) % (5 : Int32)) a0_ a1_ a2_ a3_ a4_))] [(.int (own_num (own_pick ((p0 &&& (2147483647 : Int32)) % (5 : Int32)) a0_ a1_ a2_ a3_ a4_) a0_ a1_))])
  refine X2.step (fun hA hx hq t k => XS.iloadN hA hx rfl (hb hq at_16) rfl k) ?_
  show OFin _ _ _ _ _ _ _ _ T2 (mkF m 17 #[.val (.int p0), .val (.int ((p0 &&& (2147483647 : Int32)) % (5 : Int32))), .val (.ref (own_pick ((p0 &&& (2147483647 : Int32)) % (5 : Int32)) a0_ a1_ a2_ a3_ a4_))] [(.int ((p0 &&& (2147483647 : Int32)) % (5 : Int32))), (.int (own_num (own_pick ((p0 &&& (2147483647 : Int32)) % (5 : Int32)) a0_ a1_ a2_ a3_ a4_) a0_ a1_))])
  refine X2.callS (y' := (⟨"com/example/typelith/typelith/value/BuiltInTypeIsNumericPinLaw", "expected", "(I)Z"⟩ : MethodName)) (hw _ (List.mem_of_getElem? (i := 14) rfl)) (hw _ (List.mem_of_getElem? (i := 15) rfl)) (hw _ (List.mem_of_getElem? (i := 3) rfl)) (hw _ (List.mem_of_getElem? (i := 16) rfl)) (by decide) (argsL := [(.int ((p0 &&& (2147483647 : Int32)) % (5 : Int32)))]) (rest := [(.int (own_num (own_pick ((p0 &&& (2147483647 : Int32)) % (5 : Int32)) a0_ a1_ a2_ a3_ a4_) a0_ a1_))]) (rm3 l Z a0 hw ((p0 &&& (2147483647 : Int32)) % (5 : Int32)) h0 n0) (g := (mkF m 17 #[.val (.int p0), .val (.int ((p0 &&& (2147483647 : Int32)) % (5 : Int32))), .val (.ref (own_pick ((p0 &&& (2147483647 : Int32)) % (5 : Int32)) a0_ a1_ a2_ a3_ a4_))] [(.int ((p0 &&& (2147483647 : Int32)) % (5 : Int32))), (.int (own_num (own_pick ((p0 &&& (2147483647 : Int32)) % (5 : Int32)) a0_ a1_ a2_ a3_ a4_) a0_ a1_))])) rfl rfl pd_pIr_Z rfl rfl (W := 1) (by show 2 * 0 + _ ≤ _; exact Nat.le_of_eq rfl) at_17 (by decide) (by decide) (by decide) (by decide) ?_
  intro v3 T3 h3 X3 q3
  obtain ⟨rfl, rfl⟩ := q3
  show OFin _ _ _ _ _ _ _ _ T3 (mkF m 20 #[.val (.int p0), .val (.int ((p0 &&& (2147483647 : Int32)) % (5 : Int32))), .val (.ref (own_pick ((p0 &&& (2147483647 : Int32)) % (5 : Int32)) a0_ a1_ a2_ a3_ a4_))] [(.int (own_exp ((p0 &&& (2147483647 : Int32)) % (5 : Int32)))), (.int (own_num (own_pick ((p0 &&& (2147483647 : Int32)) % (5 : Int32)) a0_ a1_ a2_ a3_ a4_) a0_ a1_))])
  refine X3.step (fun hA hx hq t k => XS.icmpNo hA hx rfl (hb hq at_20) rfl (teq (own_same ((p0 &&& (2147483647 : Int32)) % (5 : Int32)) a0_ a1_ a2_ a3_ a4_ q1 q2 q3 q4 q5 q6)).2 k) ?_
  show OFin _ _ _ _ _ _ _ _ T3 (mkF m 23 #[.val (.int p0), .val (.int ((p0 &&& (2147483647 : Int32)) % (5 : Int32))), .val (.ref (own_pick ((p0 &&& (2147483647 : Int32)) % (5 : Int32)) a0_ a1_ a2_ a3_ a4_))] [])
  refine X3.step (fun hA hx hq t k => XS.iconst hA hx rfl (hb hq at_23) k) ?_
  show OFin _ _ _ _ _ _ _ _ T3 (mkF m 24 #[.val (.int p0), .val (.int ((p0 &&& (2147483647 : Int32)) % (5 : Int32))), .val (.ref (own_pick ((p0 &&& (2147483647 : Int32)) % (5 : Int32)) a0_ a1_ a2_ a3_ a4_))] [(.int (1 : Int32))])
  refine X3.step (fun hA hx hq t k => XS.goto hA hx rfl (pc0 := 24) (pc' := 28) rfl (hb hq at_24) (by decide) (by decide) k) ?_
  show OFin _ _ _ _ _ _ _ _ T3 (mkF m 28 #[.val (.int p0), .val (.int ((p0 &&& (2147483647 : Int32)) % (5 : Int32))), .val (.ref (own_pick ((p0 &&& (2147483647 : Int32)) % (5 : Int32)) a0_ a1_ a2_ a3_ a4_))] [(.int (1 : Int32))])
  exact X3.retN (by simp) at_28 (by decide) (by decide) (rfl)
set_option maxRecDepth 65536 in
set_option maxHeartbeats 40000000 in
theorem comes_1 {Post : Tables → Env → Array Value → State → Outcome → State → Prop} (hpost : ∀ tb e args s v u, (limb_1_1.after args s (.returned v) u = true ∧ limb_1_2.after args s (.returned v) u = true ∧ True) → FrameEnd s (.returned v) u (Jvm.fieldLocs frame_1_writes args s ++ Jvm.arrayLocs frame_1_arrays args s ++ Jvm.staticLocs frame_1_statics s) 0 0 → Post tb e args s (.returned v) u) :
    ArmFor flags0 classFile x code maxLocals ret World_1 tables_1 room_1 Calls_1 rest_1 Pre_1 Post := by
  intro l hfl _ _ p e ha hc hk s m args below hf hA hF happ hP
  obtain ⟨hcalls, hrest, hpre⟩ := hP
  obtain ⟨-, -, -, hnamed, -, -, -, hat⟩ := (Spec.applies_iff hf).mp happ
  obtain ⟨hg, hn⟩ := and_e (Cond.before_iff.mp (show (Jvm.Cond.and given_1 narrow_1).before args s = true from hpre))
  obtain ⟨hcount, hg0⟩ := and_e hg
  obtain ⟨w0, rfl⟩ : ∃ w0 : Value, args = #[w0] := by
    have hs : args.size = 1 := by simpa [Cond.value, given_1] using hcount
    obtain ⟨L⟩ := args
    match L, hs with
    | [w0], _ => exact ⟨w0, rfl⟩
  have hw := fun d (hd : d ∈ tables_1) => atoms_spec (ws := Jvm.Cond.code x code maxLocals ret :: tables_1) hat d (List.mem_cons_of_mem _ hd)
  have hfit : Fit s := fun {y c} hc i hi => by
    obtain ⟨ha, rfl⟩ := Array.getElem?_eq_some_iff.mp hc
    have q := List.all_eq_true.mp ((Array.all_eq_true_iff_forall_mem.mp hF) _ (Array.getElem_mem ha)) i (List.mem_range.mpr hi)
    simpa [Array.getElem?_eq_getElem hi] using q
  obtain ⟨i0, ei0⟩ := is_v hg0
  obtain rfl : w0 = (.int i0) := Option.some.inj ei0
  obtain ⟨m0, hn0⟩ := and_e hn
  obtain ⟨m1, hn1⟩ := and_e hn0
  obtain ⟨m2, hn2⟩ := and_e hn1
  obtain ⟨m3, hn3⟩ := and_e hn2
  obtain ⟨m4, hn4⟩ := and_e hn3
  obtain ⟨m5, hn5⟩ := and_e hn4
  obtain ⟨m6, hn6⟩ := and_e hn5
  obtain ⟨m7, hn7⟩ := and_e hn6
  obtain ⟨m8, hn8⟩ := and_e hn7
  obtain ⟨a0_, v0, E0, S0⟩ := o_static m0 (hw _ (List.mem_of_getElem? (i := 6) rfl)) (hw _ (List.mem_of_getElem? (i := 7) rfl))
  have f0 := o_fieldI v0 m3
  obtain ⟨a1_, v1, E1, S1⟩ := o_static m4 (hw _ (List.mem_of_getElem? (i := 6) rfl)) (hw _ (List.mem_of_getElem? (i := 20) rfl))
  have f1 := o_fieldI v1 m5
  obtain ⟨a2_, v2, E2, S2⟩ := o_static m8 (hw _ (List.mem_of_getElem? (i := 6) rfl)) (hw _ (List.mem_of_getElem? (i := 25) rfl))
  have f2 := o_fieldI v2 hn8
  obtain ⟨a3_, v3, E3, S3⟩ := o_static m1 (hw _ (List.mem_of_getElem? (i := 6) rfl)) (hw _ (List.mem_of_getElem? (i := 18) rfl))
  have f3 := o_fieldI v3 m2
  obtain ⟨a4_, v4, E4, S4⟩ := o_static m6 (hw _ (List.mem_of_getElem? (i := 6) rfl)) (hw _ (List.mem_of_getElem? (i := 23) rfl))
  have f4 := o_fieldI v4 m7
  obtain ⟨n, o, h1, h2, h3, _, L, rfl, ⟨rfl, N⟩, hq⟩ := rm0 l s _ hw tables_1 i0 a0_ a1_ a2_ a3_ a4_ s.heap s.heap.size S0 S1 S2 S3 S4 E0 E1 E2 E3 E4 (Fld.ne f0 f2 (by decide)) (Fld.ne f0 f3 (by decide)) (Fld.ne f0 f4 (by decide)) (Fld.ne f1 f2 (by decide)) (Fld.ne f1 f3 (by decide)) (Fld.ne f1 f4 (by decide)) p e ha hc hk s m _ below hf ((Spec.applies_iff_loose hf).mp happ).1 ⟨rfl, State.Warmed39.refl s, rfl⟩ trivial
  refine ⟨n, _, h1, h2, h3, hpost _ _ _ _ _ _ ⟨Cond.after_iff.mpr rfl, Cond.after_iff.mpr (eq_i res_at (Term.int_eval (1)) rfl), trivial⟩ ⟨hq.1, hq.2.1, (hq.2.2.sift fun y hy => Or.inr (N y hy)).mono (by decide) (by decide)⟩⟩
theorem main_1_1 : Claimed_1_1 := comes_1 fun _ _ _ _ _ _ h hF => ⟨h.1, hF⟩
theorem main_1_2 : Claimed_1_2 := comes_1 fun _ _ _ _ _ _ h hF => ⟨h.2.1, hF⟩
end Jvm.Pilot.@@N@@
namespace Jvm.Pilot.@@N@@
open Jvm Jvm.ClassFile Sem Op Lib Jvm.Free Jvm.Stand Jvm.Pilot.@@N@@.Jvm.D
/-! MADE BY PROGRAM (witnessworld.py) out of the Statement's table words and the real class files: 13 classes; the members and pool entries that the words name. The judged class is class 1, her method 3. -/
namespace start1
open Jvm.ClassFile
def u (s : String) : CpInfo := .utf8 (stringToUtf16 s)
/-- a pool by its gaps: so many unusable entries, then the entry; so many at the end -/
def gap : Nat → List CpInfo → List CpInfo
  | 0, r => r
  | n + 1, r => .unusable :: gap n r
def poolList (es : List (Nat × CpInfo)) (last : Nat) : List CpInfo := es.foldr (fun e r => gap e.1 (e.2 :: r)) (gap last [])
def pool (es : List (Nat × CpInfo)) (last : Nat) : Array CpInfo := ⟨poolList es last⟩
def fileOf (pool : Array CpInfo) (this : Nat) (attrs : Array Attribute := #[]) (ms : Array MethodInfo := #[]) (fl : Nat := 33) (sup : Nat := 0) (ifs : Array Nat := #[]) (fds : Array FieldInfo := #[]) : ClassFile where
  minorVersion := 0
  majorVersion := 65
  constantPool := pool
  accessFlags := fl
  thisClass := this
  superClass := sup
  interfaces := ifs
  fields := fds
  methods := ms
  attributes := attrs
def plain (name : String) (sup : Option ClassId) : Class where
  name := name
  kind := .ordinary
  loader := none
  accessFlags := 33
  super := sup
  interfaces := #[]
  cf := none
  fields := #[]
  methods := #[]
  instanceTypes := #[]
  staticTypes := #[]
  resolved := #[]
  callSites := []
  init := .initialized
  statics := none
  mirror := none

def pool0 : Array CpInfo := pool [(5, u "<init>"), (0, u "()V"), (1, .class_ 10), (1, u "java/lang/Object")] 113

def k0m0 : Method := { name := "<init>", desc := "()V", sig := { parameters := [], returnType := none }, accessFlags := 1, code := none }
/-- java/lang/Object -/
def k0 : Class := { plain "java/lang/Object" none with
  accessFlags := 33
  interfaces := #[]
  cf := some (fileOf pool0 8 #[] #[{ accessFlags := 1, nameIndex := 5, descriptorIndex := 6, attributes := #[] }] 33 0 #[] #[])
  fields := #[]
  methods := #[k0m0]
  instanceTypes := #[]
  staticTypes := #[]
  resolved := Array.replicate 124 none
  statics := none }

def pool1 : Array CpInfo := pool [(2, .class_ 4), (1, u "java/lang/Object"), (0, u "<init>"), (0, u "()V"), (0, .fieldref 8 9), (0, .class_ 10), (0, .nameAndType 11 12), (0, u "com/example/typelith/typelith/value/BuiltInType"), (0, u "NUMBER"), (0, u "Lcom/example/typelith/typelith/value/BuiltInType;"), (0, .fieldref 8 14), (0, .nameAndType 15 12), (0, u "INTEGER"), (0, .fieldref 8 17), (0, .nameAndType 18 12), (0, u "DATE"), (0, .fieldref 8 20), (0, .nameAndType 21 12), (0, u "BOOLEAN"), (0, .fieldref 8 23), (0, .nameAndType 24 12), (0, u "NULL"), (0, .integer 2147483647), (0, .methodref 27 28), (0, .class_ 29), (0, .nameAndType 30 31), (0, u "com/example/typelith/typelith/value/BuiltInTypeIsNumericPinLaw"), (0, u "pick"), (0, u "(I)Lcom/example/typelith/typelith/value/BuiltInType;"), (0, .methodref 8 33), (0, .nameAndType 34 35), (0, u "isNumeric"), (0, u "()Z"), (0, .methodref 27 37), (0, .nameAndType 38 39), (0, u "expected"), (0, u "(I)Z"), (3, u "law")] 2

def k1m0 : Method := { name := "<init>", desc := "()V", sig := { parameters := [], returnType := none }, accessFlags := 2, code := none }
def k1c1 : Code := { maxStack := 2, maxLocals := 1, code := method_2_code, exceptionTable := #[], attributes := #[] }
def k1m1 : Method := { name := "pick", desc := "(I)Lcom/example/typelith/typelith/value/BuiltInType;", sig := { parameters := [.int], returnType := some (.object "com/example/typelith/typelith/value/BuiltInType") }, accessFlags := 10, code := some k1c1 }
def k1c2 : Code := { maxStack := 2, maxLocals := 1, code := method_3_code, exceptionTable := #[], attributes := #[] }
def k1m2 : Method := { name := "expected", desc := "(I)Z", sig := { parameters := [.int], returnType := some .boolean }, accessFlags := 10, code := some k1c2 }
def k1c3 : Code := { maxStack := 2, maxLocals := 3, code := code, exceptionTable := #[], attributes := #[] }
def k1m3 : Method := { name := "law", desc := "(I)Z", sig := { parameters := [.int], returnType := some .boolean }, accessFlags := 9, code := some k1c3 }
/-- com/example/typelith/typelith/value/BuiltInTypeIsNumericPinLaw -/
def k1 : Class := { plain "com/example/typelith/typelith/value/BuiltInTypeIsNumericPinLaw" (some 0) with
  accessFlags := 49
  interfaces := #[]
  cf := some (fileOf pool1 27 #[] #[{ accessFlags := 2, nameIndex := 5, descriptorIndex := 6, attributes := #[] }, { accessFlags := 10, nameIndex := 30, descriptorIndex := 31, attributes := #[] }, { accessFlags := 10, nameIndex := 38, descriptorIndex := 39, attributes := #[] }, { accessFlags := 9, nameIndex := 43, descriptorIndex := 39, attributes := #[] }] 49 2 #[] #[])
  fields := #[]
  methods := #[k1m0, k1m1, k1m2, k1m3]
  instanceTypes := #[]
  staticTypes := #[]
  resolved := Array.replicate 46 none
  statics := none }

def pool2 : Array CpInfo := pool [(1, .class_ 2), (0, u "java/lang/constant/Constable"), (0, .class_ 4), (0, u "java/lang/Object")] 6

/-- java/lang/constant/Constable -/
def k2 : Class := { plain "java/lang/constant/Constable" (some 0) with
  accessFlags := 1537
  interfaces := #[]
  cf := some (fileOf pool2 1 #[] #[] 1537 3 #[] #[])
  fields := #[]
  methods := #[]
  instanceTypes := #[]
  staticTypes := #[]
  resolved := Array.replicate 11 none
  statics := none }

def pool3 : Array CpInfo := pool [(1, .class_ 2), (0, u "java/lang/Comparable"), (0, .class_ 4), (0, u "java/lang/Object")] 7

/-- java/lang/Comparable -/
def k3 : Class := { plain "java/lang/Comparable" (some 0) with
  accessFlags := 1537
  interfaces := #[]
  cf := some (fileOf pool3 1 #[] #[] 1537 3 #[] #[])
  fields := #[]
  methods := #[]
  instanceTypes := #[]
  staticTypes := #[]
  resolved := Array.replicate 12 none
  statics := none }

def pool4 : Array CpInfo := pool [(1, .class_ 2), (0, u "java/io/Serializable"), (0, .class_ 4), (0, u "java/lang/Object")] 2

/-- java/io/Serializable -/
def k4 : Class := { plain "java/io/Serializable" (some 0) with
  accessFlags := 1537
  interfaces := #[]
  cf := some (fileOf pool4 1 #[] #[] 1537 3 #[] #[])
  fields := #[]
  methods := #[]
  instanceTypes := #[]
  staticTypes := #[]
  resolved := Array.replicate 7 none
  statics := none }

def pool5 : Array CpInfo := pool [(2, .class_ 4), (1, u "java/lang/Enum"), (0, u "name"), (0, u "Ljava/lang/String;"), (2, u "ordinal"), (0, u "I"), (1, .class_ 14), (1, u "java/lang/Object"), (4, u "hash"), (86, .class_ 108), (1, u "java/lang/Enum$EnumDesc"), (2, .class_ 112), (0, u "java/lang/constant/Constable"), (0, .class_ 114), (0, u "java/lang/Comparable"), (0, .class_ 116), (0, u "java/io/Serializable")] 87

/-- java/lang/Enum -/
def k5 : Class := { plain "java/lang/Enum" (some 0) with
  accessFlags := 1057
  interfaces := #[2, 3, 4]
  cf := some (fileOf pool5 2 #[.nestMembers #[106]] #[] 1057 12 #[111, 113, 115] #[{ accessFlags := 18, nameIndex := 5, descriptorIndex := 6, attributes := #[] }, { accessFlags := 18, nameIndex := 9, descriptorIndex := 10, attributes := #[] }, { accessFlags := 2, nameIndex := 19, descriptorIndex := 10, attributes := #[] }])
  fields := #[{ name := "name", type := (.object "java/lang/String"), accessFlags := 18, slot := 0, constantValue := 0 }, { name := "ordinal", type := .int, accessFlags := 18, slot := 1, constantValue := 0 }, { name := "hash", type := .int, accessFlags := 2, slot := 2, constantValue := 0 }]
  methods := #[]
  instanceTypes := #[(.object "java/lang/String"), .int, .int]
  staticTypes := #[]
  resolved := Array.replicate 204 none
  statics := none }

def pool6 : Array CpInfo := pool [(8, .class_ 10), (1, u "com/example/typelith/typelith/value/DataType"), (38, .class_ 50), (0, u "java/lang/Object")] 33

/-- com/example/typelith/typelith/value/DataType -/
def k6 : Class := { plain "com/example/typelith/typelith/value/DataType" (some 0) with
  accessFlags := 1537
  interfaces := #[]
  cf := some (fileOf pool6 8 #[] #[] 1537 49 #[] #[])
  fields := #[]
  methods := #[]
  instanceTypes := #[]
  staticTypes := #[]
  resolved := Array.replicate 84 none
  statics := none }

def pool7 : Array CpInfo := pool [(1, .class_ 2), (0, u "com/example/typelith/typelith/value/BuiltInType"), (0, .fieldref 1 4), (0, .nameAndType 5 6), (0, u "NUMBER"), (0, u "Lcom/example/typelith/typelith/value/BuiltInType;"), (0, .fieldref 1 8), (0, .nameAndType 9 6), (0, u "INTEGER"), (2, u "DATE"), (2, u "BOOLEAN"), (2, u "NULL"), (2, u "$VALUES"), (0, u "[Lcom/example/typelith/typelith/value/BuiltInType;"), (6, .class_ 31), (1, u "java/lang/Enum"), (8, u "isNumeric"), (0, u "()Z"), (1, .class_ 44), (0, u "com/example/typelith/typelith/value/DataType")] 37

def k7c0 : Code := { maxStack := 2, maxLocals := 1, code := prog_206_method_7_code, exceptionTable := #[], attributes := #[] }
def k7m0 : Method := { name := "isNumeric", desc := "()Z", sig := { parameters := [], returnType := some .boolean }, accessFlags := 1, code := some k7c0 }
/-- com/example/typelith/typelith/value/BuiltInType -/
def k7 : Class := { plain "com/example/typelith/typelith/value/BuiltInType" (some 5) with
  accessFlags := 16433
  interfaces := #[6]
  cf := some (fileOf pool7 1 #[] #[{ accessFlags := 1, nameIndex := 40, descriptorIndex := 41, attributes := #[] }] 16433 29 #[43] #[{ accessFlags := 16409, nameIndex := 5, descriptorIndex := 6, attributes := #[] }, { accessFlags := 16409, nameIndex := 9, descriptorIndex := 6, attributes := #[] }, { accessFlags := 16409, nameIndex := 12, descriptorIndex := 6, attributes := #[] }, { accessFlags := 16409, nameIndex := 15, descriptorIndex := 6, attributes := #[] }, { accessFlags := 16409, nameIndex := 18, descriptorIndex := 6, attributes := #[] }, { accessFlags := 4122, nameIndex := 21, descriptorIndex := 22, attributes := #[] }])
  fields := #[{ name := "NUMBER", type := (.object "com/example/typelith/typelith/value/BuiltInType"), accessFlags := 16409, slot := 0, constantValue := 0 }, { name := "INTEGER", type := (.object "com/example/typelith/typelith/value/BuiltInType"), accessFlags := 16409, slot := 1, constantValue := 0 }, { name := "DATE", type := (.object "com/example/typelith/typelith/value/BuiltInType"), accessFlags := 16409, slot := 2, constantValue := 0 }, { name := "BOOLEAN", type := (.object "com/example/typelith/typelith/value/BuiltInType"), accessFlags := 16409, slot := 3, constantValue := 0 }, { name := "NULL", type := (.object "com/example/typelith/typelith/value/BuiltInType"), accessFlags := 16409, slot := 4, constantValue := 0 }, { name := "$VALUES", type := (.array (.object "com/example/typelith/typelith/value/BuiltInType")), accessFlags := 4122, slot := 5, constantValue := 0 }]
  methods := #[k7m0]
  instanceTypes := #[(.object "java/lang/String"), .int, .int]
  staticTypes := #[(.object "com/example/typelith/typelith/value/BuiltInType"), (.object "com/example/typelith/typelith/value/BuiltInType"), (.object "com/example/typelith/typelith/value/BuiltInType"), (.object "com/example/typelith/typelith/value/BuiltInType"), (.object "com/example/typelith/typelith/value/BuiltInType"), (.array (.object "com/example/typelith/typelith/value/BuiltInType"))]
  resolved := Array.replicate 82 none
  statics := some 0 }

def pool8 : Array CpInfo := pool [(1, u "java/lang/Cloneable"), (0, .class_ 1), (0, u "java/lang/Object"), (0, .class_ 3)] 3

/-- java/lang/Cloneable -/
def k8 : Class := { plain "java/lang/Cloneable" (some 0) with
  accessFlags := 1537
  interfaces := #[]
  cf := some (fileOf pool8 2 #[] #[] 1537 4 #[] #[])
  fields := #[]
  methods := #[]
  instanceTypes := #[]
  staticTypes := #[]
  resolved := Array.replicate 8 none
  statics := none }

/-- the primitive byte -/
def k9 : Class := { plain "byte" none with kind := .primitive 'B', accessFlags := 0x411 }
/-- [B -/
def k10 : Class := { plain "[B" (some 0) with kind := .array 9 .byte, interfaces := #[8, 4], accessFlags := 1041 }

/-- the primitive int -/
def k11 : Class := { plain "int" none with kind := .primitive 'I', accessFlags := 0x411 }
/-- [I -/
def k12 : Class := { plain "[I" (some 0) with kind := .array 11 .int, interfaces := #[8, 4], accessFlags := 1041 }

def heap : Heap := #[{ cls := 7, slots := #[.ref 1, .ref 2, .ref 3, .ref 4, .ref 5, .null], vm := .statics 7 },
  { cls := 7, slots := #[.null, .int 0, .int 0], vm := .none },
  { cls := 7, slots := #[.null, .int 1, .int 0], vm := .none },
  { cls := 7, slots := #[.null, .int 2, .int 0], vm := .none },
  { cls := 7, slots := #[.null, .int 3, .int 0], vm := .none },
  { cls := 7, slots := #[.null, .int 4, .int 0], vm := .none }]
def classes : Array Class := #[k0, k1, k2, k3, k4, k5, k6, k7, k8, k9, k10, k11, k12]
def interned : List (Array UInt16 × Addr) := []
def slotsUsed : Nat := 21
def theMethod : MethodId := ⟨1, 3⟩
def args0 : Array Value := #[.int 5]
def aboutOver (below : List Frame) : State where
  vm := { classes := classes, interned := interned.toArray }
  heap := heap
  slotsUsed := slotsUsed
  threads := #[{ frames := .invoking theMethod args0 :: below }]
def below0 : List Frame := [.native { method := ⟨0, 0⟩, args := #[] }]
def about1 : State := aboutOver below0
def p0 : Program := .bare "" "" ""
def e0 : Env := launch0.env 0 0 0
theorem w_frames : about1.frames = Frame.invoking theMethod args0 :: below0 := rfl
set_option maxRecDepth 65536 in
theorem w_args : argsFit about1.vm theMethod args0 = true := by decide +kernel
set_option maxRecDepth 65536 in
theorem w_heap : heapFits about1 = true := by decide +kernel
set_option maxRecDepth 65536 in
theorem w_runnable : about1.curStatus? = some .runnable := by decide +kernel
set_option maxRecDepth 65536 in
theorem w_alone : about1.alone = true := by decide +kernel
set_option maxRecDepth 65536 in
theorem w_named : about1.methodNamed? x = some theMethod := by decide +kernel
set_option maxRecDepth 65536 in
theorem w_hears : about1.hears theMethod below0 = true := by decide +kernel
set_option maxRecDepth 65536 in
theorem w_ripe : about1.ripe theMethod args0 below0 = true := by decide +kernel
theorem w_running : about1.status = .running := rfl
set_option maxRecDepth 65536 in
theorem w_room : about1.hasRoom e0.platform room_1 = true :=
  launch0.hasRoom_least _ room_1 (by decide +kernel) (by decide +kernel) (by decide +kernel) (by decide +kernel) (by decide +kernel) (by decide +kernel)
theorem allAtoms_all (ts : List Jvm.Cond) (a : Array Jvm.Value) (st : Jvm.State) : (allAtoms ts).before a st = ts.all (fun c => c.before a st) := by
  induction ts with
  | nil => rfl
  | cons c t ih =>
    show (Jvm.Cond.and c (allAtoms t)).before a st = _
    rw [Jvm.Cond.before_and, ih, List.all_cons]
def words1 : List Jvm.Cond := Jvm.Cond.code x code maxLocals ret :: tables_1
/-- a 'code' word, met by the world's own term for the bytes: nothing is compared byte by byte -/
theorem code_word {y : MethodName} {bytes : ByteArray} {mx : Nat} {rt : Option FieldType} {a : Array Value} {s : State} {m : MethodId} {meth : Method} {c : Code} (h1 : s.methodNamed? y = some m) (h2 : s.vm.method? m = some meth) (h3 : meth.code = some c) (h4 : c.code = bytes)
    (h5 : (c.maxLocals == mx && c.exceptionTable.isEmpty && decide (c.maxStack ≤ mostOperands) && decide (meth.sig.returnType = rt) && !meth.locks && decide (parseMethodDescriptor y.desc = some meth.sig)) = true) : (Jvm.Cond.code y bytes mx rt).before a s = true := by
  simp only [Bool.and_eq_true, beq_iff_eq, Bool.not_eq_true', decide_eq_true_eq] at h5
  obtain ⟨⟨⟨⟨⟨g1, g2⟩, g3⟩, g4⟩, g5⟩, g6⟩ := h5
  simp [Cond.before, Cond.holds, Cond.value, h1, h2, h3, h4, g1, g2, g3, g4, g5, g6]
def isCode : Jvm.Cond → Bool
  | .code _ _ _ _ => true
  | _ => false
theorem all_split {L : List Jvm.Cond} {P : Jvm.Cond → Bool} (h1 : L.all (fun c => isCode c || P c) = true) (h2 : ∀ c ∈ L.filter isCode, P c = true) : L.all P = true := by
  refine List.all_eq_true.mpr fun c hc => ?_
  have h := List.all_eq_true.mp h1 c hc
  rcases Bool.eq_false_or_eq_true (isCode c) with hi | hi
  · exact h2 c (List.mem_filter.mpr ⟨hc, hi⟩)
  · simpa [hi] using h
set_option maxRecDepth 65536 in
theorem w_c0 : (Jvm.Cond.code x code maxLocals ret).before args0 about1 = true := code_word (m := ⟨1, 3⟩) (meth := k1m3) (c := k1c3) (by decide +kernel) rfl rfl rfl (by decide +kernel)
set_option maxRecDepth 65536 in
theorem w_c1 : (Jvm.Cond.code ({ cls := "com/example/typelith/typelith/value/BuiltInTypeIsNumericPinLaw", name := "pick", desc := "(I)Lcom/example/typelith/typelith/value/BuiltInType;" } : Jvm.MethodName) method_2_code (1 : Nat) (Option.some (Jvm.ClassFile.FieldType.object "com/example/typelith/typelith/value/BuiltInType"))).before args0 about1 = true := code_word (m := ⟨1, 1⟩) (meth := k1m1) (c := k1c1) (by decide +kernel) rfl rfl rfl (by decide +kernel)
set_option maxRecDepth 65536 in
theorem w_c2 : (Jvm.Cond.code ({ cls := "com/example/typelith/typelith/value/BuiltInType", name := "isNumeric", desc := "()Z" } : Jvm.MethodName) prog_206_method_7_code (1 : Nat) (Option.some Jvm.ClassFile.FieldType.boolean)).before args0 about1 = true := code_word (m := ⟨7, 0⟩) (meth := k7m0) (c := k7c0) (by decide +kernel) rfl rfl rfl (by decide +kernel)
set_option maxRecDepth 65536 in
theorem w_c3 : (Jvm.Cond.code ({ cls := "com/example/typelith/typelith/value/BuiltInTypeIsNumericPinLaw", name := "expected", desc := "(I)Z" } : Jvm.MethodName) method_3_code (1 : Nat) (Option.some Jvm.ClassFile.FieldType.boolean)).before args0 about1 = true := code_word (m := ⟨1, 2⟩) (meth := k1m2) (c := k1c2) (by decide +kernel) rfl rfl rfl (by decide +kernel)
def codes1 : List Jvm.Cond := [Jvm.Cond.code x code maxLocals ret, Jvm.Cond.code ({ cls := "com/example/typelith/typelith/value/BuiltInTypeIsNumericPinLaw", name := "pick", desc := "(I)Lcom/example/typelith/typelith/value/BuiltInType;" } : Jvm.MethodName) method_2_code (1 : Nat) (Option.some (Jvm.ClassFile.FieldType.object "com/example/typelith/typelith/value/BuiltInType")), Jvm.Cond.code ({ cls := "com/example/typelith/typelith/value/BuiltInType", name := "isNumeric", desc := "()Z" } : Jvm.MethodName) prog_206_method_7_code (1 : Nat) (Option.some Jvm.ClassFile.FieldType.boolean), Jvm.Cond.code ({ cls := "com/example/typelith/typelith/value/BuiltInTypeIsNumericPinLaw", name := "expected", desc := "(I)Z" } : Jvm.MethodName) method_3_code (1 : Nat) (Option.some Jvm.ClassFile.FieldType.boolean)]
set_option maxRecDepth 65536 in
theorem codes_eq : words1.filter isCode = codes1 := rfl
theorem w_codes : ∀ c ∈ words1.filter isCode, c.before args0 about1 = true := by
  rw [codes_eq]
  intro c hc
  simp only [codes1, List.mem_cons, List.not_mem_nil, or_false] at hc
  rcases hc with rfl | rfl | rfl | rfl
  · exact w_c0
  · exact w_c1
  · exact w_c2
  · exact w_c3
set_option maxRecDepth 65536 in
theorem w_t1 : (words1.take 24).all (fun c => isCode c || c.before args0 about1) = true := by decide +kernel
set_option maxRecDepth 65536 in
theorem w_t2 : (words1.drop 24).all (fun c => isCode c || c.before args0 about1) = true := by decide +kernel
theorem w_tables : (allAtoms (Jvm.Cond.code x code maxLocals ret :: tables_1)).before args0 about1 = true := by
  rw [allAtoms_all]
  show words1.all (fun c => c.before args0 about1) = true
  refine all_split ?_ w_codes
  rw [← List.take_append_drop 24 words1, List.all_append, w_t1, w_t2]
  rfl
set_option maxRecDepth 65536 in
theorem w_case : (Jvm.Cond.and given_1 narrow_1).before args0 about1 = true := by decide +kernel
theorem w_applies : (headSpec (Jvm.Cond.code x code maxLocals ret :: tables_1) room_1).applies x e0.platform about1 = true :=
  (Spec.applies_iff w_frames).mpr ⟨w_running, w_runnable, w_alone, w_named, w_hears, w_ripe, w_room, w_tables⟩
theorem atStart : AtStart classFile x code maxLocals ret World_1 tables_1 room_1 Calls_1 rest_1 Pre_1 launch0 p0 e0 about1 theMethod args0 below0 :=
  ⟨lists_1, trivial, launch0.admits_env _ _ _, launch0.least_env, fairChoices_fair.cas, fairChoices_fair.clock, w_frames, w_args, w_heap, w_applies, trivial, trivial, w_case⟩
end start1
theorem witness_1 : WitnessClaimed_1 := ⟨start1.p0, start1.e0, start1.about1, start1.theMethod, start1.args0, start1.below0, start1.atStart⟩
end Jvm.Pilot.@@N@@
