import JvmDerived
import JvmDerived.Pilot.@@N@@Statement
import JvmDerived.Pilot.@@N@@Code
set_option linter.unusedVariables false
set_option linter.unusedSimpArgs false

namespace Jvm.Pilot.@@N@@
open Jvm Jvm.ClassFile Sem Op Lib Jvm.Free Jvm.Stand Jvm.LawKit Jvm.RoadKit Bundle Jvm.Pilot.@@N@@.Jvm.D
section Own
variable {p : Program} {l : Launch} {e : Env} {R : Room} {s : State} {m : MethodId} {args : Array Value} {below : List Frame} {meth : Method} {c : Code} {T T' : State} {cells slots n0 kk nn : Nat} {Z : State} {a0 : Array Value} {h h' : Heap} {Q : Option Value → Heap → Prop} {g g' : JFrame} {y : MethodName} {bytes : ByteArray} {maxL : Nat} {ret : Option FieldType}
/-- where a walk stands: its fixed facts, and the library's Stand with its written places hidden (all of them new) -/
def OAt (n0 : Nat) (Z : State) (y : MethodName) (bytes : ByteArray) (maxL : Nat) (ret : Option FieldType) (p : Program) (l : Launch) (e : Env) (R : Room) (s : State) (m : MethodId) (args : Array Value) (below : List Frame) (meth : Method) (c : Code) (T : State) (h : Heap) (cells slots : Nat) : Prop :=
  (p.tables.exec = Jvm.exec ∧ Z.Warmed39 s.vm ∧ s.vm.findClass y.cls = some m.cls ∧ meth.name = y.name ∧ c.code = bytes ∧ c.maxLocals = maxL ∧ meth.sig.returnType = ret ∧ meth.locks = false) ∧
    ∃ locs, Stand p l e R s m args below meth c T locs cells slots ∧ Fr n0 locs ∧ T.heap = h
/-- the run from here ends, returns, and Q holds of what it returns and of the heap -/
def OFin (n0 : Nat) (p : Program) (e : Env) (s : State) (below : List Frame) (Q : Option Value → Heap → Prop) (kk nn : Nat) (T : State) (g : JFrame) : Prop :=
  ∃ s₂ o, Steps p.tables e below (T.setTop g) s₂ ∧ s₂.status = .running ∧ Ended s₂ below o ∧ ∃ v L, o = .returned v ∧ (Q v s₂.heap ∧ Fr n0 L) ∧ FrameEnd s o s₂ L kk nn
abbrev OMeets (l : Launch) (Z : State) (y : MethodName) (ws : List Jvm.Cond) (bytes : ByteArray) (maxL : Nat) (ret : Option FieldType) (rm : Room) (as' : Array Value) (h0 : Heap) (n0 : Nat) (Q : Option Value → Heap → Prop) : Prop :=
  MetFree l y (head1 (Jvm.Cond.code y bytes maxL ret :: ws) rm) (fun a U => a = as' ∧ Z.Warmed39 U.vm ∧ U.heap = h0) (fun _ _ _ _ _ => True) (fun _ U o U' => ∃ v L, o = .returned v ∧ (Q v U'.heap ∧ Fr n0 L) ∧ FrameEnd U o U' L rm.cells rm.slots)
theorem o_enter {ws : List Jvm.Cond} {rm : Room} {as' : Array Value} {h0 : Heap} (pn : plainFor y = true)
    (body : ∀ (p : Program) (e : Env) (s : State) (m : MethodId) (below : List Frame) (meth : Method) (c : Code) (s₁ : State), OAt n0 Z y bytes maxL ret p l e rm s m as' below meth c s₁ h0 0 0 → OFin n0 p e s below Q rm.cells rm.slots s₁ (entryFrame m as' maxL)) :
    OMeets l Z y ws bytes maxL ret rm as' h0 n0 Q := by
  refine MetFree.of_bodySF pn hisR ?_
  intro p e s m args below meth c s₁ Bd hml0 hP hK
  obtain ⟨rfl, hZ, hh⟩ := hP
  have e0 : s₁.heap = h0 := by rw [← hh, Bd.state]; rfl
  exact body p e s m below meth c s₁ ⟨⟨Bd.exec, hZ, findClass_of_methodNamed Bd.named, (name_of_methodNamed Bd.named Bd.method).1, Bd.bytes, hml0, Bd.returns, Bd.notSynchronized⟩, [], Stand.of_body Bd, Fr.nil n0, e0⟩
theorem OFin.cast (q : g = g') (k : OFin n0 p e s below Q kk nn T g') : OFin n0 p e s below Q kk nn T g := q ▸ k
theorem OFin.run (f : ∀ t, Steps p.tables e below (T'.setTop g') t → Steps p.tables e below (T.setTop g) t) (k : OFin n0 p e s below Q kk nn T' g') : OFin n0 p e s below Q kk nn T g := by
  obtain ⟨s₂, o, h1, h2⟩ := k; exact ⟨s₂, o, f _ h1, h2⟩
theorem OFin.imp {Q' : Option Value → Heap → Prop} (k : OFin n0 p e s below Q' kk nn T g) (f : ∀ v h, Q' v h → Q v h) : OFin n0 p e s below Q kk nn T g := by
  obtain ⟨s₂, o, h1, h2, h3, v, L, h4, h5, h6⟩ := k; exact ⟨s₂, o, h1, h2, h3, v, L, h4, ⟨f _ _ h5.1, h5.2⟩, h6⟩
/-- a step of the single-step laws -/
theorem OAt.step (X : OAt n0 Z y bytes maxL ret p l e R s m args below meth c T h cells slots) (f : At T m c below → p.tables.exec = Jvm.exec → c.code = bytes → ∀ t, Steps p.tables e below (T.setTop g') t → Steps p.tables e below (T.setTop g) t) (k : OFin n0 p e s below Q kk nn T g') : OFin n0 p e s below Q kk nn T g := by
  obtain ⟨⟨hx, -, -, -, hby, -⟩, locs, X, -⟩ := X
  exact OFin.run (f X.here hx hby) k
theorem OAt.retN (X : OAt n0 Z y bytes maxL (some t) p l e R s m args below meth c T h cells slots) (ht : t = .boolean ∨ t = .byte ∨ t = .char ∨ t = .short) {pc : Nat} {Ls : Array Slot} {z : Int32} {rest : List Value} (hd : decode bytes pc = .ok (.ireturn, 1)) (hc : cells ≤ kk) (hn : slots ≤ nn) (hQ : Q (some (.int (nar t z))) h) : OFin n0 p e s below Q kk nn T (mkF m pc Ls (.int z :: rest)) := by
  obtain ⟨⟨hx, -, -, -, hby, -, hret, hlk⟩, locs, X, N, eh⟩ := X
  obtain ⟨fs, hr, hrun, hended, hW, hsame⟩ := X.leave (v := some (.int (nar t z))) (fun h => by rw [hret] at h; cases h) hlk
  exact ⟨_, _, Jvm.RoadKit.retN X hx hret ht (hb hby hd) hr, hrun, hended, _, _, rfl, ⟨by show Q _ T.heap; rw [eh]; exact hQ, N⟩, ⟨_, rfl⟩, hW, hsame.mono hc hn⟩
theorem OAt.retI (X : OAt n0 Z y bytes maxL (some .int) p l e R s m args below meth c T h cells slots) {pc : Nat} {Ls : Array Slot} {z : Int32} {rest : List Value} (hd : decode bytes pc = .ok (.ireturn, 1)) (hc : cells ≤ kk) (hn : slots ≤ nn) (hQ : Q (some (.int z)) h) : OFin n0 p e s below Q kk nn T (mkF m pc Ls (.int z :: rest)) := by
  obtain ⟨⟨hx, -, -, -, hby, -, hret, hlk⟩, locs, X, N, eh⟩ := X
  obtain ⟨fs, hr, hrun, hended, hW, hsame⟩ := X.leave (v := some (.int z)) (fun h => by rw [hret] at h; cases h) hlk
  exact ⟨_, _, retOut X hx hret rfl (Or.inl ⟨rfl, Or.inl rfl, _, rfl⟩) (hb hby hd) hr, hrun, hended, _, _, rfl, ⟨by show Q _ T.heap; rw [eh]; exact hQ, N⟩, ⟨_, rfl⟩, hW, hsame.mono hc hn⟩
theorem OAt.retL (X : OAt n0 Z y bytes maxL (some .long) p l e R s m args below meth c T h cells slots) {pc : Nat} {Ls : Array Slot} {z : Int64} {rest : List Value} (hd : decode bytes pc = .ok (.lreturn, 1)) (hc : cells ≤ kk) (hn : slots ≤ nn) (hQ : Q (some (.long z)) h) : OFin n0 p e s below Q kk nn T (mkF m pc Ls (.long z :: rest)) := by
  obtain ⟨⟨hx, -, -, -, hby, -, hret, hlk⟩, locs, X, N, eh⟩ := X
  obtain ⟨fs, hr, hrun, hended, hW, hsame⟩ := X.leave (v := some (.long z)) (fun h => by rw [hret] at h; cases h) hlk
  exact ⟨_, _, retOut X hx hret rfl (Or.inr (Or.inl ⟨rfl, rfl, _, rfl⟩)) (hb hby hd) hr, hrun, hended, _, _, rfl, ⟨by show Q _ T.heap; rw [eh]; exact hQ, N⟩, ⟨_, rfl⟩, hW, hsame.mono hc hn⟩
theorem OAt.retR (X : OAt n0 Z y bytes maxL (some t) p l e R s m args below meth c T h cells slots) (ht : t.isReference = true) {pc : Nat} {Ls : Array Slot} {w : Value} {rest : List Value} (hw : w.isRef = true) (hd : decode bytes pc = .ok (.areturn, 1)) (hc : cells ≤ kk) (hn : slots ≤ nn) (hQ : Q (some w) h) : OFin n0 p e s below Q kk nn T (mkF m pc Ls (w :: rest)) := by
  obtain ⟨⟨hx, -, -, -, hby, -, hret, hlk⟩, locs, X, N, eh⟩ := X
  have hna : narrow t w = w := by rcases ref_cases hw with rfl | ⟨a, rfl⟩ <;> cases t <;> first | rfl | cases ht
  obtain ⟨fs, hr, hrun, hended, hW, hsame⟩ := X.leave (v := some w) (fun h => by rw [hret] at h; cases h) hlk
  exact ⟨_, _, retOut X hx hret hna (Or.inr (Or.inr (Or.inr (Or.inr ⟨rfl, ht, hw⟩)))) (hb hby hd) hr, hrun, hended, _, _, rfl, ⟨by show Q _ T.heap; rw [eh]; exact hQ, N⟩, ⟨_, rfl⟩, hW, hsame.mono hc hn⟩
theorem OAt.retV (X : OAt n0 Z y bytes maxL none p l e R s m args below meth c T h cells slots) {pc : Nat} {Ls : Array Slot} (hd : decode bytes pc = .ok (.return_, 1)) (hc : cells ≤ kk) (hn : slots ≤ nn) (hQ : Q none h) : OFin n0 p e s below Q kk nn T (mkF m pc Ls []) := by
  obtain ⟨⟨hx, -, -, -, hby, -, hret, hlk⟩, locs, X, N, eh⟩ := X
  obtain ⟨fs, hr, hrun, hended, hW, hsame⟩ := X.leave (v := none) (fun _ => rfl) hlk
  exact ⟨_, _, X.returnOut hx hret (hb hby hd) hr, hrun, hended, _, _, rfl, ⟨by show Q _ T.heap; rw [eh]; exact hQ, N⟩, ⟨_, rfl⟩, hW, hsame.mono hc hn⟩
theorem OAt.ldcI (X : OAt n0 Z y bytes maxL ret p l e R s m args below meth c T h cells slots) {index : Nat} {v : Int32} (w : (Jvm.Cond.constant y.cls index v).before a0 Z = true) (hg : g.method = m) (hd : decode bytes g.pc = .ok (.ldc index, 2))
    (k : OFin n0 p e s below Q kk nn T { g with pc := g.pc + 2, stack := .int v :: g.stack }) : OFin n0 p e s below Q kk nn T g := by
  obtain ⟨⟨hx, hZ, hown, -, hby, -⟩, locs, X, -⟩ := X
  exact OFin.run (X.ldcInt hx hown (mvT hZ w) hg (hb hby hd)) k
theorem OAt.ldcwI (X : OAt n0 Z y bytes maxL ret p l e R s m args below meth c T h cells slots) {index : Nat} {v : Int32} (w : (Jvm.Cond.constant y.cls index v).before a0 Z = true) (hg : g.method = m) (hd : decode bytes g.pc = .ok (.ldc_w index, 3))
    (k : OFin n0 p e s below Q kk nn T { g with pc := g.pc + 3, stack := .int v :: g.stack }) : OFin n0 p e s below Q kk nn T g := by
  obtain ⟨⟨hx, hZ, hown, -, hby, -⟩, locs, X, -⟩ := X
  exact OFin.run (X.ldcwInt hx hown (mvT hZ w) hg (hb hby hd)) k
theorem OAt.ldcL (X : OAt n0 Z y bytes maxL ret p l e R s m args below meth c T h cells slots) {index : Nat} {v : Int64} (w : (Jvm.Cond.constantLong y.cls index v).before a0 Z = true) (hg : g.method = m) (hd : decode bytes g.pc = .ok (.ldc2_w index, 3))
    (k : OFin n0 p e s below Q kk nn T { g with pc := g.pc + 3, stack := .long v :: g.stack }) : OFin n0 p e s below Q kk nn T g := by
  obtain ⟨⟨hx, hZ, hown, -, hby, -⟩, locs, X, -⟩ := X
  exact OFin.run (X.ldc2Long hx hown (mvT hZ w) hg (hb hby hd)) k
theorem OAt.getF (X : OAt n0 Z y bytes maxL ret p l e R s m args below meth c T h cells slots) {O n d : String} {index : Nat} (w : (Jvm.Cond.fieldLink y.cls index O n d).before a0 Z = true) {a : Addr} {v : Value} (F : Fld Z h a O n d v) (hg : g.method = m) {rest : List Value} (hs : g.stack = .ref a :: rest) (hd : decode bytes g.pc = .ok (.getfield index, 3))
    (k : ∀ T', OAt n0 Z y bytes maxL ret p l e R s m args below meth c T' h cells slots → OFin n0 p e s below Q kk nn T' { g with pc := g.pc + 3, stack := v :: rest }) : OFin n0 p e s below Q kk nn T g := by
  obtain ⟨C, locs, X, N, eh⟩ := X
  obtain ⟨hx, hZ, hown, -, hby, -⟩ := id C
  obtain ⟨T', X', e', st⟩ := Jvm.RoadKit.getF X hx hZ hown (host := "") (Or.inl w) Via.refl eh F hg hs (hb hby hd)
  exact OFin.run st (k T' ⟨C, locs, X', N, e'⟩)
theorem OAt.getS (X : OAt n0 Z y bytes maxL ret p l e R s m args below meth c T h cells slots) {O n d : String} {index : Nat} (w : (Jvm.Cond.fieldLink y.cls index O n d).before a0 Z = true) {v : Value} (F : Sta Z h O n d v) (hg : g.method = m) (hd : decode bytes g.pc = .ok (.getstatic index, 3))
    (k : ∀ T', OAt n0 Z y bytes maxL ret p l e R s m args below meth c T' h cells slots → OFin n0 p e s below Q kk nn T' { g with pc := g.pc + 3, stack := v :: g.stack }) : OFin n0 p e s below Q kk nn T g := by
  obtain ⟨C, locs, X, N, eh⟩ := X
  obtain ⟨hx, hZ, hown, -, hby, -⟩ := id C
  obtain ⟨T', X', e', st⟩ := Jvm.RoadKit.getS X hx hZ hown w Via.refl eh F hg (hb hby hd) (host := "")
  exact OFin.run st (k T' ⟨C, locs, X', N, e'⟩)
theorem OAt.putF (X : OAt n0 Z y bytes maxL ret p l e R s m args below meth c T h cells slots) {O n d C : String} {index ki : Nat} {ty : FieldType} (w : (Jvm.Cond.fieldLink y.cls index O n d).before a0 Z = true) {a : Addr} {v old : Value} (F : Fld Z h a O n d old) (E : Exa Z h a C) (L : (Jvm.Cond.lays C O n d).before a0 Z = true ∨ ((Jvm.Cond.laysFinal C O n d).before a0 Z = true ∧ y.cls = O ∧ y.name = "<init>"))
    (wi : (Jvm.Cond.instantiable C ki).before a0 Z = true) (hty : parseFieldDescriptor d = some ty) (hn : narrow ty v = v) (hf : fits ty v = true) (hnew : n0 ≤ a) (hg : g.method = m) {rest : List Value} (hs : g.stack = v :: .ref a :: rest) (hd : decode bytes g.pc = .ok (.putfield index, 3))
    (k : ∀ T' h', OAt n0 Z y bytes maxL ret p l e R s m args below meth c T' h' cells slots → Wr h h' a (Jvm.RoadKit.slotOf Z O n d) v → OFin n0 p e s below Q kk nn T' { g with pc := g.pc + 3, stack := rest }) : OFin n0 p e s below Q kk nn T g := by
  obtain ⟨C, locs, X, N, eh⟩ := X
  obtain ⟨hx, hZ, hown, hnm, hby, -⟩ := id C
  obtain ⟨T', h', X', e', W, st⟩ := Jvm.RoadKit.putF X hx hZ hown (host := "") (Or.inl w) Via.refl eh F E (L.imp id fun q => ⟨q.1, q.2.1, hnm.trans q.2.2⟩) wi hty hn hf hg hs (hb hby hd)
  exact OFin.run st (k T' h' ⟨C, _, X', Fr.snoc X' N hnew, e'⟩ W)
theorem OAt.initO (X : OAt n0 Z y bytes maxL ret p l e R s m args below meth c T h cells slots) {idx : Nat} (w1 : (Jvm.Cond.methodLink y.cls idx Lib.objectInit).before a0 Z = true) (w2 : (Jvm.Cond.instanceMethod Lib.objectInit).before a0 Z = true) (w3 : (Jvm.Cond.code Lib.objectInit ⟨#[0xb1]⟩ 1 none).before a0 Z = true) (hg : g.method = m) (hsize : g.locals.size = maxL) {a : Addr} {rest : List Value} (hs : g.stack = .ref a :: rest) (hd : decode bytes g.pc = .ok (.invokespecial idx, 3))
    (hf : 1 ≤ R.frames) {W : Nat} (hW : 2 * g.monitorRoom + (rest.map fun v => v.category).sum ≤ W) (hl : W + 12 ≤ R.locals)
    (k : ∀ T', OAt n0 Z y bytes maxL ret p l e R s m args below meth c T' h cells slots → OFin n0 p e s below Q kk nn T' { g with pc := g.pc + 3, stack := rest }) : OFin n0 p e s below Q kk nn T g := by
  obtain ⟨C, locs, X, N, eh⟩ := X
  obtain ⟨hx, hZ, hown, -, hby, hml, -⟩ := id C
  obtain ⟨T', X', e', st⟩ := Jvm.RoadKit.initO X hx hZ hown w1 w2 w3 eh hg (hsize.trans hml.symm) hs (hb hby hd) hf hW hl
  exact OFin.run st (k T' ⟨C, locs, X', N, e'⟩)
theorem OAt.newO (X : OAt n0 Z y bytes maxL ret p l e R s m args below meth c T h cells slots) {C : String} {index n : Nat} (w : (Jvm.Cond.classLink y.cls index C).before a0 Z = true) (wi : (Jvm.Cond.instantiable C n).before a0 Z = true) (wz : (Jvm.Cond.initialized C).before a0 Z = true) (hg : g.method = m) (hd : decode bytes g.pc = .ok (.new index, 3)) (hc : cells + 1 ≤ R.cells) (hl : slots + n ≤ R.slots)
    (k : ∀ T' h' a, a = h.size → OAt n0 Z y bytes maxL ret p l e R s m args below meth c T' h' (cells + 1) (slots + n) → Ext h h' → Exa Z h' a C → (∀ {O nm d : String} {ty : FieldType}, Laid Z a0 C O nm d → parseFieldDescriptor d = some ty → Fld Z h' a O nm d (defaultValue ty)) → OFin n0 p e s below Q kk nn T' { g with pc := g.pc + 3, stack := .ref a :: g.stack }) : OFin n0 p e s below Q kk nn T g := by
  obtain ⟨C', locs, X, N, eh⟩ := X
  obtain ⟨hx, hZ, hown, -, hby, -⟩ := id C'
  obtain ⟨T', h', X', e', E, A, D, -, st⟩ := Jvm.RoadKit.newO X hx hZ hown w wi wz eh hg (hb hby hd) hc hl
  exact OFin.run st (k T' h' _ rfl ⟨C', locs, X', N, e'⟩ E A D)
theorem OAt.newP (X : OAt n0 Z y bytes maxL ret p l e R s m args below meth c T h cells slots) {aty : ArrayType} (w : (Jvm.Cond.arrayClass (newarray.typeOf aty)).before a0 Z = true) (hg : g.method = m) (hd : decode bytes g.pc = .ok (.newarray aty, 2)) {n : Int32} {rest : List Value} (hs : g.stack = .int n :: rest) (hn : ¬ n < 0) {cap : Nat} (hcap : n.toNatClampNeg ≤ cap) (hb8 : cap * 8 ≤ 536870912) (hc : cells + 1 ≤ R.cells) (hl : slots + cap ≤ R.slots) {ad : String} (had : "[" ++ (newarray.typeOf aty).toString = ad)
    (k : ∀ T' h' cA a, a = h.size → OAt n0 Z y bytes maxL ret p l e R s m args below meth c T' h' (cells + 1) (slots + cap) → Ext h h' → Arr Z h' a (newA cA (newarray.typeOf aty) n) (newarray.typeOf aty) → Exa Z h' a ad → OFin n0 p e s below Q kk nn T' { g with pc := g.pc + 2, stack := .ref a :: rest }) : OFin n0 p e s below Q kk nn T g := by
  obtain ⟨C', locs, X, N, eh⟩ := X
  obtain ⟨hx, hZ, hown, -, hby, -⟩ := id C'
  obtain ⟨T', h', cA, X', e', E, A, A', st⟩ := newPE X hx hZ w eh hg (hb hby hd) hs hn hcap hb8 hc hl had
  exact OFin.run st (k T' h' cA _ rfl ⟨C', locs, X', N, e'⟩ E A A')
theorem OAt.newRA (X : OAt n0 Z y bytes maxL ret p l e R s m args below meth c T h cells slots) {C : String} {ty : FieldType} {index : Nat} (hC : (FieldType.array ty).toString = C) (w1 : (Jvm.Cond.classLink y.cls index C).before a0 Z = true) (w2 : (Jvm.Cond.arrayOver (.array ty)).before a0 Z = true) (hg : g.method = m) (hd : decode bytes g.pc = .ok (.anewarray index, 3)) {n : Int32} {rest : List Value} (hs : g.stack = .int n :: rest) (hn : ¬ n < 0) {cap : Nat} (hcap : n.toNatClampNeg ≤ cap) (hb8 : cap * 8 ≤ 536870912) (hc : cells + 1 ≤ R.cells) (hl : slots + cap ≤ R.slots) {ad : String} (had : "[" ++ C = ad)
    (k : ∀ T' h' cA a, a = h.size → OAt n0 Z y bytes maxL ret p l e R s m args below meth c T' h' (cells + 1) (slots + cap) → Ext h h' → Arr Z h' a (newA cA (.array ty) n) (.array ty) → Exa Z h' a ad → OvrA Z cA ty C → OFin n0 p e s below Q kk nn T' { g with pc := g.pc + 3, stack := .ref a :: rest }) : OFin n0 p e s below Q kk nn T g := by
  obtain ⟨C', locs, X, N, eh⟩ := X
  obtain ⟨hx, hZ, hown, -, hby, -⟩ := id C'
  obtain ⟨T', h', cA, X', e', E, A, A', O, st⟩ := Jvm.RoadKit.newRA X hx hZ hown hC w1 w2 eh hg (hb hby hd) hs hn hcap hb8 hc hl had
  exact OFin.run st (k T' h' cA _ rfl ⟨C', locs, X', N, e'⟩ E A A' O)
theorem OAt.clone (X : OAt n0 Z y bytes maxL ret p l e R s m args below meth c T h cells slots) {ad : String} {index : Nat} (w1 : (Jvm.Cond.methodLink y.cls index ⟨ad, "clone", "()Ljava/lang/Object;"⟩).before a0 Z = true) (w2 : (Jvm.Cond.sameMethod ad "java/lang/Object" "clone" "()Ljava/lang/Object;").before a0 Z = true) (w3 : (Jvm.Cond.native ⟨"java/lang/Object", "clone", "()Ljava/lang/Object;"⟩).before a0 Z = true)
    (w4 : (Jvm.Cond.instanceMethod ⟨"java/lang/Object", "clone", "()Ljava/lang/Object;"⟩).before a0 Z = true) (w5 : (Jvm.Cond.selects ad ⟨ad, "clone", "()Ljava/lang/Object;"⟩ ⟨"java/lang/Object", "clone", "()Ljava/lang/Object;"⟩).before a0 Z = true) (w6 : (Jvm.Cond.castable ad "java/lang/Cloneable").before a0 Z = true)
    {a : Addr} {cl : Cell} {ty : FieldType} (A : Arr Z h a cl ty) (E : Exa Z h a ad) (F : FitC Z cl) (hg : g.method = m) (hsize : g.locals.size = maxL) {rest : List Value} (hs : g.stack = .ref a :: rest) (hd : decode bytes g.pc = .ok (.invokevirtual index, 3))
    (hf : 1 ≤ R.frames) {W cap : Nat} (hW : 2 * g.monitorRoom + (rest.map fun v => v.category).sum ≤ W) (hl : W + 14 ≤ R.locals) (hcap : cl.slots.size ≤ cap) (hc : cells + 1 ≤ R.cells) (hsl : slots + cap ≤ R.slots)
    (k : ∀ T' h' b, b = h.size → OAt n0 Z y bytes maxL ret p l e R s m args below meth c T' h' (cells + 1) (slots + cap) → Ext h h' → Arr Z h' b (Jvm.RoadKit.cloneOf cl) ty → Exa Z h' b ad → OFin n0 p e s below Q kk nn T' { g with pc := g.pc + 3, stack := .ref b :: rest }) : OFin n0 p e s below Q kk nn T g := by
  obtain ⟨C', locs, X, N, eh⟩ := X
  obtain ⟨hx, hZ, hown, -, hby, hml, -⟩ := id C'
  obtain ⟨T', h', X', e', E', A', A'', st⟩ := Jvm.RoadKit.cloneA X hx hZ hown w1 w2 w3 w4 w5 w6 eh A E F hg (hsize.trans hml.symm) hs (hb hby hd) hf hW hl hcap hc hsl
  exact OFin.run st (k T' h' _ rfl ⟨C', locs, X', N, e'⟩ E' A' A'')
theorem OAt.stR (X : OAt n0 Z y bytes maxL ret p l e R s m args below meth c T h cells slots) {a : Addr} {cl : Cell} {ty : FieldType} (A : Arr Z h a cl ty) {j : Int32} {v : Value} (hin : ¬ (j < 0 ∨ cl.slots.size ≤ j.toNatClampNeg)) (hty : ty.isReference = true) (F : Sto Z h a v) (hnew : n0 ≤ a) (hg : g.method = m) {rest : List Value} (hs : g.stack = v :: .int j :: .ref a :: rest) (hd : decode bytes g.pc = .ok (.aastore, 1))
    (k : ∀ T' h', OAt n0 Z y bytes maxL ret p l e R s m args below meth c T' h' cells slots → Wr h h' a j.toNatClampNeg v → OFin n0 p e s below Q kk nn T' { g with pc := g.pc + 1, stack := rest }) : OFin n0 p e s below Q kk nn T g := by
  obtain ⟨C, locs, X, N, eh⟩ := X
  obtain ⟨hx, hZ, hown, -, hby, -⟩ := id C
  obtain ⟨T', h', X', e', W, st⟩ := Jvm.RoadKit.stR X hx hZ eh A hin hty F hg hs (hb hby hd)
  exact OFin.run st (k T' h' ⟨C, _, X', Fr.snoc X' N hnew, e'⟩ W)
theorem OAt.acmp (X : OAt n0 Z y bytes maxL ret p l e R s m args below meth c T h cells slots) (hg : g.method = m) {cd : ACond} {u v : Value} (h1 : u.isRef = true) (h2 : v.isRef = true) {rest : List Value} {o : Int} {pc0 pc' : Nat} {same : Bool} (hpc : g.pc = pc0) (hd : decode bytes g.pc = .ok (.if_acmp cd o, 3)) (hs : g.stack = v :: u :: rest) (hq : decide (u = v) = same) (ho : 0 ≤ (pc0 : Int) + o) (hp : pc' = if acV cd same = true then ((pc0 : Int) + o).toNat else pc0 + 3)
    (k : OFin n0 p e s below Q kk nn T { g with pc := pc', stack := rest }) : OFin n0 p e s below Q kk nn T g := by
  obtain ⟨⟨hx, hZ, hown, -, hby, -⟩, locs, X, -⟩ := X
  exact OFin.run (fun t kk => Jvm.RoadKit.acmp X hx hg h1 h2 hpc (hb hby hd) hs hq ho hp kk) k
theorem OAt.irem (X : OAt n0 Z y bytes maxL ret p l e R s m args below meth c T h cells slots) (hg : g.method = m) {u v : Int32} {rest : List Value} (hd : decode bytes g.pc = .ok (.irem, 1)) (hs : g.stack = .int v :: .int u :: rest) (hv : v ≠ 0)
    (k : OFin n0 p e s below Q kk nn T { g with pc := g.pc + 1, stack := .int (u % v) :: rest }) : OFin n0 p e s below Q kk nn T g := by
  obtain ⟨⟨hx, hZ, hown, -, hby, -⟩, locs, X, -⟩ := X
  exact OFin.run (fun t kk => iremM X hx hg (hb hby hd) hs hv kk) k
theorem OAt.callS (X : OAt n0 Z y bytes maxL ret p l e R s m args below meth c T h cells slots) {index : Nat} {y' : MethodName} {bytes' : ByteArray} {maxL' : Nat} {ret' : Option FieldType} (w1 : (Jvm.Cond.methodLink y.cls index y').before a0 Z = true) (w2 : (Jvm.Cond.static y').before a0 Z = true) (w3 : (Jvm.Cond.initialized y'.cls).before a0 Z = true) (w4 : (Jvm.Cond.code y' bytes' maxL' ret').before a0 Z = true)
    (hy : y'.cls ≠ "java/lang/invoke/MethodHandle" ∧ y'.cls ≠ "java/lang/invoke/VarHandle") {rm : Room} {Qc : Option Value → Heap → Prop} {argsL rest : List Value} (hM : OMeets l Z y' [] bytes' maxL' ret' rm argsL.toArray h n0 Qc)
    (hg : g.method = m) (hsize : g.locals.size = maxL) {ps : List FieldType} {r : Option FieldType} (hpd : parseMethodDescriptor y'.desc = some ⟨ps, r⟩) (hlen : argsL.length = ps.length) (hs : g.stack = argsL.reverse ++ rest) {W : Nat} (hW : 2 * g.monitorRoom + (rest.map fun v => v.category).sum ≤ W) (hd : decode bytes g.pc = .ok (.invokestatic index, 3))
    (hf : rm.frames + 1 ≤ R.frames) (hl : W + (maxL' + 11) + rm.locals ≤ R.locals) (hc : cells + rm.cells ≤ R.cells) (hn : slots + rm.slots ≤ R.slots)
    (k : ∀ v T' h', OAt n0 Z y bytes maxL ret p l e R s m args below meth c T' h' (cells + rm.cells) (slots + rm.slots) → Qc v h' → OFin n0 p e s below Q kk nn T' { g with pc := g.pc + 3, stack := v.toList ++ rest }) : OFin n0 p e s below Q kk nn T g := by
  obtain ⟨C, locs, X, N, eh⟩ := X
  obtain ⟨hx, hZ, hown, -, hby, hml, -⟩ := id C
  obtain ⟨v, _, ⟨T1, L1, k1, n1⟩, -, X1, ⟨Lc, hQ, l1, y1, z1⟩, st⟩ := Jvm.LawKit.callS X hx hown (mvT hZ w1) (mvT hZ w2) (mvT hZ w3) (mvT hZ w4) hy
    (backOf (W := W) (Q := fun v h L => Qc v h ∧ Fr n0 L) hM hZ w4 w3 hf hl) hg (hsize.trans hml.symm) (lenOf hpd hlen) hs hW (hb hby hd) (fun _ _ => ⟨rfl, eh, hc, hn⟩)
  dsimp only [Pt.U, Pt.locs, Pt.cells, Pt.slots] at X1 l1 y1 z1 st hQ
  subst l1 y1 z1
  exact OFin.run st (k v T1 _ ⟨C, _, X1, N.app hQ.2, rfl⟩ hQ.1)
theorem OAt.callI (X : OAt n0 Z y bytes maxL ret p l e R s m args below meth c T h cells slots) {index : Nat} {y' : MethodName} {bytes' : ByteArray} {maxL' : Nat} (hy1 : y'.name = "<init>") (w1 : (Jvm.Cond.methodLink y.cls index y').before a0 Z = true) (w2 : (Jvm.Cond.instanceMethod y').before a0 Z = true) (w3 : (Jvm.Cond.initialized y'.cls).before a0 Z = true) (w4 : (Jvm.Cond.code y' bytes' maxL' none).before a0 Z = true)
    (hy : y'.cls ≠ "java/lang/invoke/MethodHandle" ∧ y'.cls ≠ "java/lang/invoke/VarHandle") {rm : Room} {Qc : Option Value → Heap → Prop} {a : Addr} {argsL rest : List Value} (hM : OMeets l Z y' [] bytes' maxL' none rm (Value.ref a :: argsL).toArray h n0 Qc)
    (hg : g.method = m) (hsize : g.locals.size = maxL) {ps : List FieldType} {r : Option FieldType} (hpd : parseMethodDescriptor y'.desc = some ⟨ps, r⟩) (hlen : argsL.length = ps.length) (hs : g.stack = argsL.reverse ++ .ref a :: rest) {W : Nat} (hW : 2 * g.monitorRoom + (rest.map fun v => v.category).sum ≤ W) (hd : decode bytes g.pc = .ok (.invokespecial index, 3))
    (hf : rm.frames + 1 ≤ R.frames) (hl : W + (maxL' + 11) + rm.locals ≤ R.locals) (hc : cells + rm.cells ≤ R.cells) (hn : slots + rm.slots ≤ R.slots)
    (k : ∀ v T' h', OAt n0 Z y bytes maxL ret p l e R s m args below meth c T' h' (cells + rm.cells) (slots + rm.slots) → Qc v h' → OFin n0 p e s below Q kk nn T' { g with pc := g.pc + 3, stack := v.toList ++ rest }) : OFin n0 p e s below Q kk nn T g := by
  obtain ⟨C, locs, X, N, eh⟩ := X
  obtain ⟨hx, hZ, hown, -, hby, hml, -⟩ := id C
  obtain ⟨v, _, ⟨T1, L1, k1, n1⟩, -, X1, ⟨Lc, hQ, l1, y1, z1⟩, st⟩ := X.specialBack hx hy1 hown (mvT hZ w1) (mvT hZ w2) (mvT hZ w4) hy
    (backOf (W := W) (Q := fun v h L => Qc v h ∧ Fr n0 L) hM hZ w4 w3 hf hl) hg (hsize.trans hml.symm) (Steps.refl _) (lenOf hpd hlen) hs hW (hb hby hd) (fun _ _ => ⟨rfl, eh, hc, hn⟩)
  dsimp only [Pt.U, Pt.locs, Pt.cells, Pt.slots] at X1 l1 y1 z1 st hQ
  subst l1 y1 z1
  exact OFin.run (fun t k => st.trans k) (k v T1 _ ⟨C, _, X1, N.app hQ.2, rfl⟩ hQ.1)
theorem OAt.callV (X : OAt n0 Z y bytes maxL ret p l e R s m args below meth c T h cells slots) {index : Nat} {y' z' : MethodName} {C0 : String} {bytes' : ByteArray} {maxL' : Nat} {ret' : Option FieldType} (w1 : (Jvm.Cond.methodLink y.cls index y').before a0 Z = true) (w2 : (Jvm.Cond.declares y').before a0 Z = true) (nf : NotFace s y') (w5 : (Jvm.Cond.selects C0 y' z').before a0 Z = true) (w6 : (Jvm.Cond.instanceMethod z').before a0 Z = true) (w3 : (Jvm.Cond.initialized z'.cls).before a0 Z = true) (w4 : (Jvm.Cond.code z' bytes' maxL' ret').before a0 Z = true)
    (hy : y'.cls ≠ "java/lang/invoke/MethodHandle" ∧ y'.cls ≠ "java/lang/invoke/VarHandle") {rm : Room} {Qc : Option Value → Heap → Prop} {a : Addr} (E : Exa Z h a C0) {argsL rest : List Value} (hM : OMeets l Z z' [] bytes' maxL' ret' rm (Value.ref a :: argsL).toArray h n0 Qc)
    (hg : g.method = m) (hsize : g.locals.size = maxL) {ps : List FieldType} {r : Option FieldType} (hpd : parseMethodDescriptor y'.desc = some ⟨ps, r⟩) (hlen : argsL.length = ps.length) (hs : g.stack = argsL.reverse ++ .ref a :: rest) {W : Nat} (hW : 2 * g.monitorRoom + (rest.map fun v => v.category).sum ≤ W) (hd : decode bytes g.pc = .ok (.invokevirtual index, 3))
    (hf : rm.frames + 1 ≤ R.frames) (hl : W + (maxL' + 11) + rm.locals ≤ R.locals) (hc : cells + rm.cells ≤ R.cells) (hn : slots + rm.slots ≤ R.slots)
    (k : ∀ v T' h', OAt n0 Z y bytes maxL ret p l e R s m args below meth c T' h' (cells + rm.cells) (slots + rm.slots) → Qc v h' → OFin n0 p e s below Q kk nn T' { g with pc := g.pc + 3, stack := v.toList ++ rest }) : OFin n0 p e s below Q kk nn T g := by
  obtain ⟨C, locs, X, N, eh⟩ := X
  obtain ⟨hx, hZ, hown, -, hby, hml, -⟩ := id C
  obtain ⟨cq, kq, qa, qb, qc⟩ := isOf hZ eh E
  obtain ⟨v, _, ⟨T1, L1, k1, n1⟩, -, X1, ⟨Lc, hQ, l1, y1, z1⟩, st⟩ := X.virtualBack hx hown (mvT hZ w1) (mvT hZ w2) nf (mvT hZ w5) (mvT hZ w6) hy
    (backOf (W := W) (Q := fun v h L => Qc v h ∧ Fr n0 L) hM hZ w4 w3 hf hl) qa qc hg (hsize.trans hml.symm) (Steps.refl _) (lenOf hpd hlen) hs hW (hb hby hd) (fun _ _ => ⟨rfl, eh, hc, hn⟩)
  dsimp only [Pt.U, Pt.locs, Pt.cells, Pt.slots] at X1 l1 y1 z1 st hQ
  subst l1 y1 z1
  exact OFin.run (fun t k => st.trans k) (k v T1 _ ⟨C, _, X1, N.app hQ.2, rfl⟩ hQ.1)
theorem OAt.notFace (X : OAt n0 Z y bytes maxL ret p l e R s m args below meth c T h cells slots) {C0 : String} {y' z' : MethodName} (w : (Jvm.Cond.selects C0 y' z').before a0 Z = true) (hq : y' = z') : NotFace s y' := by
  obtain ⟨⟨hx, hZ, -⟩, -⟩ := X
  subst hq
  exact notFace_of_selects (args := #[]) (mvT hZ w)
theorem OAt.aload0 (X : OAt n0 Z y bytes maxL ret p l e R s m args below meth c T h cells slots) {a : Addr} {cl : Cell} {ty : FieldType} (A : Arr Z h a cl ty) {j : Int32} {v : Value} (hin : ¬ (j < 0 ∨ cl.slots.size ≤ j.toNatClampNeg)) (hv : cl.slots[j.toNatClampNeg]? = some v) (hg : g.method = m) {rest : List Value} (hs : g.stack = .int j :: .ref a :: rest)
    {i : Instr} (hi : (i = .iaload ∧ ty = .int) ∨ (i = .laload ∧ ty = .long) ∨ (i = .caload ∧ ty = .char) ∨ (i = .baload ∧ ty = .byte) ∨ (i = .aaload ∧ ty.isReference = true)) (hd : decode bytes g.pc = .ok (i, 1))
    (k : OFin n0 p e s below Q kk nn T { g with pc := g.pc + 1, stack := v :: rest }) : OFin n0 p e s below Q kk nn T g := by
  obtain ⟨⟨hx, hZ, hown, -, hby, -⟩, locs, X, N, eh⟩ := X
  have hA := State.isArrayOf_alike hZ.alike A.2.1
  have hc : T.heap[a]? = some cl := by rw [eh]; exact A.1
  rcases hi with ⟨rfl, rfl⟩ | ⟨rfl, rfl⟩ | ⟨rfl, rfl⟩ | ⟨rfl, rfl⟩ | ⟨rfl, ht⟩
  · exact OFin.run (X.iaload hx hc hA A.2.2 hin hv hg hs (hb hby hd)) k
  · exact OFin.run (X.laload hx hc hA A.2.2 hin hv hg hs (hb hby hd)) k
  · exact OFin.run (X.caload hx hc hA A.2.2 hin hv hg hs (hb hby hd)) k
  · exact OFin.run (X.baloadBytes hx hc hA A.2.2 hin hv hg hs (hb hby hd)) k
  · exact OFin.run (X.aaload hx hc hA ht A.2.2 hin hv hg hs (hb hby hd)) k
theorem OAt.alen (X : OAt n0 Z y bytes maxL ret p l e R s m args below meth c T h cells slots) {a : Addr} {cl : Cell} {ty : FieldType} (A : Arr Z h a cl ty) {n : Int32} (hn : cl.slots.size.toInt32 = n) (hg : g.method = m) {rest : List Value} (hs : g.stack = .ref a :: rest) (hd : decode bytes g.pc = .ok (.arraylength, 1))
    (k : OFin n0 p e s below Q kk nn T { g with pc := g.pc + 1, stack := .int n :: rest }) : OFin n0 p e s below Q kk nn T g := by
  obtain ⟨⟨hx, hZ, hown, -, hby, -⟩, locs, X, N, eh⟩ := X
  subst hn
  exact OFin.run (X.arraylength hx (by rw [eh]; exact A.1) (State.isArrayOf_alike hZ.alike A.2.1) hg hs (hb hby hd)) k
theorem OAt.stJ (X : OAt n0 Z y bytes maxL ret p l e R s m args below meth c T h cells slots) {a : Addr} {cl : Cell} (A : Arr Z h a cl .long) {j : Int32} {v : Int64} (hin : ¬ (j < 0 ∨ cl.slots.size ≤ j.toNatClampNeg)) (hnew : n0 ≤ a) (hg : g.method = m) {rest : List Value} (hs : g.stack = .long v :: .int j :: .ref a :: rest) (hd : decode bytes g.pc = .ok (.lastore, 1))
    (k : ∀ T' h', OAt n0 Z y bytes maxL ret p l e R s m args below meth c T' h' cells slots → Wr h h' a j.toNatClampNeg (.long v) → OFin n0 p e s below Q kk nn T' { g with pc := g.pc + 1, stack := rest }) : OFin n0 p e s below Q kk nn T g := by
  obtain ⟨C, locs, X, N, eh⟩ := X
  obtain ⟨hx, hZ, hown, -, hby, -⟩ := id C
  obtain ⟨T', h', X', e', W, st⟩ := Jvm.RoadKit.stJ X hx hZ eh A hin hg hs (hb hby hd)
  exact OFin.run st (k T' h' ⟨C, _, X', Fr.snoc X' N hnew, e'⟩ W)
theorem OAt.stB (X : OAt n0 Z y bytes maxL ret p l e R s m args below meth c T h cells slots) {a : Addr} {cl : Cell} (A : Arr Z h a cl .byte) {j v : Int32} (hin : ¬ (j < 0 ∨ cl.slots.size ≤ j.toNatClampNeg)) (hnew : n0 ≤ a) (hg : g.method = m) {rest : List Value} (hs : g.stack = .int v :: .int j :: .ref a :: rest) (hd : decode bytes g.pc = .ok (.bastore, 1))
    (k : ∀ T' h', OAt n0 Z y bytes maxL ret p l e R s m args below meth c T' h' cells slots → Wr h h' a j.toNatClampNeg (.int (nar .byte v)) → OFin n0 p e s below Q kk nn T' { g with pc := g.pc + 1, stack := rest }) : OFin n0 p e s below Q kk nn T g := by
  obtain ⟨C, locs, X, N, eh⟩ := X
  obtain ⟨hx, hZ, hown, -, hby, -⟩ := id C
  obtain ⟨T', h', X', e', W, st⟩ := Jvm.RoadKit.stB X hx hZ eh A hin hg hs (hb hby hd)
  exact OFin.run st (k T' h' ⟨C, _, X', Fr.snoc X' N hnew, e'⟩ W)
theorem OAt.stC (X : OAt n0 Z y bytes maxL ret p l e R s m args below meth c T h cells slots) {a : Addr} {cl : Cell} (A : Arr Z h a cl .char) {j v : Int32} (hin : ¬ (j < 0 ∨ cl.slots.size ≤ j.toNatClampNeg)) (hnew : n0 ≤ a) (hg : g.method = m) {rest : List Value} (hs : g.stack = .int v :: .int j :: .ref a :: rest) (hd : decode bytes g.pc = .ok (.castore, 1))
    (k : ∀ T' h', OAt n0 Z y bytes maxL ret p l e R s m args below meth c T' h' cells slots → Wr h h' a j.toNatClampNeg (.int (nar .char v)) → OFin n0 p e s below Q kk nn T' { g with pc := g.pc + 1, stack := rest }) : OFin n0 p e s below Q kk nn T g := by
  obtain ⟨C, locs, X, N, eh⟩ := X
  obtain ⟨hx, hZ, hown, -, hby, -⟩ := id C
  obtain ⟨T', h', X', e', W, st⟩ := Jvm.RoadKit.stC X hx hZ eh A hin hg hs (hb hby hd)
  exact OFin.run st (k T' h' ⟨C, _, X', Fr.snoc X' N hnew, e'⟩ W)
theorem OAt.instY (X : OAt n0 Z y bytes maxL ret p l e R s m args below meth c T h cells slots) {K : String} {index : Nat} (w : (Jvm.Cond.classLink y.cls index K).before a0 Z = true) {a : Addr} (F : Ins Z h a K true) (hg : g.method = m) {rest : List Value} (hs : g.stack = .ref a :: rest) (hd : decode bytes g.pc = .ok (.instanceof index, 3))
    (k : ∀ T', OAt n0 Z y bytes maxL ret p l e R s m args below meth c T' h cells slots → OFin n0 p e s below Q kk nn T' { g with pc := g.pc + 3, stack := .int 1 :: rest }) : OFin n0 p e s below Q kk nn T g := by
  obtain ⟨C, locs, X, N, eh⟩ := X
  obtain ⟨hx, hZ, hown, -, hby, -⟩ := id C
  obtain ⟨T', X', e', st⟩ := Jvm.RoadKit.instY X hx hZ hown w eh F hg hs (hb hby hd)
  exact OFin.run st (k T' ⟨C, locs, X', N, e'⟩)
theorem OAt.castY (X : OAt n0 Z y bytes maxL ret p l e R s m args below meth c T h cells slots) {K : String} {index : Nat} (w : (Jvm.Cond.classLink y.cls index K).before a0 Z = true) {a : Addr} (F : Ins Z h a K true) (hg : g.method = m) {rest : List Value} (hs : g.stack = .ref a :: rest) (hd : decode bytes g.pc = .ok (.checkcast index, 3))
    (k : ∀ T', OAt n0 Z y bytes maxL ret p l e R s m args below meth c T' h cells slots → OFin n0 p e s below Q kk nn T' { g with pc := g.pc + 3 }) : OFin n0 p e s below Q kk nn T g := by
  obtain ⟨C, locs, X, N, eh⟩ := X
  obtain ⟨hx, hZ, hown, -, hby, -⟩ := id C
  obtain ⟨T', X', e', st⟩ := Jvm.RoadKit.castY X hx hZ hown w eh F hg hs (hb hby hd)
  exact OFin.run st (k T' ⟨C, locs, X', N, e'⟩)
theorem OAt.instNo (X : OAt n0 Z y bytes maxL ret p l e R s m args below meth c T h cells slots) {K C : String} {index : Nat} (w : (Jvm.Cond.classLink y.cls index K).before a0 Z = true) {a : Addr} (E : Exa Z h a C) (F : ∃ c t, Z.vm.findClass C = some c ∧ Z.vm.findClass K = some t ∧ Z.vm.assignable c t = false) (hg : g.method = m) {rest : List Value} (hs : g.stack = .ref a :: rest) (hd : decode bytes g.pc = .ok (.instanceof index, 3))
    (k : ∀ T', OAt n0 Z y bytes maxL ret p l e R s m args below meth c T' h cells slots → OFin n0 p e s below Q kk nn T' { g with pc := g.pc + 3, stack := .int 0 :: rest }) : OFin n0 p e s below Q kk nn T g := by
  obtain ⟨C, locs, X, N, eh⟩ := X
  obtain ⟨hx, hZ, hown, -, hby, -⟩ := id C
  obtain ⟨T', X', e', st⟩ := Jvm.RoadKit.instNo X hx hZ hown w eh E F hg hs (hb hby hd)
  exact OFin.run st (k T' ⟨C, locs, X', N, e'⟩)
theorem OAt.instNull (X : OAt n0 Z y bytes maxL ret p l e R s m args below meth c T h cells slots) {index : Nat} (hg : g.method = m) {rest : List Value} (hs : g.stack = .null :: rest) (hd : decode bytes g.pc = .ok (.instanceof index, 3))
    (k : OFin n0 p e s below Q kk nn T { g with pc := g.pc + 3, stack := .int 0 :: rest }) : OFin n0 p e s below Q kk nn T g := by
  obtain ⟨⟨hx, hZ, hown, -, hby, -⟩, locs, X, N, eh⟩ := X
  exact OFin.run (X.instanceofNull hx hg hs (hb hby hd)) k
theorem o_nsRoot {O K : String} {n : Nat} (w : (Jvm.Cond.noSuperclass O).before a0 Z = true) (wk : (Jvm.Cond.instantiable K n).before a0 Z = true) (hn : O ≠ K) : NS Z O K := by
  obtain ⟨c, k, h1, h2, h3, -, -⟩ := Cond.noSuperclass_spec w
  obtain ⟨t, kt, g1, -⟩ := Cond.instantiable_spec wk
  have ne := ids_ne h1 g1 hn
  refine ⟨c, t, h1, g1, fun fuel => ?_⟩
  cases fuel with
  | zero => rfl
  | succ f => simp [Vm.isSubclassAux, ne, h2, h3]
theorem o_nsNo {C S K : String} {n : Nat} (w : (Jvm.Cond.superclass C S).before a0 Z = true) (wk : (Jvm.Cond.instantiable K n).before a0 Z = true) (q : NS Z C K) (hn : C ≠ K) : ∃ c t, Z.vm.findClass C = some c ∧ Z.vm.findClass K = some t ∧ Z.vm.assignable c t = false := by
  obtain ⟨c, t, h0, g0, n3⟩ := q
  obtain ⟨p, k, kp, h1, h2, h3, h4, h5, -, h7⟩ := Cond.superclass_spec h0 w
  obtain ⟨t2, k', g1, g2, g3, g4, -⟩ := Cond.instantiable_spec wk
  cases g0.symm.trans g1
  have ne := ids_ne h0 g0 hn
  have g5 : k'.isInterface = false := by simp only [Bool.or_eq_false_iff] at g4; exact g4.1
  refine ⟨c, t, h0, g0, ?_⟩
  show Z.vm.assignableAux (255 + 1) c t = false
  simp [Vm.assignableAux, ne, h2, g2, h5, g3, g5, Vm.isSubclass, n3]
/-- an array of N places; place j holds f j -/
def OArr (Z : State) (h : Heap) (a : Addr) (ty : FieldType) (N : Nat) (f : Nat → Value) : Prop := ∃ c : Cell, Arr Z h a c ty ∧ c.slots.size = N ∧ ∀ j, j < N → c.slots[j]? = some (f j)
theorem OArr.lt {a : Addr} {ty : FieldType} {N : Nat} {f : Nat → Value} (F : OArr Z h a ty N f) : a < h.size := by obtain ⟨c, A, -⟩ := F; exact A.lt
theorem OArr.ext {a : Addr} {ty : FieldType} {N : Nat} {f : Nat → Value} (F : OArr Z h a ty N f) (E : Ext h h') : OArr Z h' a ty N f := by obtain ⟨c, A, r⟩ := F; exact ⟨c, A.ext E, r⟩
theorem OArr.other {a b : Addr} {ty : FieldType} {N sl : Nat} {f : Nat → Value} {v : Value} (F : OArr Z h b ty N f) (W : Wr h h' a sl v) (q : b ≠ a) : OArr Z h' b ty N f := by obtain ⟨c, A, r⟩ := F; exact ⟨c, A.other W q, r⟩
theorem OArr.keep {a : Addr} {ws : List Addr} {ty : FieldType} {N : Nat} {f : Nat → Value} (F : OArr Z h a ty N f) (K : Keep h h' ws) (q : a ∉ ws) : OArr Z h' a ty N f := by obtain ⟨c, A, r⟩ := F; exact ⟨c, ⟨K.2.1 a c A.1 q, A.2⟩, r⟩
theorem OArr.new {a : Addr} {k : ClassId} {ty : FieldType} {z : Int32} (A : Arr Z h a (newA k ty z) ty) : OArr Z h a ty z.toNatClampNeg (fun _ => defaultValue ty) := ⟨_, A, sz_new _ _ _, fun j hj => by simp [newA, hj]⟩
theorem OArr.congr {a : Addr} {ty : FieldType} {N : Nat} {f f' : Nat → Value} (F : OArr Z h a ty N f) (q : ∀ j, j < N → f j = f' j) : OArr Z h a ty N f' := by obtain ⟨c, A, r1, r2⟩ := F; exact ⟨c, A, r1, fun j hj => by rw [r2 j hj, q j hj]⟩
theorem OArr.set {a : Addr} {ty : FieldType} {N i : Nat} {f : Nat → Value} {v : Value} (F : OArr Z h a ty N f) (W : Wr h h' a i v) : OArr Z h' a ty N (fun j => if j = i then v else f j) := by
  obtain ⟨c, A, r1, r2⟩ := F
  refine ⟨c.setSlot i v, A.same W, by rw [sz_set]; exact r1, fun j hj => ?_⟩
  by_cases q : j = i
  · subst q; simp [Cell.setSlot, r1, hj]
  · simp only [q, if_false]
    rw [← r2 j hj]
    exact Array.getElem?_setIfInBounds_ne (Ne.symm q)
theorem o_fitC {a : Addr} {cl : Cell} {ty : FieldType} (A : Arr Z h a cl ty) (q : ∀ (i : Nat) (v : Value), cl.slots[i]? = some v → fits ty v = true) : FitC Z cl := fun i v hv => by
  obtain ⟨hs, k, hk, comp, hkind⟩ := A.2.1
  simp [State.fitsSlot, State.slotType?, hk, hkind, q i v hv]
theorem o_in {N : Nat} {j : Int32} {cl : Cell} (S : cl.slots.size = N) (h0 : 0 ≤ j.toInt) (h1 : j.toInt < N) : ¬ (j < 0 ∨ cl.slots.size ≤ j.toNatClampNeg) := by
  have e : (0 : Int32).toInt = 0 := by decide
  have q : (j.toNatClampNeg : Int) = j.toInt := by show (j.toInt.toNat : Int) = _; omega
  rw [Int32.lt_iff_toInt_lt, S, e]; omega
theorem o_nat {j : Int32} (h0 : 0 ≤ j.toInt) : (j.toNatClampNeg : Int) = j.toInt := by show (j.toInt.toNat : Int) = _; omega
theorem OFin.mono {k2 n2 : Nat} (k : OFin n0 p e s below Q kk nn T g) (h1 : kk ≤ k2) (h2 : nn ≤ n2) : OFin n0 p e s below Q k2 n2 T g := by
  obtain ⟨s₂, o, q1, q2, q3, v, L, q4, q5, q6⟩ := k; exact ⟨s₂, o, q1, q2, q3, v, L, q4, q5, q6.1, q6.2.1, q6.2.2.mono h1 h2⟩
theorem o_static {C n d K : String} (hx : (Jvm.Cond.exactly (.static C n d) K).value args Z none Z [] = some true) (wi : (Jvm.Cond.initialized C).before args Z = true) (wl : (Jvm.Cond.laysStatic C n d).before args Z = true) :
    ∃ a, (Term.static C n d).eval args Z none [] Z = some (.ref a) ∧ Exa Z Z.heap a K ∧ Sta Z Z.heap C n d (.ref a) := by
  obtain ⟨a, ev⟩ := exa_v hx
  exact ⟨a, ev, Exa.start ev hx, Sta.start ev (Or.inr ⟨wi, wl⟩)⟩
theorem o_fieldI {t : Term} {O f dd : String} {k : Int32} {a : Addr} (ev : t.eval args Z none [] Z = some (.ref a)) (hq : (Jvm.Cond.eq (.field t O f dd) (.int k)).value args Z none Z [] = some true) : Fld Z Z.heap a O f dd (.int k) := by
  refine Fld.start ?_
  rw [← fld_at (C := O) (n := f) (dd := dd) ev]
  obtain ⟨u, v, h1, h2, h3, h4⟩ := cmp_v (Or.inl hq)
  have h5 : v = .int k := (Option.some.inj h2).symm
  subst h5
  obtain ⟨z, rfl⟩ := h4
  have := gotT (Cond.eq_ints h1 h2) hq
  rw [h1, this]
end Own
/-! numbers -/
theorem own_max (a : Int32) : 1 ≤ (if (1 : Int32) < (a &&& (2147483647 : Int32)) then (a &&& (2147483647 : Int32)) else (1 : Int32)).toInt := by
  have e1 : (1 : Int32).toInt = 1 := by decide
  split
  · rename_i h; rw [Int32.lt_iff_toInt_lt, e1] at h; omega
  · rw [e1]; omega
theorem own_key (c s : Int32) (h0 : 0 ≤ c.toInt) (h1 : c.toInt ≤ s.toInt) : ((0 : Int32) < lcmpW ((2 : Int64) * c.toInt64) s.toInt64) ↔ ¬ c < s / 2 + 1 := by
  have e1 : (1 : Int32).toInt = 1 := by decide
  have e2 : (2 : Int64).toInt = 2 := by decide
  rw [lw_gt, Int64.lt_iff_toInt_lt, Int32.lt_iff_toInt_lt]
  have k1 := c_lmul (2 : Int64) c.toInt64
  have k2 := c_i2l c
  have k3 := c_i2l s
  have k4 := (c_idiv s (2 : Int32) 2 (by decide) (by decide)).1 (by omega)
  have k5 := c_iadd (s / 2) 1
  have r1 := rng32 c
  have r2 := rng32 s
  have r3 := rng64 ((2 : Int64) * c.toInt64)
  have r4 := rng32 (s / 2 + 1)
  rw [e2, k2] at k1
  rw [e1, k4] at k5
  rw [k3]
  generalize ((2 : Int64) * c.toInt64).toInt = u at *
  generalize (s / 2 + 1).toInt = v at *
  constructor <;> intro q <;> omega
theorem own_c1 (b s : Int32) (hs : 1 ≤ s.toInt) : s.toInt64 + (1 : Int64) ≠ 0 ∧ 0 ≤ (((b.toInt64 &&& (4294967295 : Int64)) - ((b.toInt64 &&& (4294967295 : Int64)) / (s.toInt64 + (1 : Int64))) * (s.toInt64 + (1 : Int64))).toInt32).toInt ∧ (((b.toInt64 &&& (4294967295 : Int64)) - ((b.toInt64 &&& (4294967295 : Int64)) / (s.toInt64 + (1 : Int64))) * (s.toInt64 + (1 : Int64))).toInt32).toInt ≤ s.toInt := by
  have e1 : (1 : Int64).toInt = 1 := by decide
  have r2 := rng32 s
  have k3 := c_i2l s
  have k4 := c_ladd s.toInt64 1
  have r5 := rng64 (s.toInt64 + (1 : Int64))
  rw [e1, k3] at k4
  have k5 : (s.toInt64 + (1 : Int64)).toInt = s.toInt + 1 := by omega
  have k6 := c_maskL b.toInt64 (4294967295 : Int64) 32 (by decide) (by decide)
  have k7 : 0 ≤ (b.toInt64 &&& (4294967295 : Int64)).toInt := by rw [k6]; omega
  have k8 := (c_lrem (b.toInt64 &&& (4294967295 : Int64)) (s.toInt64 + (1 : Int64)) _ k5).1 k7
  have k9 := c_l2i ((b.toInt64 &&& (4294967295 : Int64)) - ((b.toInt64 &&& (4294967295 : Int64)) / (s.toInt64 + (1 : Int64))) * (s.toInt64 + (1 : Int64)))
  rw [k8] at k9
  have m1 := Int.emod_nonneg (b.toInt64 &&& (4294967295 : Int64)).toInt (b := s.toInt + 1) (by omega)
  have m2 := Int.emod_lt_of_pos (b.toInt64 &&& (4294967295 : Int64)).toInt (b := s.toInt + 1) (by omega)
  refine ⟨fun q => ?_, ?_⟩
  · rw [q] at k5
    have : (0 : Int64).toInt = 0 := by decide
    omega
  · have r6 := rng32 (((b.toInt64 &&& (4294967295 : Int64)) - ((b.toInt64 &&& (4294967295 : Int64)) / (s.toInt64 + (1 : Int64))) * (s.toInt64 + (1 : Int64))).toInt32)
    generalize ((b.toInt64 &&& (4294967295 : Int64)) - ((b.toInt64 &&& (4294967295 : Int64)) / (s.toInt64 + (1 : Int64))) * (s.toInt64 + (1 : Int64))).toInt32.toInt = z at *
    generalize (b.toInt64 &&& (4294967295 : Int64)).toInt % (s.toInt + 1) = w at *
    omega
theorem own_c2 (s : Int32) (n : Int64) (hs : 1 ≤ s.toInt) : 0 ≤ ((if (if (0 : Int64) < n then n else (0 : Int64)) < s.toInt64 then (if (0 : Int64) < n then n else (0 : Int64)) else s.toInt64).toInt32).toInt ∧ ((if (if (0 : Int64) < n then n else (0 : Int64)) < s.toInt64 then (if (0 : Int64) < n then n else (0 : Int64)) else s.toInt64).toInt32).toInt ≤ s.toInt := by
  have e0 : (0 : Int64).toInt = 0 := by decide
  have r2 := rng32 s
  have k3 := c_i2l s
  have k : ∀ z : Int64, 0 ≤ z.toInt → z.toInt ≤ s.toInt → 0 ≤ z.toInt32.toInt ∧ z.toInt32.toInt ≤ s.toInt := fun z h1 h2 => by
    have k9 := c_l2i z
    have r6 := rng32 z.toInt32
    omega
  generalize hm : (if (0 : Int64) < n then n else (0 : Int64)) = mx
  have hm0 : 0 ≤ mx.toInt := by
    rw [← hm]
    split
    · rename_i h; rw [Int64.lt_iff_toInt_lt] at h; omega
    · omega
  apply k
  · split
    · exact hm0
    · rw [k3]; omega
  · split
    · rename_i h; rw [Int64.lt_iff_toInt_lt] at h; omega
    · rw [k3]; omega
theorem d1_0 : decode jdk_29_method_65_code 0 = .ok (.iload_n 0, 1) := by decide +kernel
theorem d1_1 : decode jdk_29_method_65_code 1 = .ok (.iload_n 1, 1) := by decide +kernel
theorem d1_2 : decode jdk_29_method_65_code 2 = .ok (.if_icmp .lt 7, 3) := by decide +kernel
theorem d1_9 : decode jdk_29_method_65_code 9 = .ok (.iload_n 1, 1) := by decide +kernel
theorem d1_10 : decode jdk_29_method_65_code 10 = .ok (.ireturn, 1) := by decide +kernel
theorem d1_5 : decode jdk_29_method_65_code 5 = .ok (.iload_n 0, 1) := by decide +kernel
theorem d1_6 : decode jdk_29_method_65_code 6 = .ok (.goto 4, 3) := by decide +kernel
set_option maxRecDepth 65536 in
set_option maxHeartbeats 40000000 in
theorem rm1 (l : Launch) (Z : State) (a0 : Array Value) (hw : ∀ d ∈ tables_1, d.before a0 Z = true) (p0 p1 : Int32) (h0 : Heap) (n0 : Nat)  :
    OMeets l Z (⟨"java/lang/Math", "max", "(II)I"⟩ : MethodName) [] jdk_29_method_65_code 2 (some .int) ({ frames := 0, cells := 0, slots := 0, locals := 0 } : Room) #[(.int p0), (.int p1)] h0 n0 (fun v h => v = some (.int (if p0 < p1 then p1 else p0)) ∧ h0 = h) := by
  refine o_enter (Z := Z) (Jvm.Free.JP.mathPlain rfl (by decide +kernel)) ?_
  intro p e s m below meth c T0 X0
  refine OFin.cast (g' := (mkF m 0 #[.val (.int p0), .val (.int p1)] [])) (by first | rfl | simp [entryFrame, mkF, argsToLocals, Value.category]) ?_
  refine X0.step (fun hA hx hq t k => XS.iloadN hA hx rfl (hb hq d1_0) rfl k) ?_
  show OFin _ _ _ _ _ _ _ _ T0 (mkF m 1 #[.val (.int p0), .val (.int p1)] [(.int p0)])
  refine X0.step (fun hA hx hq t k => XS.iloadN hA hx rfl (hb hq d1_1) rfl k) ?_
  show OFin _ _ _ _ _ _ _ _ T0 (mkF m 2 #[.val (.int p0), .val (.int p1)] [(.int p1), (.int p0)])
  by_cases k1 : p0 < p1
  · refine X0.step (fun hA hx hq t k => XS.icmpYes hA hx rfl (pc0 := 2) (pc' := 9) rfl (hb hq d1_2) rfl (tlt (k1)).1 (by decide) (by decide) k) ?_
    show OFin _ _ _ _ _ _ _ _ T0 (mkF m 9 #[.val (.int p0), .val (.int p1)] [])
    refine X0.step (fun hA hx hq t k => XS.iloadN hA hx rfl (hb hq d1_9) rfl k) ?_
    show OFin _ _ _ _ _ _ _ _ T0 (mkF m 10 #[.val (.int p0), .val (.int p1)] [(.int p1)])
    exact X0.retI d1_10 (by decide) (by decide) (⟨by rw [if_pos k1], rfl⟩)
  · refine X0.step (fun hA hx hq t k => XS.icmpNo hA hx rfl (hb hq d1_2) rfl (flt (k1)).1 k) ?_
    show OFin _ _ _ _ _ _ _ _ T0 (mkF m 5 #[.val (.int p0), .val (.int p1)] [])
    refine X0.step (fun hA hx hq t k => XS.iloadN hA hx rfl (hb hq d1_5) rfl k) ?_
    show OFin _ _ _ _ _ _ _ _ T0 (mkF m 6 #[.val (.int p0), .val (.int p1)] [(.int p0)])
    refine X0.step (fun hA hx hq t k => XS.goto hA hx rfl (pc0 := 6) (pc' := 10) rfl (hb hq d1_6) (by decide) (by decide) k) ?_
    show OFin _ _ _ _ _ _ _ _ T0 (mkF m 10 #[.val (.int p0), .val (.int p1)] [(.int p0)])
    exact X0.retI d1_10 (by decide) (by decide) (⟨by rw [if_neg k1], rfl⟩)
theorem d2_0 : decode jdk_29_method_66_code 0 = .ok (.lload_n 0, 1) := by decide +kernel
theorem d2_1 : decode jdk_29_method_66_code 1 = .ok (.lload_n 2, 1) := by decide +kernel
theorem d2_2 : decode jdk_29_method_66_code 2 = .ok (.lcmp, 1) := by decide +kernel
theorem d2_3 : decode jdk_29_method_66_code 3 = .ok (.ifCond .lt 7, 3) := by decide +kernel
theorem d2_10 : decode jdk_29_method_66_code 10 = .ok (.lload_n 2, 1) := by decide +kernel
theorem d2_11 : decode jdk_29_method_66_code 11 = .ok (.lreturn, 1) := by decide +kernel
theorem d2_6 : decode jdk_29_method_66_code 6 = .ok (.lload_n 0, 1) := by decide +kernel
theorem d2_7 : decode jdk_29_method_66_code 7 = .ok (.goto 4, 3) := by decide +kernel
set_option maxRecDepth 65536 in
set_option maxHeartbeats 40000000 in
theorem rm2 (l : Launch) (Z : State) (a0 : Array Value) (hw : ∀ d ∈ tables_1, d.before a0 Z = true) (p0 p1 : Int64) (h0 : Heap) (n0 : Nat)  :
    OMeets l Z (⟨"java/lang/Math", "max", "(JJ)J"⟩ : MethodName) [] jdk_29_method_66_code 4 (some .long) ({ frames := 0, cells := 0, slots := 0, locals := 0 } : Room) #[(.long p0), (.long p1)] h0 n0 (fun v h => v = some (.long (if p0 < p1 then p1 else p0)) ∧ h0 = h) := by
  refine o_enter (Z := Z) (Jvm.Free.JP.mathPlain rfl (by decide +kernel)) ?_
  intro p e s m below meth c T0 X0
  refine OFin.cast (g' := (mkF m 0 #[.val (.long p0), .second, .val (.long p1), .second] [])) (by first | rfl | simp [entryFrame, mkF, argsToLocals, Value.category]) ?_
  refine X0.step (fun hA hx hq t k => XS.lloadN hA hx rfl (hb hq d2_0) rfl k) ?_
  show OFin _ _ _ _ _ _ _ _ T0 (mkF m 1 #[.val (.long p0), .second, .val (.long p1), .second] [(.long p0)])
  refine X0.step (fun hA hx hq t k => XS.lloadN hA hx rfl (hb hq d2_1) rfl k) ?_
  show OFin _ _ _ _ _ _ _ _ T0 (mkF m 2 #[.val (.long p0), .second, .val (.long p1), .second] [(.long p1), (.long p0)])
  refine X0.step (fun hA hx hq t k => XS.lcmp hA hx rfl (hb hq d2_2) rfl k) ?_
  show OFin _ _ _ _ _ _ _ _ T0 (mkF m 3 #[.val (.long p0), .second, .val (.long p1), .second] [(.int (lcmpW p0 p1))])
  by_cases k1 : (lcmpW p0 p1) < (0 : Int32)
  · refine X0.step (fun hA hx hq t k => XS.ifYes hA hx rfl (pc0 := 3) (pc' := 10) rfl (hb hq d2_3) rfl ((if0 _ _).trans (tlt (k1)).1) (by decide) (by decide) k) ?_
    show OFin _ _ _ _ _ _ _ _ T0 (mkF m 10 #[.val (.long p0), .second, .val (.long p1), .second] [])
    refine X0.step (fun hA hx hq t k => XS.lloadN hA hx rfl (hb hq d2_10) rfl k) ?_
    show OFin _ _ _ _ _ _ _ _ T0 (mkF m 11 #[.val (.long p0), .second, .val (.long p1), .second] [(.long p1)])
    exact X0.retL d2_11 (by decide) (by decide) (⟨by rw [if_pos ((lw_lt _ _).mp k1)], rfl⟩)
  · refine X0.step (fun hA hx hq t k => XS.ifNo hA hx rfl (hb hq d2_3) rfl ((if0 _ _).trans (flt (k1)).1) k) ?_
    show OFin _ _ _ _ _ _ _ _ T0 (mkF m 6 #[.val (.long p0), .second, .val (.long p1), .second] [])
    refine X0.step (fun hA hx hq t k => XS.lloadN hA hx rfl (hb hq d2_6) rfl k) ?_
    show OFin _ _ _ _ _ _ _ _ T0 (mkF m 7 #[.val (.long p0), .second, .val (.long p1), .second] [(.long p0)])
    refine X0.step (fun hA hx hq t k => XS.goto hA hx rfl (pc0 := 7) (pc' := 11) rfl (hb hq d2_7) (by decide) (by decide) k) ?_
    show OFin _ _ _ _ _ _ _ _ T0 (mkF m 11 #[.val (.long p0), .second, .val (.long p1), .second] [(.long p0)])
    exact X0.retL d2_11 (by decide) (by decide) (⟨by rw [if_neg fun q => k1 ((lw_lt _ _).mpr q)], rfl⟩)
theorem d3_0 : decode jdk_29_method_70_code 0 = .ok (.lload_n 0, 1) := by decide +kernel
theorem d3_1 : decode jdk_29_method_70_code 1 = .ok (.lload_n 2, 1) := by decide +kernel
theorem d3_2 : decode jdk_29_method_70_code 2 = .ok (.lcmp, 1) := by decide +kernel
theorem d3_3 : decode jdk_29_method_70_code 3 = .ok (.ifCond .gt 7, 3) := by decide +kernel
theorem d3_10 : decode jdk_29_method_70_code 10 = .ok (.lload_n 2, 1) := by decide +kernel
theorem d3_11 : decode jdk_29_method_70_code 11 = .ok (.lreturn, 1) := by decide +kernel
theorem d3_6 : decode jdk_29_method_70_code 6 = .ok (.lload_n 0, 1) := by decide +kernel
theorem d3_7 : decode jdk_29_method_70_code 7 = .ok (.goto 4, 3) := by decide +kernel
set_option maxRecDepth 65536 in
set_option maxHeartbeats 40000000 in
theorem rm3 (l : Launch) (Z : State) (a0 : Array Value) (hw : ∀ d ∈ tables_1, d.before a0 Z = true) (p0 p1 : Int64) (h0 : Heap) (n0 : Nat)  :
    OMeets l Z (⟨"java/lang/Math", "min", "(JJ)J"⟩ : MethodName) [] jdk_29_method_70_code 4 (some .long) ({ frames := 0, cells := 0, slots := 0, locals := 0 } : Room) #[(.long p0), (.long p1)] h0 n0 (fun v h => v = some (.long (if p1 < p0 then p1 else p0)) ∧ h0 = h) := by
  refine o_enter (Z := Z) (Jvm.Free.JP.mathPlain rfl (by decide +kernel)) ?_
  intro p e s m below meth c T0 X0
  refine OFin.cast (g' := (mkF m 0 #[.val (.long p0), .second, .val (.long p1), .second] [])) (by first | rfl | simp [entryFrame, mkF, argsToLocals, Value.category]) ?_
  refine X0.step (fun hA hx hq t k => XS.lloadN hA hx rfl (hb hq d3_0) rfl k) ?_
  show OFin _ _ _ _ _ _ _ _ T0 (mkF m 1 #[.val (.long p0), .second, .val (.long p1), .second] [(.long p0)])
  refine X0.step (fun hA hx hq t k => XS.lloadN hA hx rfl (hb hq d3_1) rfl k) ?_
  show OFin _ _ _ _ _ _ _ _ T0 (mkF m 2 #[.val (.long p0), .second, .val (.long p1), .second] [(.long p1), (.long p0)])
  refine X0.step (fun hA hx hq t k => XS.lcmp hA hx rfl (hb hq d3_2) rfl k) ?_
  show OFin _ _ _ _ _ _ _ _ T0 (mkF m 3 #[.val (.long p0), .second, .val (.long p1), .second] [(.int (lcmpW p0 p1))])
  by_cases k1 : (0 : Int32) < (lcmpW p0 p1)
  · refine X0.step (fun hA hx hq t k => XS.ifYes hA hx rfl (pc0 := 3) (pc' := 10) rfl (hb hq d3_3) rfl ((if0 _ _).trans (tlt (k1)).2.2.1) (by decide) (by decide) k) ?_
    show OFin _ _ _ _ _ _ _ _ T0 (mkF m 10 #[.val (.long p0), .second, .val (.long p1), .second] [])
    refine X0.step (fun hA hx hq t k => XS.lloadN hA hx rfl (hb hq d3_10) rfl k) ?_
    show OFin _ _ _ _ _ _ _ _ T0 (mkF m 11 #[.val (.long p0), .second, .val (.long p1), .second] [(.long p1)])
    exact X0.retL d3_11 (by decide) (by decide) (⟨by rw [if_pos ((lw_gt _ _).mp k1)], rfl⟩)
  · refine X0.step (fun hA hx hq t k => XS.ifNo hA hx rfl (hb hq d3_3) rfl ((if0 _ _).trans (flt (k1)).2.2.1) k) ?_
    show OFin _ _ _ _ _ _ _ _ T0 (mkF m 6 #[.val (.long p0), .second, .val (.long p1), .second] [])
    refine X0.step (fun hA hx hq t k => XS.lloadN hA hx rfl (hb hq d3_6) rfl k) ?_
    show OFin _ _ _ _ _ _ _ _ T0 (mkF m 7 #[.val (.long p0), .second, .val (.long p1), .second] [(.long p0)])
    refine X0.step (fun hA hx hq t k => XS.goto hA hx rfl (pc0 := 7) (pc' := 11) rfl (hb hq d3_7) (by decide) (by decide) k) ?_
    show OFin _ _ _ _ _ _ _ _ T0 (mkF m 11 #[.val (.long p0), .second, .val (.long p1), .second] [(.long p0)])
    exact X0.retL d3_11 (by decide) (by decide) (⟨by rw [if_neg fun q => k1 ((lw_gt _ _).mpr q)], rfl⟩)
theorem pn_java_lang_Record : plainName "java/lang/Record" = true := by first | (simp [plainName, overriddenIn]; done) | decide +kernel
theorem d5_0 : decode jdk_30_method_1_code 0 = .ok (.aload_n 0, 1) := by decide +kernel
theorem d5_1 : decode jdk_30_method_1_code 1 = .ok (.invokespecial 1, 3) := by decide +kernel
theorem d5_4 : decode jdk_30_method_1_code 4 = .ok (.return_, 1) := by decide +kernel
set_option maxRecDepth 65536 in
set_option maxHeartbeats 40000000 in
theorem rm5 (l : Launch) (Z : State) (a0 : Array Value) (hw : ∀ d ∈ tables_1, d.before a0 Z = true) (a1 : Addr) (h0 : Heap) (n0 : Nat)  :
    OMeets l Z (⟨"java/lang/Record", "<init>", "()V"⟩ : MethodName) [] jdk_30_method_1_code 1 none ({ frames := 1, cells := 0, slots := 0, locals := 12 } : Room) #[(.ref a1)] h0 n0 (fun v h => v = none ∧ h0 = h) := by
  refine o_enter (Z := Z) (plainFor_of_name pn_java_lang_Record) ?_
  intro p e s m below meth c T0 X0
  refine OFin.cast (g' := (mkF m 0 #[.val (.ref a1)] [])) (by first | rfl | simp [entryFrame, mkF, argsToLocals, Value.category]) ?_
  refine X0.step (fun hA hx hq t k => XS.aloadN hA hx rfl (hb hq d5_0) rfl rfl k) ?_
  show OFin _ _ _ _ _ _ _ _ T0 (mkF m 1 #[.val (.ref a1)] [(.ref a1)])
  refine X0.initO (hw _ (List.mem_of_getElem? (i := 22) rfl)) (hw _ (List.mem_of_getElem? (i := 23) rfl)) (hw _ (List.mem_of_getElem? (i := 24) rfl)) (g := (mkF m 1 #[.val (.ref a1)] [(.ref a1)])) rfl rfl rfl d5_1 (by decide) (W := 0) (by show 2 * 0 + _ ≤ _; exact Nat.le_of_eq rfl) (by decide) ?_
  intro T1 X1
  show OFin _ _ _ _ _ _ _ _ T1 (mkF m 4 #[.val (.ref a1)] [])
  exact X1.retV d5_4 (by decide) (by decide) (⟨rfl, rfl⟩)
theorem pn_com_example_lean_lock_leanlock_Quorum : plainName "com/example/lean_lock/leanlock/Quorum" = true := by first | (simp [plainName, overriddenIn]; done) | decide +kernel
theorem d4_0 : decode prog_20_method_1_code 0 = .ok (.aload_n 0, 1) := by decide +kernel
theorem d4_1 : decode prog_20_method_1_code 1 = .ok (.invokespecial 1, 3) := by decide +kernel
theorem pd_pr_V : parseMethodDescriptor "()V" = some ⟨[], none⟩ := by decide +kernel
theorem d4_4 : decode prog_20_method_1_code 4 = .ok (.iload_n 1, 1) := by decide +kernel
theorem d4_5 : decode prog_20_method_1_code 5 = .ok (.iconst 1, 1) := by decide +kernel
theorem d4_6 : decode prog_20_method_1_code 6 = .ok (.if_icmp .ge 17, 3) := by decide +kernel
theorem d4_23 : decode prog_20_method_1_code 23 = .ok (.aload_n 0, 1) := by decide +kernel
theorem d4_24 : decode prog_20_method_1_code 24 = .ok (.iload_n 1, 1) := by decide +kernel
theorem d4_25 : decode prog_20_method_1_code 25 = .ok (.putfield 16, 3) := by decide +kernel
theorem d4_28 : decode prog_20_method_1_code 28 = .ok (.return_, 1) := by decide +kernel
set_option maxRecDepth 65536 in
set_option maxHeartbeats 40000000 in
theorem rm4 (l : Launch) (Z : State) (a0 : Array Value) (hw : ∀ d ∈ tables_1, d.before a0 Z = true) (a1 : Addr) (p1 u : Int32) (h0 : Heap) (n0 : Nat) (F : Fld Z h0 a1 "com/example/lean_lock/leanlock/Quorum" "servers" "I" (.int u)) (E : Exa Z h0 a1 "com/example/lean_lock/leanlock/Quorum") (hn : n0 ≤ a1) (hp : ¬ p1 < (1 : Int32)) :
    OMeets l Z (⟨"com/example/lean_lock/leanlock/Quorum", "<init>", "(I)V"⟩ : MethodName) [] prog_20_method_1_code 2 none ({ frames := 2, cells := 0, slots := 0, locals := 24 } : Room) #[(.ref a1), (.int p1)] h0 n0 (fun v h => v = none ∧ Keep h0 h [a1] ∧ Exa Z h a1 "com/example/lean_lock/leanlock/Quorum" ∧ Fld Z h a1 "com/example/lean_lock/leanlock/Quorum" "servers" "I" (.int p1)) := by
  refine o_enter (Z := Z) (plainFor_of_name pn_com_example_lean_lock_leanlock_Quorum) ?_
  intro p e s m below meth c T0 X0
  refine OFin.cast (g' := (mkF m 0 #[.val (.ref a1), .val (.int p1)] [])) (by first | rfl | simp [entryFrame, mkF, argsToLocals, Value.category]) ?_
  refine X0.step (fun hA hx hq t k => XS.aloadN hA hx rfl (hb hq d4_0) rfl rfl k) ?_
  show OFin _ _ _ _ _ _ _ _ T0 (mkF m 1 #[.val (.ref a1), .val (.int p1)] [(.ref a1)])
  refine X0.callI (y' := (⟨"java/lang/Record", "<init>", "()V"⟩ : MethodName)) rfl (hw _ (List.mem_of_getElem? (i := 17) rfl)) (hw _ (List.mem_of_getElem? (i := 18) rfl)) (hw _ (List.mem_of_getElem? (i := 20) rfl)) (hw _ (List.mem_of_getElem? (i := 21) rfl)) (by decide) (a := a1) (argsL := []) (rest := []) (rm5 l Z a0 hw a1 h0 n0) (g := (mkF m 1 #[.val (.ref a1), .val (.int p1)] [(.ref a1)])) rfl rfl pd_pr_V rfl rfl (W := 0) (by show 2 * 0 + _ ≤ _; exact Nat.le_of_eq rfl) d4_1 (by decide) (by decide) (by decide) (by decide) ?_
  intro v1 T1 h1 X1 q1
  obtain ⟨rfl, rfl⟩ := q1
  show OFin _ _ _ _ _ _ _ _ T1 (mkF m 4 #[.val (.ref a1), .val (.int p1)] [])
  refine X1.step (fun hA hx hq t k => XS.iloadN hA hx rfl (hb hq d4_4) rfl k) ?_
  show OFin _ _ _ _ _ _ _ _ T1 (mkF m 5 #[.val (.ref a1), .val (.int p1)] [(.int p1)])
  refine X1.step (fun hA hx hq t k => XS.iconst hA hx rfl (hb hq d4_5) k) ?_
  show OFin _ _ _ _ _ _ _ _ T1 (mkF m 6 #[.val (.ref a1), .val (.int p1)] [(.int (1 : Int32)), (.int p1)])
  refine X1.step (fun hA hx hq t k => XS.icmpYes hA hx rfl (pc0 := 6) (pc' := 23) rfl (hb hq d4_6) rfl (flt (hp)).2.1 (by decide) (by decide) k) ?_
  show OFin _ _ _ _ _ _ _ _ T1 (mkF m 23 #[.val (.ref a1), .val (.int p1)] [])
  refine X1.step (fun hA hx hq t k => XS.aloadN hA hx rfl (hb hq d4_23) rfl rfl k) ?_
  show OFin _ _ _ _ _ _ _ _ T1 (mkF m 24 #[.val (.ref a1), .val (.int p1)] [(.ref a1)])
  refine X1.step (fun hA hx hq t k => XS.iloadN hA hx rfl (hb hq d4_24) rfl k) ?_
  show OFin _ _ _ _ _ _ _ _ T1 (mkF m 25 #[.val (.ref a1), .val (.int p1)] [(.int p1), (.ref a1)])
  refine X1.putF (hw _ (List.mem_of_getElem? (i := 25) rfl)) F E (Or.inr ⟨(hw _ (List.mem_of_getElem? (i := 26) rfl)), rfl, rfl⟩) (hw _ (List.mem_of_getElem? (i := 12) rfl)) (ty := .int) (by decide) rfl rfl hn (g := (mkF m 25 #[.val (.ref a1), .val (.int p1)] [(.int p1), (.ref a1)])) rfl rfl d4_25 ?_
  intro T2 h2 X2 W2
  show OFin _ _ _ _ _ _ _ _ T2 (mkF m 28 #[.val (.ref a1), .val (.int p1)] [])
  exact X2.retV d4_28 (by decide) (by decide) (⟨rfl, Keep.of_wr W2, E.wr W2, F.same W2⟩)
theorem d8_0 : decode prog_20_method_2_code 0 = .ok (.aload_n 0, 1) := by decide +kernel
theorem d8_1 : decode prog_20_method_2_code 1 = .ok (.getfield 16, 3) := by decide +kernel
theorem d8_4 : decode prog_20_method_2_code 4 = .ok (.iconst 2, 1) := by decide +kernel
theorem d8_5 : decode prog_20_method_2_code 5 = .ok (.idiv, 1) := by decide +kernel
theorem d8_6 : decode prog_20_method_2_code 6 = .ok (.iconst 1, 1) := by decide +kernel
theorem d8_7 : decode prog_20_method_2_code 7 = .ok (.iadd, 1) := by decide +kernel
theorem d8_8 : decode prog_20_method_2_code 8 = .ok (.ireturn, 1) := by decide +kernel
set_option maxRecDepth 65536 in
set_option maxHeartbeats 40000000 in
theorem rm8 (l : Launch) (Z : State) (a0 : Array Value) (hw : ∀ d ∈ tables_1, d.before a0 Z = true) (a1 : Addr) (u : Int32) (h0 : Heap) (n0 : Nat) (F : Fld Z h0 a1 "com/example/lean_lock/leanlock/Quorum" "servers" "I" (.int u)) :
    OMeets l Z (⟨"com/example/lean_lock/leanlock/Quorum", "majority", "()I"⟩ : MethodName) [] prog_20_method_2_code 1 (some .int) ({ frames := 0, cells := 0, slots := 0, locals := 0 } : Room) #[(.ref a1)] h0 n0 (fun v h => v = some (.int (u / (2 : Int32) + (1 : Int32))) ∧ h0 = h) := by
  refine o_enter (Z := Z) (plainFor_of_name pn_com_example_lean_lock_leanlock_Quorum) ?_
  intro p e s m below meth c T0 X0
  refine OFin.cast (g' := (mkF m 0 #[.val (.ref a1)] [])) (by first | rfl | simp [entryFrame, mkF, argsToLocals, Value.category]) ?_
  refine X0.step (fun hA hx hq t k => XS.aloadN hA hx rfl (hb hq d8_0) rfl rfl k) ?_
  show OFin _ _ _ _ _ _ _ _ T0 (mkF m 1 #[.val (.ref a1)] [(.ref a1)])
  refine X0.getF (hw _ (List.mem_of_getElem? (i := 25) rfl)) F (g := (mkF m 1 #[.val (.ref a1)] [(.ref a1)])) rfl rfl d8_1 ?_
  intro T1 X1
  show OFin _ _ _ _ _ _ _ _ T1 (mkF m 4 #[.val (.ref a1)] [(.int u)])
  refine X1.step (fun hA hx hq t k => XS.iconst hA hx rfl (hb hq d8_4) k) ?_
  show OFin _ _ _ _ _ _ _ _ T1 (mkF m 5 #[.val (.ref a1)] [(.int (2 : Int32)), (.int u)])
  refine X1.step (fun hA hx hq t k => XS.idiv hA hx rfl (hb hq d8_5) rfl (by decide) k) ?_
  show OFin _ _ _ _ _ _ _ _ T1 (mkF m 6 #[.val (.ref a1)] [(.int (u / (2 : Int32)))])
  refine X1.step (fun hA hx hq t k => XS.iconst hA hx rfl (hb hq d8_6) k) ?_
  show OFin _ _ _ _ _ _ _ _ T1 (mkF m 7 #[.val (.ref a1)] [(.int (1 : Int32)), (.int (u / (2 : Int32)))])
  refine X1.step (fun hA hx hq t k => XS.iadd hA hx rfl (hb hq d8_7) rfl k) ?_
  show OFin _ _ _ _ _ _ _ _ T1 (mkF m 8 #[.val (.ref a1)] [(.int ((u / (2 : Int32)) + (1 : Int32)))])
  exact X1.retI d8_8 (by decide) (by decide) (⟨rfl, rfl⟩)
theorem d7_0 : decode prog_20_method_3_code 0 = .ok (.iload_n 1, 1) := by decide +kernel
theorem d7_1 : decode prog_20_method_3_code 1 = .ok (.ifCond .lt 11, 3) := by decide +kernel
theorem d7_4 : decode prog_20_method_3_code 4 = .ok (.iload_n 1, 1) := by decide +kernel
theorem d7_5 : decode prog_20_method_3_code 5 = .ok (.aload_n 0, 1) := by decide +kernel
theorem d7_6 : decode prog_20_method_3_code 6 = .ok (.getfield 16, 3) := by decide +kernel
theorem d7_9 : decode prog_20_method_3_code 9 = .ok (.if_icmp .le 21, 3) := by decide +kernel
theorem d7_30 : decode prog_20_method_3_code 30 = .ok (.iload_n 1, 1) := by decide +kernel
theorem d7_31 : decode prog_20_method_3_code 31 = .ok (.aload_n 0, 1) := by decide +kernel
theorem d7_32 : decode prog_20_method_3_code 32 = .ok (.invokevirtual 25, 3) := by decide +kernel
theorem pd_pr_I : parseMethodDescriptor "()I" = some ⟨[], some .int⟩ := by decide +kernel
theorem d7_35 : decode prog_20_method_3_code 35 = .ok (.if_icmp .lt 7, 3) := by decide +kernel
theorem d7_42 : decode prog_20_method_3_code 42 = .ok (.iconst 0, 1) := by decide +kernel
theorem d7_43 : decode prog_20_method_3_code 43 = .ok (.ireturn, 1) := by decide +kernel
theorem d7_38 : decode prog_20_method_3_code 38 = .ok (.iconst 1, 1) := by decide +kernel
theorem d7_39 : decode prog_20_method_3_code 39 = .ok (.goto 4, 3) := by decide +kernel
set_option maxRecDepth 65536 in
set_option maxHeartbeats 40000000 in
theorem rm7 (l : Launch) (Z : State) (a0 : Array Value) (hw : ∀ d ∈ tables_1, d.before a0 Z = true) (a1 : Addr) (p1 u : Int32) (h0 : Heap) (n0 : Nat) (F : Fld Z h0 a1 "com/example/lean_lock/leanlock/Quorum" "servers" "I" (.int u)) (E : Exa Z h0 a1 "com/example/lean_lock/leanlock/Quorum") (q1 : ¬ p1 < (0 : Int32)) (q2 : ¬ u < p1) :
    OMeets l Z (⟨"com/example/lean_lock/leanlock/Quorum", "isMajority", "(I)Z"⟩ : MethodName) [] prog_20_method_3_code 2 (some .boolean) ({ frames := 1, cells := 0, slots := 0, locals := 13 } : Room) #[(.ref a1), (.int p1)] h0 n0 (fun v h => v = some (.int (if p1 < u / (2 : Int32) + (1 : Int32) then 0 else 1)) ∧ h0 = h) := by
  refine o_enter (Z := Z) (plainFor_of_name pn_com_example_lean_lock_leanlock_Quorum) ?_
  intro p e s m below meth c T0 X0
  refine OFin.cast (g' := (mkF m 0 #[.val (.ref a1), .val (.int p1)] [])) (by first | rfl | simp [entryFrame, mkF, argsToLocals, Value.category]) ?_
  refine X0.step (fun hA hx hq t k => XS.iloadN hA hx rfl (hb hq d7_0) rfl k) ?_
  show OFin _ _ _ _ _ _ _ _ T0 (mkF m 1 #[.val (.ref a1), .val (.int p1)] [(.int p1)])
  refine X0.step (fun hA hx hq t k => XS.ifNo hA hx rfl (hb hq d7_1) rfl ((if0 _ _).trans (flt (q1)).1) k) ?_
  show OFin _ _ _ _ _ _ _ _ T0 (mkF m 4 #[.val (.ref a1), .val (.int p1)] [])
  refine X0.step (fun hA hx hq t k => XS.iloadN hA hx rfl (hb hq d7_4) rfl k) ?_
  show OFin _ _ _ _ _ _ _ _ T0 (mkF m 5 #[.val (.ref a1), .val (.int p1)] [(.int p1)])
  refine X0.step (fun hA hx hq t k => XS.aloadN hA hx rfl (hb hq d7_5) rfl rfl k) ?_
  show OFin _ _ _ _ _ _ _ _ T0 (mkF m 6 #[.val (.ref a1), .val (.int p1)] [(.ref a1), (.int p1)])
  refine X0.getF (hw _ (List.mem_of_getElem? (i := 25) rfl)) F (g := (mkF m 6 #[.val (.ref a1), .val (.int p1)] [(.ref a1), (.int p1)])) rfl rfl d7_6 ?_
  intro T1 X1
  show OFin _ _ _ _ _ _ _ _ T1 (mkF m 9 #[.val (.ref a1), .val (.int p1)] [(.int u), (.int p1)])
  refine X1.step (fun hA hx hq t k => XS.icmpYes hA hx rfl (pc0 := 9) (pc' := 30) rfl (hb hq d7_9) rfl (flt (q2)).2.2.2 (by decide) (by decide) k) ?_
  show OFin _ _ _ _ _ _ _ _ T1 (mkF m 30 #[.val (.ref a1), .val (.int p1)] [])
  refine X1.step (fun hA hx hq t k => XS.iloadN hA hx rfl (hb hq d7_30) rfl k) ?_
  show OFin _ _ _ _ _ _ _ _ T1 (mkF m 31 #[.val (.ref a1), .val (.int p1)] [(.int p1)])
  refine X1.step (fun hA hx hq t k => XS.aloadN hA hx rfl (hb hq d7_31) rfl rfl k) ?_
  show OFin _ _ _ _ _ _ _ _ T1 (mkF m 32 #[.val (.ref a1), .val (.int p1)] [(.ref a1), (.int p1)])
  refine X1.callV (y' := (⟨"com/example/lean_lock/leanlock/Quorum", "majority", "()I"⟩ : MethodName)) (z' := (⟨"com/example/lean_lock/leanlock/Quorum", "majority", "()I"⟩ : MethodName)) (hw _ (List.mem_of_getElem? (i := 33) rfl)) (hw _ (List.mem_of_getElem? (i := 34) rfl)) (X1.notFace (hw _ (List.mem_of_getElem? (i := 36) rfl)) rfl) (hw _ (List.mem_of_getElem? (i := 36) rfl)) (hw _ (List.mem_of_getElem? (i := 35) rfl)) (hw _ (List.mem_of_getElem? (i := 13) rfl)) (hw _ (List.mem_of_getElem? (i := 37) rfl)) (by decide) E (argsL := []) (rest := [(.int p1)]) (rm8 l Z a0 hw a1 u h0 n0 F) (g := (mkF m 32 #[.val (.ref a1), .val (.int p1)] [(.ref a1), (.int p1)])) rfl rfl pd_pr_I rfl rfl (W := 1) (by show 2 * 0 + _ ≤ _; exact Nat.le_of_eq rfl) d7_32 (by decide) (by decide) (by decide) (by decide) ?_
  intro v2 T2 h2 X2 q2
  obtain ⟨rfl, rfl⟩ := q2
  show OFin _ _ _ _ _ _ _ _ T2 (mkF m 35 #[.val (.ref a1), .val (.int p1)] [(.int (u / (2 : Int32) + (1 : Int32))), (.int p1)])
  by_cases k1 : p1 < (u / (2 : Int32) + (1 : Int32))
  · refine X2.step (fun hA hx hq t k => XS.icmpYes hA hx rfl (pc0 := 35) (pc' := 42) rfl (hb hq d7_35) rfl (tlt (k1)).1 (by decide) (by decide) k) ?_
    show OFin _ _ _ _ _ _ _ _ T2 (mkF m 42 #[.val (.ref a1), .val (.int p1)] [])
    refine X2.step (fun hA hx hq t k => XS.iconst hA hx rfl (hb hq d7_42) k) ?_
    show OFin _ _ _ _ _ _ _ _ T2 (mkF m 43 #[.val (.ref a1), .val (.int p1)] [(.int (0 : Int32))])
    exact X2.retN (by simp) d7_43 (by decide) (by decide) (⟨by rw [if_pos k1]; rfl, rfl⟩)
  · refine X2.step (fun hA hx hq t k => XS.icmpNo hA hx rfl (hb hq d7_35) rfl (flt (k1)).1 k) ?_
    show OFin _ _ _ _ _ _ _ _ T2 (mkF m 38 #[.val (.ref a1), .val (.int p1)] [])
    refine X2.step (fun hA hx hq t k => XS.iconst hA hx rfl (hb hq d7_38) k) ?_
    show OFin _ _ _ _ _ _ _ _ T2 (mkF m 39 #[.val (.ref a1), .val (.int p1)] [(.int (1 : Int32))])
    refine X2.step (fun hA hx hq t k => XS.goto hA hx rfl (pc0 := 39) (pc' := 43) rfl (hb hq d7_39) (by decide) (by decide) k) ?_
    show OFin _ _ _ _ _ _ _ _ T2 (mkF m 43 #[.val (.ref a1), .val (.int p1)] [(.int (1 : Int32))])
    exact X2.retN (by simp) d7_43 (by decide) (by decide) (⟨by rw [if_neg k1]; rfl, rfl⟩)
theorem pn_com_example_lean_lock_leanlock_QuorumIsMajorityPinLaw : plainName "com/example/lean_lock/leanlock/QuorumIsMajorityPinLaw" = true := by first | (simp [plainName, overriddenIn]; done) | decide +kernel
theorem pd_pIIr_I : parseMethodDescriptor "(II)I" = some ⟨[.int, .int], some .int⟩ := by decide +kernel
theorem pd_pIr_V : parseMethodDescriptor "(I)V" = some ⟨[.int], none⟩ := by decide +kernel
theorem pd_pIr_Z : parseMethodDescriptor "(I)Z" = some ⟨[.int], some .boolean⟩ := by decide +kernel
theorem pd_pJJr_J : parseMethodDescriptor "(JJ)J" = some ⟨[.long, .long], some .long⟩ := by decide +kernel
set_option maxRecDepth 65536 in
set_option maxHeartbeats 40000000 in
theorem rm0 (l : Launch) (Z : State) (a0 : Array Value) (hw : ∀ d ∈ tables_1, d.before a0 Z = true) (ws : List Jvm.Cond) (p0 p1 p2 : Int32) (h0 : Heap) (n0 : Nat) (Z0 : n0 ≤ h0.size) :
    OMeets l Z x ws code maxLocals ret room_1 #[(.int p0), (.int p1), (.int p2)] h0 n0 (fun v h => v = some (.int 1)) := by
  refine o_enter (Z := Z) (plainFor_of_name pn_com_example_lean_lock_leanlock_QuorumIsMajorityPinLaw) ?_
  intro p e s m below meth c T0 X0
  refine OFin.cast (g' := (mkF m 0 #[.val (.int p0), .val (.int p1), .val (.int p2), .unset, .unset, .unset, .unset, .unset] [])) (by first | rfl | simp [entryFrame, mkF, argsToLocals, Value.category, maxLocals]) ?_
  have hs := own_max p0
  refine X0.step (fun hA hx hq t k => XS.iconst hA hx rfl (hb hq at_0) k) ?_
  show OFin _ _ _ _ _ _ _ _ T0 (mkF m 1 #[.val (.int p0), .val (.int p1), .val (.int p2), .unset, .unset, .unset, .unset, .unset] [(.int (1 : Int32))])
  refine X0.step (fun hA hx hq t k => XS.iloadN hA hx rfl (hb hq at_1) rfl k) ?_
  show OFin _ _ _ _ _ _ _ _ T0 (mkF m 2 #[.val (.int p0), .val (.int p1), .val (.int p2), .unset, .unset, .unset, .unset, .unset] [(.int p0), (.int (1 : Int32))])
  refine X0.ldcI (hw _ (List.mem_of_getElem? (i := 0) rfl)) (g := (mkF m 2 #[.val (.int p0), .val (.int p1), .val (.int p2), .unset, .unset, .unset, .unset, .unset] [(.int p0), (.int (1 : Int32))])) rfl at_2 ?_
  show OFin _ _ _ _ _ _ _ _ T0 (mkF m 4 #[.val (.int p0), .val (.int p1), .val (.int p2), .unset, .unset, .unset, .unset, .unset] [(.int (2147483647 : Int32)), (.int p0), (.int (1 : Int32))])
  refine X0.step (fun hA hx hq t k => XS.iand hA hx rfl (hb hq at_4) rfl k) ?_
  show OFin _ _ _ _ _ _ _ _ T0 (mkF m 5 #[.val (.int p0), .val (.int p1), .val (.int p2), .unset, .unset, .unset, .unset, .unset] [(.int (p0 &&& (2147483647 : Int32))), (.int (1 : Int32))])
  refine X0.callS (y' := (⟨"java/lang/Math", "max", "(II)I"⟩ : MethodName)) (hw _ (List.mem_of_getElem? (i := 1) rfl)) (hw _ (List.mem_of_getElem? (i := 2) rfl)) (hw _ (List.mem_of_getElem? (i := 3) rfl)) (hw _ (List.mem_of_getElem? (i := 4) rfl)) (by decide) (argsL := [(.int (1 : Int32)), (.int (p0 &&& (2147483647 : Int32)))]) (rest := []) (rm1 l Z a0 hw (1 : Int32) (p0 &&& (2147483647 : Int32)) h0 n0) (g := (mkF m 5 #[.val (.int p0), .val (.int p1), .val (.int p2), .unset, .unset, .unset, .unset, .unset] [(.int (p0 &&& (2147483647 : Int32))), (.int (1 : Int32))])) rfl rfl pd_pIIr_I rfl rfl (W := 0) (by show 2 * 0 + _ ≤ _; exact Nat.le_of_eq rfl) at_5 (by decide) (by decide) (by decide) (by decide) ?_
  intro v1 T1 h1 X1 q1
  obtain ⟨rfl, rfl⟩ := q1
  generalize (if (1 : Int32) < (p0 &&& (2147483647 : Int32)) then (p0 &&& (2147483647 : Int32)) else (1 : Int32)) = sv at hs ⊢
  show OFin _ _ _ _ _ _ _ _ T1 (mkF m 8 #[.val (.int p0), .val (.int p1), .val (.int p2), .unset, .unset, .unset, .unset, .unset] [(.int sv)])
  refine X1.step (fun hA hx hq t k => XS.istoreN hA hx rfl (hb hq at_8) rfl (l' := #[.val (.int p0), .val (.int p1), .val (.int p2), .val (.int sv), .unset, .unset, .unset, .unset]) rfl k) ?_
  show OFin _ _ _ _ _ _ _ _ T1 (mkF m 9 #[.val (.int p0), .val (.int p1), .val (.int p2), .val (.int sv), .unset, .unset, .unset, .unset] [])
  refine X1.step (fun hA hx hq t k => XS.iloadN hA hx rfl (hb hq at_9) rfl k) ?_
  show OFin _ _ _ _ _ _ _ _ T1 (mkF m 10 #[.val (.int p0), .val (.int p1), .val (.int p2), .val (.int sv), .unset, .unset, .unset, .unset] [(.int p2)])
  refine X1.step (fun hA hx hq t k => XS.iconst hA hx rfl (hb hq at_10) k) ?_
  show OFin _ _ _ _ _ _ _ _ T1 (mkF m 11 #[.val (.int p0), .val (.int p1), .val (.int p2), .val (.int sv), .unset, .unset, .unset, .unset] [(.int (3 : Int32)), (.int p2)])
  refine X1.step (fun hA hx hq t k => XS.iand hA hx rfl (hb hq at_11) rfl k) ?_
  show OFin _ _ _ _ _ _ _ _ T1 (mkF m 12 #[.val (.int p0), .val (.int p1), .val (.int p2), .val (.int sv), .unset, .unset, .unset, .unset] [(.int (p2 &&& (3 : Int32)))])
  refine X1.step (fun hA hx hq t k => XS.istore hA hx rfl (hb hq at_12) rfl (l' := #[.val (.int p0), .val (.int p1), .val (.int p2), .val (.int sv), .val (.int (p2 &&& (3 : Int32))), .unset, .unset, .unset]) rfl k) ?_
  show OFin _ _ _ _ _ _ _ _ T1 (mkF m 14 #[.val (.int p0), .val (.int p1), .val (.int p2), .val (.int sv), .val (.int (p2 &&& (3 : Int32))), .unset, .unset, .unset] [])
  refine X1.step (fun hA hx hq t k => XS.iload hA hx rfl (hb hq at_14) rfl k) ?_
  show OFin _ _ _ _ _ _ _ _ T1 (mkF m 16 #[.val (.int p0), .val (.int p1), .val (.int p2), .val (.int sv), .val (.int (p2 &&& (3 : Int32))), .unset, .unset, .unset] [(.int (p2 &&& (3 : Int32)))])
  by_cases k1 : (p2 &&& (3 : Int32)) = (0 : Int32)
  · refine X1.step (fun hA hx hq t k => XS.ifYes hA hx rfl (pc0 := 16) (pc' := 25) rfl (hb hq at_16) rfl ((if0 _ _).trans (teq (k1)).1) (by decide) (by decide) k) ?_
    show OFin _ _ _ _ _ _ _ _ T1 (mkF m 25 #[.val (.int p0), .val (.int p1), .val (.int p2), .val (.int sv), .val (.int (p2 &&& (3 : Int32))), .unset, .unset, .unset] [])
    have hc := own_c1 p1 sv hs
    refine X1.step (fun hA hx hq t k => XS.iloadN hA hx rfl (hb hq at_25) rfl k) ?_
    show OFin _ _ _ _ _ _ _ _ T1 (mkF m 26 #[.val (.int p0), .val (.int p1), .val (.int p2), .val (.int sv), .val (.int (p2 &&& (3 : Int32))), .unset, .unset, .unset] [(.int p1)])
    refine X1.step (fun hA hx hq t k => XS.i2l hA hx rfl (hb hq at_26) rfl k) ?_
    show OFin _ _ _ _ _ _ _ _ T1 (mkF m 27 #[.val (.int p0), .val (.int p1), .val (.int p2), .val (.int sv), .val (.int (p2 &&& (3 : Int32))), .unset, .unset, .unset] [(.long (p1.toInt64))])
    refine X1.ldcL (hw _ (List.mem_of_getElem? (i := 38) rfl)) (g := (mkF m 27 #[.val (.int p0), .val (.int p1), .val (.int p2), .val (.int sv), .val (.int (p2 &&& (3 : Int32))), .unset, .unset, .unset] [(.long (p1.toInt64))])) rfl at_27 ?_
    show OFin _ _ _ _ _ _ _ _ T1 (mkF m 30 #[.val (.int p0), .val (.int p1), .val (.int p2), .val (.int sv), .val (.int (p2 &&& (3 : Int32))), .unset, .unset, .unset] [(.long (4294967295 : Int64)), (.long (p1.toInt64))])
    refine X1.step (fun hA hx hq t k => XS.land hA hx rfl (hb hq at_30) rfl k) ?_
    show OFin _ _ _ _ _ _ _ _ T1 (mkF m 31 #[.val (.int p0), .val (.int p1), .val (.int p2), .val (.int sv), .val (.int (p2 &&& (3 : Int32))), .unset, .unset, .unset] [(.long ((p1.toInt64) &&& (4294967295 : Int64)))])
    refine X1.step (fun hA hx hq t k => XS.iloadN hA hx rfl (hb hq at_31) rfl k) ?_
    show OFin _ _ _ _ _ _ _ _ T1 (mkF m 32 #[.val (.int p0), .val (.int p1), .val (.int p2), .val (.int sv), .val (.int (p2 &&& (3 : Int32))), .unset, .unset, .unset] [(.int sv), (.long ((p1.toInt64) &&& (4294967295 : Int64)))])
    refine X1.step (fun hA hx hq t k => XS.i2l hA hx rfl (hb hq at_32) rfl k) ?_
    show OFin _ _ _ _ _ _ _ _ T1 (mkF m 33 #[.val (.int p0), .val (.int p1), .val (.int p2), .val (.int sv), .val (.int (p2 &&& (3 : Int32))), .unset, .unset, .unset] [(.long (sv.toInt64)), (.long ((p1.toInt64) &&& (4294967295 : Int64)))])
    refine X1.step (fun hA hx hq t k => XS.lconst hA hx rfl (hb hq at_33) k) ?_
    show OFin _ _ _ _ _ _ _ _ T1 (mkF m 34 #[.val (.int p0), .val (.int p1), .val (.int p2), .val (.int sv), .val (.int (p2 &&& (3 : Int32))), .unset, .unset, .unset] [(.long (1 : Int64)), (.long (sv.toInt64)), (.long ((p1.toInt64) &&& (4294967295 : Int64)))])
    refine X1.step (fun hA hx hq t k => XS.ladd hA hx rfl (hb hq at_34) rfl k) ?_
    show OFin _ _ _ _ _ _ _ _ T1 (mkF m 35 #[.val (.int p0), .val (.int p1), .val (.int p2), .val (.int sv), .val (.int (p2 &&& (3 : Int32))), .unset, .unset, .unset] [(.long ((sv.toInt64) + (1 : Int64))), (.long ((p1.toInt64) &&& (4294967295 : Int64)))])
    refine X1.step (fun hA hx hq t k => XS.lrem hA hx rfl (hb hq at_35) rfl hc.1 k) ?_
    show OFin _ _ _ _ _ _ _ _ T1 (mkF m 36 #[.val (.int p0), .val (.int p1), .val (.int p2), .val (.int sv), .val (.int (p2 &&& (3 : Int32))), .unset, .unset, .unset] [(.long (((p1.toInt64) &&& (4294967295 : Int64)) - (((p1.toInt64) &&& (4294967295 : Int64)) / ((sv.toInt64) + (1 : Int64))) * ((sv.toInt64) + (1 : Int64))))])
    refine X1.step (fun hA hx hq t k => XS.l2i hA hx rfl (hb hq at_36) rfl k) ?_
    show OFin _ _ _ _ _ _ _ _ T1 (mkF m 37 #[.val (.int p0), .val (.int p1), .val (.int p2), .val (.int sv), .val (.int (p2 &&& (3 : Int32))), .unset, .unset, .unset] [(.int ((((p1.toInt64) &&& (4294967295 : Int64)) - (((p1.toInt64) &&& (4294967295 : Int64)) / ((sv.toInt64) + (1 : Int64))) * ((sv.toInt64) + (1 : Int64))).toInt32))])
    refine X1.step (fun hA hx hq t k => XS.istore hA hx rfl (hb hq at_37) rfl (l' := #[.val (.int p0), .val (.int p1), .val (.int p2), .val (.int sv), .val (.int (p2 &&& (3 : Int32))), .val (.int ((((p1.toInt64) &&& (4294967295 : Int64)) - (((p1.toInt64) &&& (4294967295 : Int64)) / ((sv.toInt64) + (1 : Int64))) * ((sv.toInt64) + (1 : Int64))).toInt32)), .unset, .unset]) rfl k) ?_
    show OFin _ _ _ _ _ _ _ _ T1 (mkF m 39 #[.val (.int p0), .val (.int p1), .val (.int p2), .val (.int sv), .val (.int (p2 &&& (3 : Int32))), .val (.int ((((p1.toInt64) &&& (4294967295 : Int64)) - (((p1.toInt64) &&& (4294967295 : Int64)) / ((sv.toInt64) + (1 : Int64))) * ((sv.toInt64) + (1 : Int64))).toInt32)), .unset, .unset] [])
    refine X1.step (fun hA hx hq t k => XS.goto hA hx rfl (pc0 := 39) (pc' := 91) rfl (hb hq at_39) (by decide) (by decide) k) ?_
    show OFin _ _ _ _ _ _ _ _ T1 (mkF m 91 #[.val (.int p0), .val (.int p1), .val (.int p2), .val (.int sv), .val (.int (p2 &&& (3 : Int32))), .val (.int ((((p1.toInt64) &&& (4294967295 : Int64)) - (((p1.toInt64) &&& (4294967295 : Int64)) / ((sv.toInt64) + (1 : Int64))) * ((sv.toInt64) + (1 : Int64))).toInt32)), .unset, .unset] [])
    have hk := own_key (((p1.toInt64 &&& (4294967295 : Int64)) - ((p1.toInt64 &&& (4294967295 : Int64)) / (sv.toInt64 + (1 : Int64))) * (sv.toInt64 + (1 : Int64))).toInt32) sv hc.2.1 hc.2.2
    have g0 : ¬ (((p1.toInt64 &&& (4294967295 : Int64)) - ((p1.toInt64 &&& (4294967295 : Int64)) / (sv.toInt64 + (1 : Int64))) * (sv.toInt64 + (1 : Int64))).toInt32) < (0 : Int32) := by rw [Int32.lt_iff_toInt_lt]; have : (0 : Int32).toInt = 0 := (by decide); have := hc.2.1; omega
    have g1 : ¬ sv < (((p1.toInt64 &&& (4294967295 : Int64)) - ((p1.toInt64 &&& (4294967295 : Int64)) / (sv.toInt64 + (1 : Int64))) * (sv.toInt64 + (1 : Int64))).toInt32) := by rw [Int32.lt_iff_toInt_lt]; have := hc.2.2; omega
    have g2 : ¬ sv < (1 : Int32) := by rw [Int32.lt_iff_toInt_lt]; have : (1 : Int32).toInt = 1 := (by decide); omega
    refine X1.newO (hw _ (List.mem_of_getElem? (i := 11) rfl)) (hw _ (List.mem_of_getElem? (i := 12) rfl)) (hw _ (List.mem_of_getElem? (i := 13) rfl)) (g := (mkF m 91 #[.val (.int p0), .val (.int p1), .val (.int p2), .val (.int sv), .val (.int (p2 &&& (3 : Int32))), .val (.int ((((p1.toInt64) &&& (4294967295 : Int64)) - (((p1.toInt64) &&& (4294967295 : Int64)) / ((sv.toInt64) + (1 : Int64))) * ((sv.toInt64) + (1 : Int64))).toInt32)), .unset, .unset] [])) rfl at_91 (by decide) (by decide) ?_
    intro T2 h2 b2 gb2 X2 E2 A2 D2
    show OFin _ _ _ _ _ _ _ _ T2 (mkF m 94 #[.val (.int p0), .val (.int p1), .val (.int p2), .val (.int sv), .val (.int (p2 &&& (3 : Int32))), .val (.int ((((p1.toInt64) &&& (4294967295 : Int64)) - (((p1.toInt64) &&& (4294967295 : Int64)) / ((sv.toInt64) + (1 : Int64))) * ((sv.toInt64) + (1 : Int64))).toInt32)), .unset, .unset] [(.ref b2)])
    have F0 : Fld Z h2 b2 "com/example/lean_lock/leanlock/Quorum" "servers" "I" (.int (0 : Int32)) := D2 (Or.inr (hw _ (List.mem_of_getElem? (i := 26) rfl))) (ty := .int) (by decide)
    refine X2.step (fun hA hx hq t k => XS.dup hA hx rfl (hb hq at_94) rfl rfl k) ?_
    show OFin _ _ _ _ _ _ _ _ T2 (mkF m 95 #[.val (.int p0), .val (.int p1), .val (.int p2), .val (.int sv), .val (.int (p2 &&& (3 : Int32))), .val (.int ((((p1.toInt64) &&& (4294967295 : Int64)) - (((p1.toInt64) &&& (4294967295 : Int64)) / ((sv.toInt64) + (1 : Int64))) * ((sv.toInt64) + (1 : Int64))).toInt32)), .unset, .unset] [(.ref b2), (.ref b2)])
    refine X2.step (fun hA hx hq t k => XS.iloadN hA hx rfl (hb hq at_95) rfl k) ?_
    show OFin _ _ _ _ _ _ _ _ T2 (mkF m 96 #[.val (.int p0), .val (.int p1), .val (.int p2), .val (.int sv), .val (.int (p2 &&& (3 : Int32))), .val (.int ((((p1.toInt64) &&& (4294967295 : Int64)) - (((p1.toInt64) &&& (4294967295 : Int64)) / ((sv.toInt64) + (1 : Int64))) * ((sv.toInt64) + (1 : Int64))).toInt32)), .unset, .unset] [(.int sv), (.ref b2), (.ref b2)])
    refine X2.callI (y' := (⟨"com/example/lean_lock/leanlock/Quorum", "<init>", "(I)V"⟩ : MethodName)) rfl (hw _ (List.mem_of_getElem? (i := 14) rfl)) (hw _ (List.mem_of_getElem? (i := 15) rfl)) (hw _ (List.mem_of_getElem? (i := 13) rfl)) (hw _ (List.mem_of_getElem? (i := 16) rfl)) (by decide) (a := b2) (argsL := [(.int sv)]) (rest := [(.ref b2)]) (rm4 l Z a0 hw b2 sv 0 h2 n0 F0 A2 (by rw [gb2]; exact Z0) g2) (g := (mkF m 96 #[.val (.int p0), .val (.int p1), .val (.int p2), .val (.int sv), .val (.int (p2 &&& (3 : Int32))), .val (.int ((((p1.toInt64) &&& (4294967295 : Int64)) - (((p1.toInt64) &&& (4294967295 : Int64)) / ((sv.toInt64) + (1 : Int64))) * ((sv.toInt64) + (1 : Int64))).toInt32)), .unset, .unset] [(.int sv), (.ref b2), (.ref b2)])) rfl rfl pd_pIr_V rfl rfl (W := 1) (by show 2 * 0 + _ ≤ _; exact Nat.le_of_eq rfl) at_96 (by decide) (by decide) (by decide) (by decide) ?_
    intro v3 T3 h3 X3 q3
    obtain ⟨rfl, K3, E3, F3⟩ := q3
    show OFin _ _ _ _ _ _ _ _ T3 (mkF m 99 #[.val (.int p0), .val (.int p1), .val (.int p2), .val (.int sv), .val (.int (p2 &&& (3 : Int32))), .val (.int ((((p1.toInt64) &&& (4294967295 : Int64)) - (((p1.toInt64) &&& (4294967295 : Int64)) / ((sv.toInt64) + (1 : Int64))) * ((sv.toInt64) + (1 : Int64))).toInt32)), .unset, .unset] [(.ref b2)])
    refine X3.step (fun hA hx hq t k => XS.astore hA hx rfl (hb hq at_99) rfl rfl (l' := #[.val (.int p0), .val (.int p1), .val (.int p2), .val (.int sv), .val (.int (p2 &&& (3 : Int32))), .val (.int ((((p1.toInt64) &&& (4294967295 : Int64)) - (((p1.toInt64) &&& (4294967295 : Int64)) / ((sv.toInt64) + (1 : Int64))) * ((sv.toInt64) + (1 : Int64))).toInt32)), .val (.ref b2), .unset]) rfl k) ?_
    show OFin _ _ _ _ _ _ _ _ T3 (mkF m 101 #[.val (.int p0), .val (.int p1), .val (.int p2), .val (.int sv), .val (.int (p2 &&& (3 : Int32))), .val (.int ((((p1.toInt64) &&& (4294967295 : Int64)) - (((p1.toInt64) &&& (4294967295 : Int64)) / ((sv.toInt64) + (1 : Int64))) * ((sv.toInt64) + (1 : Int64))).toInt32)), .val (.ref b2), .unset] [])
    refine X3.ldcL (hw _ (List.mem_of_getElem? (i := 27) rfl)) (g := (mkF m 101 #[.val (.int p0), .val (.int p1), .val (.int p2), .val (.int sv), .val (.int (p2 &&& (3 : Int32))), .val (.int ((((p1.toInt64) &&& (4294967295 : Int64)) - (((p1.toInt64) &&& (4294967295 : Int64)) / ((sv.toInt64) + (1 : Int64))) * ((sv.toInt64) + (1 : Int64))).toInt32)), .val (.ref b2), .unset] [])) rfl at_101 ?_
    show OFin _ _ _ _ _ _ _ _ T3 (mkF m 104 #[.val (.int p0), .val (.int p1), .val (.int p2), .val (.int sv), .val (.int (p2 &&& (3 : Int32))), .val (.int ((((p1.toInt64) &&& (4294967295 : Int64)) - (((p1.toInt64) &&& (4294967295 : Int64)) / ((sv.toInt64) + (1 : Int64))) * ((sv.toInt64) + (1 : Int64))).toInt32)), .val (.ref b2), .unset] [(.long (2 : Int64))])
    refine X3.step (fun hA hx hq t k => XS.iload hA hx rfl (hb hq at_104) rfl k) ?_
    show OFin _ _ _ _ _ _ _ _ T3 (mkF m 106 #[.val (.int p0), .val (.int p1), .val (.int p2), .val (.int sv), .val (.int (p2 &&& (3 : Int32))), .val (.int ((((p1.toInt64) &&& (4294967295 : Int64)) - (((p1.toInt64) &&& (4294967295 : Int64)) / ((sv.toInt64) + (1 : Int64))) * ((sv.toInt64) + (1 : Int64))).toInt32)), .val (.ref b2), .unset] [(.int ((((p1.toInt64) &&& (4294967295 : Int64)) - (((p1.toInt64) &&& (4294967295 : Int64)) / ((sv.toInt64) + (1 : Int64))) * ((sv.toInt64) + (1 : Int64))).toInt32)), (.long (2 : Int64))])
    refine X3.step (fun hA hx hq t k => XS.i2l hA hx rfl (hb hq at_106) rfl k) ?_
    show OFin _ _ _ _ _ _ _ _ T3 (mkF m 107 #[.val (.int p0), .val (.int p1), .val (.int p2), .val (.int sv), .val (.int (p2 &&& (3 : Int32))), .val (.int ((((p1.toInt64) &&& (4294967295 : Int64)) - (((p1.toInt64) &&& (4294967295 : Int64)) / ((sv.toInt64) + (1 : Int64))) * ((sv.toInt64) + (1 : Int64))).toInt32)), .val (.ref b2), .unset] [(.long (((((p1.toInt64) &&& (4294967295 : Int64)) - (((p1.toInt64) &&& (4294967295 : Int64)) / ((sv.toInt64) + (1 : Int64))) * ((sv.toInt64) + (1 : Int64))).toInt32).toInt64)), (.long (2 : Int64))])
    refine X3.step (fun hA hx hq t k => XS.lmul hA hx rfl (hb hq at_107) rfl k) ?_
    show OFin _ _ _ _ _ _ _ _ T3 (mkF m 108 #[.val (.int p0), .val (.int p1), .val (.int p2), .val (.int sv), .val (.int (p2 &&& (3 : Int32))), .val (.int ((((p1.toInt64) &&& (4294967295 : Int64)) - (((p1.toInt64) &&& (4294967295 : Int64)) / ((sv.toInt64) + (1 : Int64))) * ((sv.toInt64) + (1 : Int64))).toInt32)), .val (.ref b2), .unset] [(.long ((2 : Int64) * (((((p1.toInt64) &&& (4294967295 : Int64)) - (((p1.toInt64) &&& (4294967295 : Int64)) / ((sv.toInt64) + (1 : Int64))) * ((sv.toInt64) + (1 : Int64))).toInt32).toInt64)))])
    refine X3.step (fun hA hx hq t k => XS.iloadN hA hx rfl (hb hq at_108) rfl k) ?_
    show OFin _ _ _ _ _ _ _ _ T3 (mkF m 109 #[.val (.int p0), .val (.int p1), .val (.int p2), .val (.int sv), .val (.int (p2 &&& (3 : Int32))), .val (.int ((((p1.toInt64) &&& (4294967295 : Int64)) - (((p1.toInt64) &&& (4294967295 : Int64)) / ((sv.toInt64) + (1 : Int64))) * ((sv.toInt64) + (1 : Int64))).toInt32)), .val (.ref b2), .unset] [(.int sv), (.long ((2 : Int64) * (((((p1.toInt64) &&& (4294967295 : Int64)) - (((p1.toInt64) &&& (4294967295 : Int64)) / ((sv.toInt64) + (1 : Int64))) * ((sv.toInt64) + (1 : Int64))).toInt32).toInt64)))])
    refine X3.step (fun hA hx hq t k => XS.i2l hA hx rfl (hb hq at_109) rfl k) ?_
    show OFin _ _ _ _ _ _ _ _ T3 (mkF m 110 #[.val (.int p0), .val (.int p1), .val (.int p2), .val (.int sv), .val (.int (p2 &&& (3 : Int32))), .val (.int ((((p1.toInt64) &&& (4294967295 : Int64)) - (((p1.toInt64) &&& (4294967295 : Int64)) / ((sv.toInt64) + (1 : Int64))) * ((sv.toInt64) + (1 : Int64))).toInt32)), .val (.ref b2), .unset] [(.long (sv.toInt64)), (.long ((2 : Int64) * (((((p1.toInt64) &&& (4294967295 : Int64)) - (((p1.toInt64) &&& (4294967295 : Int64)) / ((sv.toInt64) + (1 : Int64))) * ((sv.toInt64) + (1 : Int64))).toInt32).toInt64)))])
    refine X3.step (fun hA hx hq t k => XS.lcmp hA hx rfl (hb hq at_110) rfl k) ?_
    show OFin _ _ _ _ _ _ _ _ T3 (mkF m 111 #[.val (.int p0), .val (.int p1), .val (.int p2), .val (.int sv), .val (.int (p2 &&& (3 : Int32))), .val (.int ((((p1.toInt64) &&& (4294967295 : Int64)) - (((p1.toInt64) &&& (4294967295 : Int64)) / ((sv.toInt64) + (1 : Int64))) * ((sv.toInt64) + (1 : Int64))).toInt32)), .val (.ref b2), .unset] [(.int (lcmpW ((2 : Int64) * (((((p1.toInt64) &&& (4294967295 : Int64)) - (((p1.toInt64) &&& (4294967295 : Int64)) / ((sv.toInt64) + (1 : Int64))) * ((sv.toInt64) + (1 : Int64))).toInt32).toInt64)) (sv.toInt64)))])
    by_cases k9 : (0 : Int32) < (lcmpW ((2 : Int64) * (((((p1.toInt64) &&& (4294967295 : Int64)) - (((p1.toInt64) &&& (4294967295 : Int64)) / ((sv.toInt64) + (1 : Int64))) * ((sv.toInt64) + (1 : Int64))).toInt32).toInt64)) (sv.toInt64))
    · refine X3.step (fun hA hx hq t k => XS.ifNo hA hx rfl (hb hq at_111) rfl ((if0 _ _).trans (tlt (k9)).2.2.2) k) ?_
      show OFin _ _ _ _ _ _ _ _ T3 (mkF m 114 #[.val (.int p0), .val (.int p1), .val (.int p2), .val (.int sv), .val (.int (p2 &&& (3 : Int32))), .val (.int ((((p1.toInt64) &&& (4294967295 : Int64)) - (((p1.toInt64) &&& (4294967295 : Int64)) / ((sv.toInt64) + (1 : Int64))) * ((sv.toInt64) + (1 : Int64))).toInt32)), .val (.ref b2), .unset] [])
      refine X3.step (fun hA hx hq t k => XS.iconst hA hx rfl (hb hq at_114) k) ?_
      show OFin _ _ _ _ _ _ _ _ T3 (mkF m 115 #[.val (.int p0), .val (.int p1), .val (.int p2), .val (.int sv), .val (.int (p2 &&& (3 : Int32))), .val (.int ((((p1.toInt64) &&& (4294967295 : Int64)) - (((p1.toInt64) &&& (4294967295 : Int64)) / ((sv.toInt64) + (1 : Int64))) * ((sv.toInt64) + (1 : Int64))).toInt32)), .val (.ref b2), .unset] [(.int (1 : Int32))])
      refine X3.step (fun hA hx hq t k => XS.goto hA hx rfl (pc0 := 115) (pc' := 119) rfl (hb hq at_115) (by decide) (by decide) k) ?_
      show OFin _ _ _ _ _ _ _ _ T3 (mkF m 119 #[.val (.int p0), .val (.int p1), .val (.int p2), .val (.int sv), .val (.int (p2 &&& (3 : Int32))), .val (.int ((((p1.toInt64) &&& (4294967295 : Int64)) - (((p1.toInt64) &&& (4294967295 : Int64)) / ((sv.toInt64) + (1 : Int64))) * ((sv.toInt64) + (1 : Int64))).toInt32)), .val (.ref b2), .unset] [(.int (1 : Int32))])
      refine X3.step (fun hA hx hq t k => XS.istore hA hx rfl (hb hq at_119) rfl (l' := #[.val (.int p0), .val (.int p1), .val (.int p2), .val (.int sv), .val (.int (p2 &&& (3 : Int32))), .val (.int ((((p1.toInt64) &&& (4294967295 : Int64)) - (((p1.toInt64) &&& (4294967295 : Int64)) / ((sv.toInt64) + (1 : Int64))) * ((sv.toInt64) + (1 : Int64))).toInt32)), .val (.ref b2), .val (.int (1 : Int32))]) rfl k) ?_
      show OFin _ _ _ _ _ _ _ _ T3 (mkF m 121 #[.val (.int p0), .val (.int p1), .val (.int p2), .val (.int sv), .val (.int (p2 &&& (3 : Int32))), .val (.int ((((p1.toInt64) &&& (4294967295 : Int64)) - (((p1.toInt64) &&& (4294967295 : Int64)) / ((sv.toInt64) + (1 : Int64))) * ((sv.toInt64) + (1 : Int64))).toInt32)), .val (.ref b2), .val (.int (1 : Int32))] [])
      refine X3.step (fun hA hx hq t k => XS.aload hA hx rfl (hb hq at_121) rfl rfl k) ?_
      show OFin _ _ _ _ _ _ _ _ T3 (mkF m 123 #[.val (.int p0), .val (.int p1), .val (.int p2), .val (.int sv), .val (.int (p2 &&& (3 : Int32))), .val (.int ((((p1.toInt64) &&& (4294967295 : Int64)) - (((p1.toInt64) &&& (4294967295 : Int64)) / ((sv.toInt64) + (1 : Int64))) * ((sv.toInt64) + (1 : Int64))).toInt32)), .val (.ref b2), .val (.int (1 : Int32))] [(.ref b2)])
      refine X3.step (fun hA hx hq t k => XS.iload hA hx rfl (hb hq at_123) rfl k) ?_
      show OFin _ _ _ _ _ _ _ _ T3 (mkF m 125 #[.val (.int p0), .val (.int p1), .val (.int p2), .val (.int sv), .val (.int (p2 &&& (3 : Int32))), .val (.int ((((p1.toInt64) &&& (4294967295 : Int64)) - (((p1.toInt64) &&& (4294967295 : Int64)) / ((sv.toInt64) + (1 : Int64))) * ((sv.toInt64) + (1 : Int64))).toInt32)), .val (.ref b2), .val (.int (1 : Int32))] [(.int ((((p1.toInt64) &&& (4294967295 : Int64)) - (((p1.toInt64) &&& (4294967295 : Int64)) / ((sv.toInt64) + (1 : Int64))) * ((sv.toInt64) + (1 : Int64))).toInt32)), (.ref b2)])
      refine X3.callV (y' := (⟨"com/example/lean_lock/leanlock/Quorum", "isMajority", "(I)Z"⟩ : MethodName)) (z' := (⟨"com/example/lean_lock/leanlock/Quorum", "isMajority", "(I)Z"⟩ : MethodName)) (hw _ (List.mem_of_getElem? (i := 28) rfl)) (hw _ (List.mem_of_getElem? (i := 29) rfl)) (X3.notFace (hw _ (List.mem_of_getElem? (i := 31) rfl)) rfl) (hw _ (List.mem_of_getElem? (i := 31) rfl)) (hw _ (List.mem_of_getElem? (i := 30) rfl)) (hw _ (List.mem_of_getElem? (i := 13) rfl)) (hw _ (List.mem_of_getElem? (i := 32) rfl)) (by decide) E3 (argsL := [(.int ((((p1.toInt64) &&& (4294967295 : Int64)) - (((p1.toInt64) &&& (4294967295 : Int64)) / ((sv.toInt64) + (1 : Int64))) * ((sv.toInt64) + (1 : Int64))).toInt32))]) (rest := []) (rm7 l Z a0 hw b2 (((p1.toInt64 &&& (4294967295 : Int64)) - ((p1.toInt64 &&& (4294967295 : Int64)) / (sv.toInt64 + (1 : Int64))) * (sv.toInt64 + (1 : Int64))).toInt32) sv h3 n0 F3 E3 g0 g1) (g := (mkF m 125 #[.val (.int p0), .val (.int p1), .val (.int p2), .val (.int sv), .val (.int (p2 &&& (3 : Int32))), .val (.int ((((p1.toInt64) &&& (4294967295 : Int64)) - (((p1.toInt64) &&& (4294967295 : Int64)) / ((sv.toInt64) + (1 : Int64))) * ((sv.toInt64) + (1 : Int64))).toInt32)), .val (.ref b2), .val (.int (1 : Int32))] [(.int ((((p1.toInt64) &&& (4294967295 : Int64)) - (((p1.toInt64) &&& (4294967295 : Int64)) / ((sv.toInt64) + (1 : Int64))) * ((sv.toInt64) + (1 : Int64))).toInt32)), (.ref b2)])) rfl rfl pd_pIr_Z rfl rfl (W := 0) (by show 2 * 0 + _ ≤ _; exact Nat.le_of_eq rfl) at_125 (by decide) (by decide) (by decide) (by decide) ?_
      intro v5 T5 h5 X5 q5
      obtain ⟨rfl, rfl⟩ := q5
      show OFin _ _ _ _ _ _ _ _ T5 (mkF m 128 #[.val (.int p0), .val (.int p1), .val (.int p2), .val (.int sv), .val (.int (p2 &&& (3 : Int32))), .val (.int ((((p1.toInt64) &&& (4294967295 : Int64)) - (((p1.toInt64) &&& (4294967295 : Int64)) / ((sv.toInt64) + (1 : Int64))) * ((sv.toInt64) + (1 : Int64))).toInt32)), .val (.ref b2), .val (.int (1 : Int32))] [(.int (if (((p1.toInt64 &&& (4294967295 : Int64)) - ((p1.toInt64 &&& (4294967295 : Int64)) / (sv.toInt64 + (1 : Int64))) * (sv.toInt64 + (1 : Int64))).toInt32) < sv / (2 : Int32) + (1 : Int32) then 0 else 1 : Int32))])
      refine X5.step (fun hA hx hq t k => XS.iload hA hx rfl (hb hq at_128) rfl k) ?_
      show OFin _ _ _ _ _ _ _ _ T5 (mkF m 130 #[.val (.int p0), .val (.int p1), .val (.int p2), .val (.int sv), .val (.int (p2 &&& (3 : Int32))), .val (.int ((((p1.toInt64) &&& (4294967295 : Int64)) - (((p1.toInt64) &&& (4294967295 : Int64)) / ((sv.toInt64) + (1 : Int64))) * ((sv.toInt64) + (1 : Int64))).toInt32)), .val (.ref b2), .val (.int (1 : Int32))] [(.int (1 : Int32)), (.int (if (((p1.toInt64 &&& (4294967295 : Int64)) - ((p1.toInt64 &&& (4294967295 : Int64)) / (sv.toInt64 + (1 : Int64))) * (sv.toInt64 + (1 : Int64))).toInt32) < sv / (2 : Int32) + (1 : Int32) then 0 else 1 : Int32))])
      refine X5.step (fun hA hx hq t k => XS.icmpNo hA hx rfl (hb hq at_130) rfl (teq (if_neg (hk.mp k9))).2 k) ?_
      show OFin _ _ _ _ _ _ _ _ T5 (mkF m 133 #[.val (.int p0), .val (.int p1), .val (.int p2), .val (.int sv), .val (.int (p2 &&& (3 : Int32))), .val (.int ((((p1.toInt64) &&& (4294967295 : Int64)) - (((p1.toInt64) &&& (4294967295 : Int64)) / ((sv.toInt64) + (1 : Int64))) * ((sv.toInt64) + (1 : Int64))).toInt32)), .val (.ref b2), .val (.int (1 : Int32))] [])
      refine X5.step (fun hA hx hq t k => XS.iconst hA hx rfl (hb hq at_133) k) ?_
      show OFin _ _ _ _ _ _ _ _ T5 (mkF m 134 #[.val (.int p0), .val (.int p1), .val (.int p2), .val (.int sv), .val (.int (p2 &&& (3 : Int32))), .val (.int ((((p1.toInt64) &&& (4294967295 : Int64)) - (((p1.toInt64) &&& (4294967295 : Int64)) / ((sv.toInt64) + (1 : Int64))) * ((sv.toInt64) + (1 : Int64))).toInt32)), .val (.ref b2), .val (.int (1 : Int32))] [(.int (1 : Int32))])
      refine X5.step (fun hA hx hq t k => XS.goto hA hx rfl (pc0 := 134) (pc' := 138) rfl (hb hq at_134) (by decide) (by decide) k) ?_
      show OFin _ _ _ _ _ _ _ _ T5 (mkF m 138 #[.val (.int p0), .val (.int p1), .val (.int p2), .val (.int sv), .val (.int (p2 &&& (3 : Int32))), .val (.int ((((p1.toInt64) &&& (4294967295 : Int64)) - (((p1.toInt64) &&& (4294967295 : Int64)) / ((sv.toInt64) + (1 : Int64))) * ((sv.toInt64) + (1 : Int64))).toInt32)), .val (.ref b2), .val (.int (1 : Int32))] [(.int (1 : Int32))])
      exact X5.retN (by simp) at_138 (by decide) (by decide) (rfl)
    · refine X3.step (fun hA hx hq t k => XS.ifYes hA hx rfl (pc0 := 111) (pc' := 118) rfl (hb hq at_111) rfl ((if0 _ _).trans (flt (k9)).2.2.2) (by decide) (by decide) k) ?_
      show OFin _ _ _ _ _ _ _ _ T3 (mkF m 118 #[.val (.int p0), .val (.int p1), .val (.int p2), .val (.int sv), .val (.int (p2 &&& (3 : Int32))), .val (.int ((((p1.toInt64) &&& (4294967295 : Int64)) - (((p1.toInt64) &&& (4294967295 : Int64)) / ((sv.toInt64) + (1 : Int64))) * ((sv.toInt64) + (1 : Int64))).toInt32)), .val (.ref b2), .unset] [])
      refine X3.step (fun hA hx hq t k => XS.iconst hA hx rfl (hb hq at_118) k) ?_
      show OFin _ _ _ _ _ _ _ _ T3 (mkF m 119 #[.val (.int p0), .val (.int p1), .val (.int p2), .val (.int sv), .val (.int (p2 &&& (3 : Int32))), .val (.int ((((p1.toInt64) &&& (4294967295 : Int64)) - (((p1.toInt64) &&& (4294967295 : Int64)) / ((sv.toInt64) + (1 : Int64))) * ((sv.toInt64) + (1 : Int64))).toInt32)), .val (.ref b2), .unset] [(.int (0 : Int32))])
      refine X3.step (fun hA hx hq t k => XS.istore hA hx rfl (hb hq at_119) rfl (l' := #[.val (.int p0), .val (.int p1), .val (.int p2), .val (.int sv), .val (.int (p2 &&& (3 : Int32))), .val (.int ((((p1.toInt64) &&& (4294967295 : Int64)) - (((p1.toInt64) &&& (4294967295 : Int64)) / ((sv.toInt64) + (1 : Int64))) * ((sv.toInt64) + (1 : Int64))).toInt32)), .val (.ref b2), .val (.int (0 : Int32))]) rfl k) ?_
      show OFin _ _ _ _ _ _ _ _ T3 (mkF m 121 #[.val (.int p0), .val (.int p1), .val (.int p2), .val (.int sv), .val (.int (p2 &&& (3 : Int32))), .val (.int ((((p1.toInt64) &&& (4294967295 : Int64)) - (((p1.toInt64) &&& (4294967295 : Int64)) / ((sv.toInt64) + (1 : Int64))) * ((sv.toInt64) + (1 : Int64))).toInt32)), .val (.ref b2), .val (.int (0 : Int32))] [])
      refine X3.step (fun hA hx hq t k => XS.aload hA hx rfl (hb hq at_121) rfl rfl k) ?_
      show OFin _ _ _ _ _ _ _ _ T3 (mkF m 123 #[.val (.int p0), .val (.int p1), .val (.int p2), .val (.int sv), .val (.int (p2 &&& (3 : Int32))), .val (.int ((((p1.toInt64) &&& (4294967295 : Int64)) - (((p1.toInt64) &&& (4294967295 : Int64)) / ((sv.toInt64) + (1 : Int64))) * ((sv.toInt64) + (1 : Int64))).toInt32)), .val (.ref b2), .val (.int (0 : Int32))] [(.ref b2)])
      refine X3.step (fun hA hx hq t k => XS.iload hA hx rfl (hb hq at_123) rfl k) ?_
      show OFin _ _ _ _ _ _ _ _ T3 (mkF m 125 #[.val (.int p0), .val (.int p1), .val (.int p2), .val (.int sv), .val (.int (p2 &&& (3 : Int32))), .val (.int ((((p1.toInt64) &&& (4294967295 : Int64)) - (((p1.toInt64) &&& (4294967295 : Int64)) / ((sv.toInt64) + (1 : Int64))) * ((sv.toInt64) + (1 : Int64))).toInt32)), .val (.ref b2), .val (.int (0 : Int32))] [(.int ((((p1.toInt64) &&& (4294967295 : Int64)) - (((p1.toInt64) &&& (4294967295 : Int64)) / ((sv.toInt64) + (1 : Int64))) * ((sv.toInt64) + (1 : Int64))).toInt32)), (.ref b2)])
      refine X3.callV (y' := (⟨"com/example/lean_lock/leanlock/Quorum", "isMajority", "(I)Z"⟩ : MethodName)) (z' := (⟨"com/example/lean_lock/leanlock/Quorum", "isMajority", "(I)Z"⟩ : MethodName)) (hw _ (List.mem_of_getElem? (i := 28) rfl)) (hw _ (List.mem_of_getElem? (i := 29) rfl)) (X3.notFace (hw _ (List.mem_of_getElem? (i := 31) rfl)) rfl) (hw _ (List.mem_of_getElem? (i := 31) rfl)) (hw _ (List.mem_of_getElem? (i := 30) rfl)) (hw _ (List.mem_of_getElem? (i := 13) rfl)) (hw _ (List.mem_of_getElem? (i := 32) rfl)) (by decide) E3 (argsL := [(.int ((((p1.toInt64) &&& (4294967295 : Int64)) - (((p1.toInt64) &&& (4294967295 : Int64)) / ((sv.toInt64) + (1 : Int64))) * ((sv.toInt64) + (1 : Int64))).toInt32))]) (rest := []) (rm7 l Z a0 hw b2 (((p1.toInt64 &&& (4294967295 : Int64)) - ((p1.toInt64 &&& (4294967295 : Int64)) / (sv.toInt64 + (1 : Int64))) * (sv.toInt64 + (1 : Int64))).toInt32) sv h3 n0 F3 E3 g0 g1) (g := (mkF m 125 #[.val (.int p0), .val (.int p1), .val (.int p2), .val (.int sv), .val (.int (p2 &&& (3 : Int32))), .val (.int ((((p1.toInt64) &&& (4294967295 : Int64)) - (((p1.toInt64) &&& (4294967295 : Int64)) / ((sv.toInt64) + (1 : Int64))) * ((sv.toInt64) + (1 : Int64))).toInt32)), .val (.ref b2), .val (.int (0 : Int32))] [(.int ((((p1.toInt64) &&& (4294967295 : Int64)) - (((p1.toInt64) &&& (4294967295 : Int64)) / ((sv.toInt64) + (1 : Int64))) * ((sv.toInt64) + (1 : Int64))).toInt32)), (.ref b2)])) rfl rfl pd_pIr_Z rfl rfl (W := 0) (by show 2 * 0 + _ ≤ _; exact Nat.le_of_eq rfl) at_125 (by decide) (by decide) (by decide) (by decide) ?_
      intro v4 T4 h4 X4 q4
      obtain ⟨rfl, rfl⟩ := q4
      show OFin _ _ _ _ _ _ _ _ T4 (mkF m 128 #[.val (.int p0), .val (.int p1), .val (.int p2), .val (.int sv), .val (.int (p2 &&& (3 : Int32))), .val (.int ((((p1.toInt64) &&& (4294967295 : Int64)) - (((p1.toInt64) &&& (4294967295 : Int64)) / ((sv.toInt64) + (1 : Int64))) * ((sv.toInt64) + (1 : Int64))).toInt32)), .val (.ref b2), .val (.int (0 : Int32))] [(.int (if (((p1.toInt64 &&& (4294967295 : Int64)) - ((p1.toInt64 &&& (4294967295 : Int64)) / (sv.toInt64 + (1 : Int64))) * (sv.toInt64 + (1 : Int64))).toInt32) < sv / (2 : Int32) + (1 : Int32) then 0 else 1 : Int32))])
      refine X4.step (fun hA hx hq t k => XS.iload hA hx rfl (hb hq at_128) rfl k) ?_
      show OFin _ _ _ _ _ _ _ _ T4 (mkF m 130 #[.val (.int p0), .val (.int p1), .val (.int p2), .val (.int sv), .val (.int (p2 &&& (3 : Int32))), .val (.int ((((p1.toInt64) &&& (4294967295 : Int64)) - (((p1.toInt64) &&& (4294967295 : Int64)) / ((sv.toInt64) + (1 : Int64))) * ((sv.toInt64) + (1 : Int64))).toInt32)), .val (.ref b2), .val (.int (0 : Int32))] [(.int (0 : Int32)), (.int (if (((p1.toInt64 &&& (4294967295 : Int64)) - ((p1.toInt64 &&& (4294967295 : Int64)) / (sv.toInt64 + (1 : Int64))) * (sv.toInt64 + (1 : Int64))).toInt32) < sv / (2 : Int32) + (1 : Int32) then 0 else 1 : Int32))])
      refine X4.step (fun hA hx hq t k => XS.icmpNo hA hx rfl (hb hq at_130) rfl (teq (if_pos (Decidable.not_not.mp fun q => k9 (hk.mpr q)))).2 k) ?_
      show OFin _ _ _ _ _ _ _ _ T4 (mkF m 133 #[.val (.int p0), .val (.int p1), .val (.int p2), .val (.int sv), .val (.int (p2 &&& (3 : Int32))), .val (.int ((((p1.toInt64) &&& (4294967295 : Int64)) - (((p1.toInt64) &&& (4294967295 : Int64)) / ((sv.toInt64) + (1 : Int64))) * ((sv.toInt64) + (1 : Int64))).toInt32)), .val (.ref b2), .val (.int (0 : Int32))] [])
      refine X4.step (fun hA hx hq t k => XS.iconst hA hx rfl (hb hq at_133) k) ?_
      show OFin _ _ _ _ _ _ _ _ T4 (mkF m 134 #[.val (.int p0), .val (.int p1), .val (.int p2), .val (.int sv), .val (.int (p2 &&& (3 : Int32))), .val (.int ((((p1.toInt64) &&& (4294967295 : Int64)) - (((p1.toInt64) &&& (4294967295 : Int64)) / ((sv.toInt64) + (1 : Int64))) * ((sv.toInt64) + (1 : Int64))).toInt32)), .val (.ref b2), .val (.int (0 : Int32))] [(.int (1 : Int32))])
      refine X4.step (fun hA hx hq t k => XS.goto hA hx rfl (pc0 := 134) (pc' := 138) rfl (hb hq at_134) (by decide) (by decide) k) ?_
      show OFin _ _ _ _ _ _ _ _ T4 (mkF m 138 #[.val (.int p0), .val (.int p1), .val (.int p2), .val (.int sv), .val (.int (p2 &&& (3 : Int32))), .val (.int ((((p1.toInt64) &&& (4294967295 : Int64)) - (((p1.toInt64) &&& (4294967295 : Int64)) / ((sv.toInt64) + (1 : Int64))) * ((sv.toInt64) + (1 : Int64))).toInt32)), .val (.ref b2), .val (.int (0 : Int32))] [(.int (1 : Int32))])
      exact X4.retN (by simp) at_138 (by decide) (by decide) (rfl)
  · refine X1.step (fun hA hx hq t k => XS.ifNo hA hx rfl (hb hq at_16) rfl ((if0 _ _).trans (feq (k1)).1) k) ?_
    show OFin _ _ _ _ _ _ _ _ T1 (mkF m 19 #[.val (.int p0), .val (.int p1), .val (.int p2), .val (.int sv), .val (.int (p2 &&& (3 : Int32))), .unset, .unset, .unset] [])
    refine X1.step (fun hA hx hq t k => XS.iload hA hx rfl (hb hq at_19) rfl k) ?_
    show OFin _ _ _ _ _ _ _ _ T1 (mkF m 21 #[.val (.int p0), .val (.int p1), .val (.int p2), .val (.int sv), .val (.int (p2 &&& (3 : Int32))), .unset, .unset, .unset] [(.int (p2 &&& (3 : Int32)))])
    refine X1.step (fun hA hx hq t k => XS.iconst hA hx rfl (hb hq at_21) k) ?_
    show OFin _ _ _ _ _ _ _ _ T1 (mkF m 22 #[.val (.int p0), .val (.int p1), .val (.int p2), .val (.int sv), .val (.int (p2 &&& (3 : Int32))), .unset, .unset, .unset] [(.int (1 : Int32)), (.int (p2 &&& (3 : Int32)))])
    by_cases k2 : (p2 &&& (3 : Int32)) = (1 : Int32)
    · refine X1.step (fun hA hx hq t k => XS.icmpNo hA hx rfl (hb hq at_22) rfl (teq (k2)).2 k) ?_
      show OFin _ _ _ _ _ _ _ _ T1 (mkF m 25 #[.val (.int p0), .val (.int p1), .val (.int p2), .val (.int sv), .val (.int (p2 &&& (3 : Int32))), .unset, .unset, .unset] [])
      have hc := own_c1 p1 sv hs
      refine X1.step (fun hA hx hq t k => XS.iloadN hA hx rfl (hb hq at_25) rfl k) ?_
      show OFin _ _ _ _ _ _ _ _ T1 (mkF m 26 #[.val (.int p0), .val (.int p1), .val (.int p2), .val (.int sv), .val (.int (p2 &&& (3 : Int32))), .unset, .unset, .unset] [(.int p1)])
      refine X1.step (fun hA hx hq t k => XS.i2l hA hx rfl (hb hq at_26) rfl k) ?_
      show OFin _ _ _ _ _ _ _ _ T1 (mkF m 27 #[.val (.int p0), .val (.int p1), .val (.int p2), .val (.int sv), .val (.int (p2 &&& (3 : Int32))), .unset, .unset, .unset] [(.long (p1.toInt64))])
      refine X1.ldcL (hw _ (List.mem_of_getElem? (i := 38) rfl)) (g := (mkF m 27 #[.val (.int p0), .val (.int p1), .val (.int p2), .val (.int sv), .val (.int (p2 &&& (3 : Int32))), .unset, .unset, .unset] [(.long (p1.toInt64))])) rfl at_27 ?_
      show OFin _ _ _ _ _ _ _ _ T1 (mkF m 30 #[.val (.int p0), .val (.int p1), .val (.int p2), .val (.int sv), .val (.int (p2 &&& (3 : Int32))), .unset, .unset, .unset] [(.long (4294967295 : Int64)), (.long (p1.toInt64))])
      refine X1.step (fun hA hx hq t k => XS.land hA hx rfl (hb hq at_30) rfl k) ?_
      show OFin _ _ _ _ _ _ _ _ T1 (mkF m 31 #[.val (.int p0), .val (.int p1), .val (.int p2), .val (.int sv), .val (.int (p2 &&& (3 : Int32))), .unset, .unset, .unset] [(.long ((p1.toInt64) &&& (4294967295 : Int64)))])
      refine X1.step (fun hA hx hq t k => XS.iloadN hA hx rfl (hb hq at_31) rfl k) ?_
      show OFin _ _ _ _ _ _ _ _ T1 (mkF m 32 #[.val (.int p0), .val (.int p1), .val (.int p2), .val (.int sv), .val (.int (p2 &&& (3 : Int32))), .unset, .unset, .unset] [(.int sv), (.long ((p1.toInt64) &&& (4294967295 : Int64)))])
      refine X1.step (fun hA hx hq t k => XS.i2l hA hx rfl (hb hq at_32) rfl k) ?_
      show OFin _ _ _ _ _ _ _ _ T1 (mkF m 33 #[.val (.int p0), .val (.int p1), .val (.int p2), .val (.int sv), .val (.int (p2 &&& (3 : Int32))), .unset, .unset, .unset] [(.long (sv.toInt64)), (.long ((p1.toInt64) &&& (4294967295 : Int64)))])
      refine X1.step (fun hA hx hq t k => XS.lconst hA hx rfl (hb hq at_33) k) ?_
      show OFin _ _ _ _ _ _ _ _ T1 (mkF m 34 #[.val (.int p0), .val (.int p1), .val (.int p2), .val (.int sv), .val (.int (p2 &&& (3 : Int32))), .unset, .unset, .unset] [(.long (1 : Int64)), (.long (sv.toInt64)), (.long ((p1.toInt64) &&& (4294967295 : Int64)))])
      refine X1.step (fun hA hx hq t k => XS.ladd hA hx rfl (hb hq at_34) rfl k) ?_
      show OFin _ _ _ _ _ _ _ _ T1 (mkF m 35 #[.val (.int p0), .val (.int p1), .val (.int p2), .val (.int sv), .val (.int (p2 &&& (3 : Int32))), .unset, .unset, .unset] [(.long ((sv.toInt64) + (1 : Int64))), (.long ((p1.toInt64) &&& (4294967295 : Int64)))])
      refine X1.step (fun hA hx hq t k => XS.lrem hA hx rfl (hb hq at_35) rfl hc.1 k) ?_
      show OFin _ _ _ _ _ _ _ _ T1 (mkF m 36 #[.val (.int p0), .val (.int p1), .val (.int p2), .val (.int sv), .val (.int (p2 &&& (3 : Int32))), .unset, .unset, .unset] [(.long (((p1.toInt64) &&& (4294967295 : Int64)) - (((p1.toInt64) &&& (4294967295 : Int64)) / ((sv.toInt64) + (1 : Int64))) * ((sv.toInt64) + (1 : Int64))))])
      refine X1.step (fun hA hx hq t k => XS.l2i hA hx rfl (hb hq at_36) rfl k) ?_
      show OFin _ _ _ _ _ _ _ _ T1 (mkF m 37 #[.val (.int p0), .val (.int p1), .val (.int p2), .val (.int sv), .val (.int (p2 &&& (3 : Int32))), .unset, .unset, .unset] [(.int ((((p1.toInt64) &&& (4294967295 : Int64)) - (((p1.toInt64) &&& (4294967295 : Int64)) / ((sv.toInt64) + (1 : Int64))) * ((sv.toInt64) + (1 : Int64))).toInt32))])
      refine X1.step (fun hA hx hq t k => XS.istore hA hx rfl (hb hq at_37) rfl (l' := #[.val (.int p0), .val (.int p1), .val (.int p2), .val (.int sv), .val (.int (p2 &&& (3 : Int32))), .val (.int ((((p1.toInt64) &&& (4294967295 : Int64)) - (((p1.toInt64) &&& (4294967295 : Int64)) / ((sv.toInt64) + (1 : Int64))) * ((sv.toInt64) + (1 : Int64))).toInt32)), .unset, .unset]) rfl k) ?_
      show OFin _ _ _ _ _ _ _ _ T1 (mkF m 39 #[.val (.int p0), .val (.int p1), .val (.int p2), .val (.int sv), .val (.int (p2 &&& (3 : Int32))), .val (.int ((((p1.toInt64) &&& (4294967295 : Int64)) - (((p1.toInt64) &&& (4294967295 : Int64)) / ((sv.toInt64) + (1 : Int64))) * ((sv.toInt64) + (1 : Int64))).toInt32)), .unset, .unset] [])
      refine X1.step (fun hA hx hq t k => XS.goto hA hx rfl (pc0 := 39) (pc' := 91) rfl (hb hq at_39) (by decide) (by decide) k) ?_
      show OFin _ _ _ _ _ _ _ _ T1 (mkF m 91 #[.val (.int p0), .val (.int p1), .val (.int p2), .val (.int sv), .val (.int (p2 &&& (3 : Int32))), .val (.int ((((p1.toInt64) &&& (4294967295 : Int64)) - (((p1.toInt64) &&& (4294967295 : Int64)) / ((sv.toInt64) + (1 : Int64))) * ((sv.toInt64) + (1 : Int64))).toInt32)), .unset, .unset] [])
      have hk := own_key (((p1.toInt64 &&& (4294967295 : Int64)) - ((p1.toInt64 &&& (4294967295 : Int64)) / (sv.toInt64 + (1 : Int64))) * (sv.toInt64 + (1 : Int64))).toInt32) sv hc.2.1 hc.2.2
      have g0 : ¬ (((p1.toInt64 &&& (4294967295 : Int64)) - ((p1.toInt64 &&& (4294967295 : Int64)) / (sv.toInt64 + (1 : Int64))) * (sv.toInt64 + (1 : Int64))).toInt32) < (0 : Int32) := by rw [Int32.lt_iff_toInt_lt]; have : (0 : Int32).toInt = 0 := (by decide); have := hc.2.1; omega
      have g1 : ¬ sv < (((p1.toInt64 &&& (4294967295 : Int64)) - ((p1.toInt64 &&& (4294967295 : Int64)) / (sv.toInt64 + (1 : Int64))) * (sv.toInt64 + (1 : Int64))).toInt32) := by rw [Int32.lt_iff_toInt_lt]; have := hc.2.2; omega
      have g2 : ¬ sv < (1 : Int32) := by rw [Int32.lt_iff_toInt_lt]; have : (1 : Int32).toInt = 1 := (by decide); omega
      refine X1.newO (hw _ (List.mem_of_getElem? (i := 11) rfl)) (hw _ (List.mem_of_getElem? (i := 12) rfl)) (hw _ (List.mem_of_getElem? (i := 13) rfl)) (g := (mkF m 91 #[.val (.int p0), .val (.int p1), .val (.int p2), .val (.int sv), .val (.int (p2 &&& (3 : Int32))), .val (.int ((((p1.toInt64) &&& (4294967295 : Int64)) - (((p1.toInt64) &&& (4294967295 : Int64)) / ((sv.toInt64) + (1 : Int64))) * ((sv.toInt64) + (1 : Int64))).toInt32)), .unset, .unset] [])) rfl at_91 (by decide) (by decide) ?_
      intro T6 h6 b6 gb6 X6 E6 A6 D6
      show OFin _ _ _ _ _ _ _ _ T6 (mkF m 94 #[.val (.int p0), .val (.int p1), .val (.int p2), .val (.int sv), .val (.int (p2 &&& (3 : Int32))), .val (.int ((((p1.toInt64) &&& (4294967295 : Int64)) - (((p1.toInt64) &&& (4294967295 : Int64)) / ((sv.toInt64) + (1 : Int64))) * ((sv.toInt64) + (1 : Int64))).toInt32)), .unset, .unset] [(.ref b6)])
      have F0 : Fld Z h6 b6 "com/example/lean_lock/leanlock/Quorum" "servers" "I" (.int (0 : Int32)) := D6 (Or.inr (hw _ (List.mem_of_getElem? (i := 26) rfl))) (ty := .int) (by decide)
      refine X6.step (fun hA hx hq t k => XS.dup hA hx rfl (hb hq at_94) rfl rfl k) ?_
      show OFin _ _ _ _ _ _ _ _ T6 (mkF m 95 #[.val (.int p0), .val (.int p1), .val (.int p2), .val (.int sv), .val (.int (p2 &&& (3 : Int32))), .val (.int ((((p1.toInt64) &&& (4294967295 : Int64)) - (((p1.toInt64) &&& (4294967295 : Int64)) / ((sv.toInt64) + (1 : Int64))) * ((sv.toInt64) + (1 : Int64))).toInt32)), .unset, .unset] [(.ref b6), (.ref b6)])
      refine X6.step (fun hA hx hq t k => XS.iloadN hA hx rfl (hb hq at_95) rfl k) ?_
      show OFin _ _ _ _ _ _ _ _ T6 (mkF m 96 #[.val (.int p0), .val (.int p1), .val (.int p2), .val (.int sv), .val (.int (p2 &&& (3 : Int32))), .val (.int ((((p1.toInt64) &&& (4294967295 : Int64)) - (((p1.toInt64) &&& (4294967295 : Int64)) / ((sv.toInt64) + (1 : Int64))) * ((sv.toInt64) + (1 : Int64))).toInt32)), .unset, .unset] [(.int sv), (.ref b6), (.ref b6)])
      refine X6.callI (y' := (⟨"com/example/lean_lock/leanlock/Quorum", "<init>", "(I)V"⟩ : MethodName)) rfl (hw _ (List.mem_of_getElem? (i := 14) rfl)) (hw _ (List.mem_of_getElem? (i := 15) rfl)) (hw _ (List.mem_of_getElem? (i := 13) rfl)) (hw _ (List.mem_of_getElem? (i := 16) rfl)) (by decide) (a := b6) (argsL := [(.int sv)]) (rest := [(.ref b6)]) (rm4 l Z a0 hw b6 sv 0 h6 n0 F0 A6 (by rw [gb6]; exact Z0) g2) (g := (mkF m 96 #[.val (.int p0), .val (.int p1), .val (.int p2), .val (.int sv), .val (.int (p2 &&& (3 : Int32))), .val (.int ((((p1.toInt64) &&& (4294967295 : Int64)) - (((p1.toInt64) &&& (4294967295 : Int64)) / ((sv.toInt64) + (1 : Int64))) * ((sv.toInt64) + (1 : Int64))).toInt32)), .unset, .unset] [(.int sv), (.ref b6), (.ref b6)])) rfl rfl pd_pIr_V rfl rfl (W := 1) (by show 2 * 0 + _ ≤ _; exact Nat.le_of_eq rfl) at_96 (by decide) (by decide) (by decide) (by decide) ?_
      intro v7 T7 h7 X7 q7
      obtain ⟨rfl, K7, E7, F7⟩ := q7
      show OFin _ _ _ _ _ _ _ _ T7 (mkF m 99 #[.val (.int p0), .val (.int p1), .val (.int p2), .val (.int sv), .val (.int (p2 &&& (3 : Int32))), .val (.int ((((p1.toInt64) &&& (4294967295 : Int64)) - (((p1.toInt64) &&& (4294967295 : Int64)) / ((sv.toInt64) + (1 : Int64))) * ((sv.toInt64) + (1 : Int64))).toInt32)), .unset, .unset] [(.ref b6)])
      refine X7.step (fun hA hx hq t k => XS.astore hA hx rfl (hb hq at_99) rfl rfl (l' := #[.val (.int p0), .val (.int p1), .val (.int p2), .val (.int sv), .val (.int (p2 &&& (3 : Int32))), .val (.int ((((p1.toInt64) &&& (4294967295 : Int64)) - (((p1.toInt64) &&& (4294967295 : Int64)) / ((sv.toInt64) + (1 : Int64))) * ((sv.toInt64) + (1 : Int64))).toInt32)), .val (.ref b6), .unset]) rfl k) ?_
      show OFin _ _ _ _ _ _ _ _ T7 (mkF m 101 #[.val (.int p0), .val (.int p1), .val (.int p2), .val (.int sv), .val (.int (p2 &&& (3 : Int32))), .val (.int ((((p1.toInt64) &&& (4294967295 : Int64)) - (((p1.toInt64) &&& (4294967295 : Int64)) / ((sv.toInt64) + (1 : Int64))) * ((sv.toInt64) + (1 : Int64))).toInt32)), .val (.ref b6), .unset] [])
      refine X7.ldcL (hw _ (List.mem_of_getElem? (i := 27) rfl)) (g := (mkF m 101 #[.val (.int p0), .val (.int p1), .val (.int p2), .val (.int sv), .val (.int (p2 &&& (3 : Int32))), .val (.int ((((p1.toInt64) &&& (4294967295 : Int64)) - (((p1.toInt64) &&& (4294967295 : Int64)) / ((sv.toInt64) + (1 : Int64))) * ((sv.toInt64) + (1 : Int64))).toInt32)), .val (.ref b6), .unset] [])) rfl at_101 ?_
      show OFin _ _ _ _ _ _ _ _ T7 (mkF m 104 #[.val (.int p0), .val (.int p1), .val (.int p2), .val (.int sv), .val (.int (p2 &&& (3 : Int32))), .val (.int ((((p1.toInt64) &&& (4294967295 : Int64)) - (((p1.toInt64) &&& (4294967295 : Int64)) / ((sv.toInt64) + (1 : Int64))) * ((sv.toInt64) + (1 : Int64))).toInt32)), .val (.ref b6), .unset] [(.long (2 : Int64))])
      refine X7.step (fun hA hx hq t k => XS.iload hA hx rfl (hb hq at_104) rfl k) ?_
      show OFin _ _ _ _ _ _ _ _ T7 (mkF m 106 #[.val (.int p0), .val (.int p1), .val (.int p2), .val (.int sv), .val (.int (p2 &&& (3 : Int32))), .val (.int ((((p1.toInt64) &&& (4294967295 : Int64)) - (((p1.toInt64) &&& (4294967295 : Int64)) / ((sv.toInt64) + (1 : Int64))) * ((sv.toInt64) + (1 : Int64))).toInt32)), .val (.ref b6), .unset] [(.int ((((p1.toInt64) &&& (4294967295 : Int64)) - (((p1.toInt64) &&& (4294967295 : Int64)) / ((sv.toInt64) + (1 : Int64))) * ((sv.toInt64) + (1 : Int64))).toInt32)), (.long (2 : Int64))])
      refine X7.step (fun hA hx hq t k => XS.i2l hA hx rfl (hb hq at_106) rfl k) ?_
      show OFin _ _ _ _ _ _ _ _ T7 (mkF m 107 #[.val (.int p0), .val (.int p1), .val (.int p2), .val (.int sv), .val (.int (p2 &&& (3 : Int32))), .val (.int ((((p1.toInt64) &&& (4294967295 : Int64)) - (((p1.toInt64) &&& (4294967295 : Int64)) / ((sv.toInt64) + (1 : Int64))) * ((sv.toInt64) + (1 : Int64))).toInt32)), .val (.ref b6), .unset] [(.long (((((p1.toInt64) &&& (4294967295 : Int64)) - (((p1.toInt64) &&& (4294967295 : Int64)) / ((sv.toInt64) + (1 : Int64))) * ((sv.toInt64) + (1 : Int64))).toInt32).toInt64)), (.long (2 : Int64))])
      refine X7.step (fun hA hx hq t k => XS.lmul hA hx rfl (hb hq at_107) rfl k) ?_
      show OFin _ _ _ _ _ _ _ _ T7 (mkF m 108 #[.val (.int p0), .val (.int p1), .val (.int p2), .val (.int sv), .val (.int (p2 &&& (3 : Int32))), .val (.int ((((p1.toInt64) &&& (4294967295 : Int64)) - (((p1.toInt64) &&& (4294967295 : Int64)) / ((sv.toInt64) + (1 : Int64))) * ((sv.toInt64) + (1 : Int64))).toInt32)), .val (.ref b6), .unset] [(.long ((2 : Int64) * (((((p1.toInt64) &&& (4294967295 : Int64)) - (((p1.toInt64) &&& (4294967295 : Int64)) / ((sv.toInt64) + (1 : Int64))) * ((sv.toInt64) + (1 : Int64))).toInt32).toInt64)))])
      refine X7.step (fun hA hx hq t k => XS.iloadN hA hx rfl (hb hq at_108) rfl k) ?_
      show OFin _ _ _ _ _ _ _ _ T7 (mkF m 109 #[.val (.int p0), .val (.int p1), .val (.int p2), .val (.int sv), .val (.int (p2 &&& (3 : Int32))), .val (.int ((((p1.toInt64) &&& (4294967295 : Int64)) - (((p1.toInt64) &&& (4294967295 : Int64)) / ((sv.toInt64) + (1 : Int64))) * ((sv.toInt64) + (1 : Int64))).toInt32)), .val (.ref b6), .unset] [(.int sv), (.long ((2 : Int64) * (((((p1.toInt64) &&& (4294967295 : Int64)) - (((p1.toInt64) &&& (4294967295 : Int64)) / ((sv.toInt64) + (1 : Int64))) * ((sv.toInt64) + (1 : Int64))).toInt32).toInt64)))])
      refine X7.step (fun hA hx hq t k => XS.i2l hA hx rfl (hb hq at_109) rfl k) ?_
      show OFin _ _ _ _ _ _ _ _ T7 (mkF m 110 #[.val (.int p0), .val (.int p1), .val (.int p2), .val (.int sv), .val (.int (p2 &&& (3 : Int32))), .val (.int ((((p1.toInt64) &&& (4294967295 : Int64)) - (((p1.toInt64) &&& (4294967295 : Int64)) / ((sv.toInt64) + (1 : Int64))) * ((sv.toInt64) + (1 : Int64))).toInt32)), .val (.ref b6), .unset] [(.long (sv.toInt64)), (.long ((2 : Int64) * (((((p1.toInt64) &&& (4294967295 : Int64)) - (((p1.toInt64) &&& (4294967295 : Int64)) / ((sv.toInt64) + (1 : Int64))) * ((sv.toInt64) + (1 : Int64))).toInt32).toInt64)))])
      refine X7.step (fun hA hx hq t k => XS.lcmp hA hx rfl (hb hq at_110) rfl k) ?_
      show OFin _ _ _ _ _ _ _ _ T7 (mkF m 111 #[.val (.int p0), .val (.int p1), .val (.int p2), .val (.int sv), .val (.int (p2 &&& (3 : Int32))), .val (.int ((((p1.toInt64) &&& (4294967295 : Int64)) - (((p1.toInt64) &&& (4294967295 : Int64)) / ((sv.toInt64) + (1 : Int64))) * ((sv.toInt64) + (1 : Int64))).toInt32)), .val (.ref b6), .unset] [(.int (lcmpW ((2 : Int64) * (((((p1.toInt64) &&& (4294967295 : Int64)) - (((p1.toInt64) &&& (4294967295 : Int64)) / ((sv.toInt64) + (1 : Int64))) * ((sv.toInt64) + (1 : Int64))).toInt32).toInt64)) (sv.toInt64)))])
      by_cases k9 : (0 : Int32) < (lcmpW ((2 : Int64) * (((((p1.toInt64) &&& (4294967295 : Int64)) - (((p1.toInt64) &&& (4294967295 : Int64)) / ((sv.toInt64) + (1 : Int64))) * ((sv.toInt64) + (1 : Int64))).toInt32).toInt64)) (sv.toInt64))
      · refine X7.step (fun hA hx hq t k => XS.ifNo hA hx rfl (hb hq at_111) rfl ((if0 _ _).trans (tlt (k9)).2.2.2) k) ?_
        show OFin _ _ _ _ _ _ _ _ T7 (mkF m 114 #[.val (.int p0), .val (.int p1), .val (.int p2), .val (.int sv), .val (.int (p2 &&& (3 : Int32))), .val (.int ((((p1.toInt64) &&& (4294967295 : Int64)) - (((p1.toInt64) &&& (4294967295 : Int64)) / ((sv.toInt64) + (1 : Int64))) * ((sv.toInt64) + (1 : Int64))).toInt32)), .val (.ref b6), .unset] [])
        refine X7.step (fun hA hx hq t k => XS.iconst hA hx rfl (hb hq at_114) k) ?_
        show OFin _ _ _ _ _ _ _ _ T7 (mkF m 115 #[.val (.int p0), .val (.int p1), .val (.int p2), .val (.int sv), .val (.int (p2 &&& (3 : Int32))), .val (.int ((((p1.toInt64) &&& (4294967295 : Int64)) - (((p1.toInt64) &&& (4294967295 : Int64)) / ((sv.toInt64) + (1 : Int64))) * ((sv.toInt64) + (1 : Int64))).toInt32)), .val (.ref b6), .unset] [(.int (1 : Int32))])
        refine X7.step (fun hA hx hq t k => XS.goto hA hx rfl (pc0 := 115) (pc' := 119) rfl (hb hq at_115) (by decide) (by decide) k) ?_
        show OFin _ _ _ _ _ _ _ _ T7 (mkF m 119 #[.val (.int p0), .val (.int p1), .val (.int p2), .val (.int sv), .val (.int (p2 &&& (3 : Int32))), .val (.int ((((p1.toInt64) &&& (4294967295 : Int64)) - (((p1.toInt64) &&& (4294967295 : Int64)) / ((sv.toInt64) + (1 : Int64))) * ((sv.toInt64) + (1 : Int64))).toInt32)), .val (.ref b6), .unset] [(.int (1 : Int32))])
        refine X7.step (fun hA hx hq t k => XS.istore hA hx rfl (hb hq at_119) rfl (l' := #[.val (.int p0), .val (.int p1), .val (.int p2), .val (.int sv), .val (.int (p2 &&& (3 : Int32))), .val (.int ((((p1.toInt64) &&& (4294967295 : Int64)) - (((p1.toInt64) &&& (4294967295 : Int64)) / ((sv.toInt64) + (1 : Int64))) * ((sv.toInt64) + (1 : Int64))).toInt32)), .val (.ref b6), .val (.int (1 : Int32))]) rfl k) ?_
        show OFin _ _ _ _ _ _ _ _ T7 (mkF m 121 #[.val (.int p0), .val (.int p1), .val (.int p2), .val (.int sv), .val (.int (p2 &&& (3 : Int32))), .val (.int ((((p1.toInt64) &&& (4294967295 : Int64)) - (((p1.toInt64) &&& (4294967295 : Int64)) / ((sv.toInt64) + (1 : Int64))) * ((sv.toInt64) + (1 : Int64))).toInt32)), .val (.ref b6), .val (.int (1 : Int32))] [])
        refine X7.step (fun hA hx hq t k => XS.aload hA hx rfl (hb hq at_121) rfl rfl k) ?_
        show OFin _ _ _ _ _ _ _ _ T7 (mkF m 123 #[.val (.int p0), .val (.int p1), .val (.int p2), .val (.int sv), .val (.int (p2 &&& (3 : Int32))), .val (.int ((((p1.toInt64) &&& (4294967295 : Int64)) - (((p1.toInt64) &&& (4294967295 : Int64)) / ((sv.toInt64) + (1 : Int64))) * ((sv.toInt64) + (1 : Int64))).toInt32)), .val (.ref b6), .val (.int (1 : Int32))] [(.ref b6)])
        refine X7.step (fun hA hx hq t k => XS.iload hA hx rfl (hb hq at_123) rfl k) ?_
        show OFin _ _ _ _ _ _ _ _ T7 (mkF m 125 #[.val (.int p0), .val (.int p1), .val (.int p2), .val (.int sv), .val (.int (p2 &&& (3 : Int32))), .val (.int ((((p1.toInt64) &&& (4294967295 : Int64)) - (((p1.toInt64) &&& (4294967295 : Int64)) / ((sv.toInt64) + (1 : Int64))) * ((sv.toInt64) + (1 : Int64))).toInt32)), .val (.ref b6), .val (.int (1 : Int32))] [(.int ((((p1.toInt64) &&& (4294967295 : Int64)) - (((p1.toInt64) &&& (4294967295 : Int64)) / ((sv.toInt64) + (1 : Int64))) * ((sv.toInt64) + (1 : Int64))).toInt32)), (.ref b6)])
        refine X7.callV (y' := (⟨"com/example/lean_lock/leanlock/Quorum", "isMajority", "(I)Z"⟩ : MethodName)) (z' := (⟨"com/example/lean_lock/leanlock/Quorum", "isMajority", "(I)Z"⟩ : MethodName)) (hw _ (List.mem_of_getElem? (i := 28) rfl)) (hw _ (List.mem_of_getElem? (i := 29) rfl)) (X7.notFace (hw _ (List.mem_of_getElem? (i := 31) rfl)) rfl) (hw _ (List.mem_of_getElem? (i := 31) rfl)) (hw _ (List.mem_of_getElem? (i := 30) rfl)) (hw _ (List.mem_of_getElem? (i := 13) rfl)) (hw _ (List.mem_of_getElem? (i := 32) rfl)) (by decide) E7 (argsL := [(.int ((((p1.toInt64) &&& (4294967295 : Int64)) - (((p1.toInt64) &&& (4294967295 : Int64)) / ((sv.toInt64) + (1 : Int64))) * ((sv.toInt64) + (1 : Int64))).toInt32))]) (rest := []) (rm7 l Z a0 hw b6 (((p1.toInt64 &&& (4294967295 : Int64)) - ((p1.toInt64 &&& (4294967295 : Int64)) / (sv.toInt64 + (1 : Int64))) * (sv.toInt64 + (1 : Int64))).toInt32) sv h7 n0 F7 E7 g0 g1) (g := (mkF m 125 #[.val (.int p0), .val (.int p1), .val (.int p2), .val (.int sv), .val (.int (p2 &&& (3 : Int32))), .val (.int ((((p1.toInt64) &&& (4294967295 : Int64)) - (((p1.toInt64) &&& (4294967295 : Int64)) / ((sv.toInt64) + (1 : Int64))) * ((sv.toInt64) + (1 : Int64))).toInt32)), .val (.ref b6), .val (.int (1 : Int32))] [(.int ((((p1.toInt64) &&& (4294967295 : Int64)) - (((p1.toInt64) &&& (4294967295 : Int64)) / ((sv.toInt64) + (1 : Int64))) * ((sv.toInt64) + (1 : Int64))).toInt32)), (.ref b6)])) rfl rfl pd_pIr_Z rfl rfl (W := 0) (by show 2 * 0 + _ ≤ _; exact Nat.le_of_eq rfl) at_125 (by decide) (by decide) (by decide) (by decide) ?_
        intro v9 T9 h9 X9 q9
        obtain ⟨rfl, rfl⟩ := q9
        show OFin _ _ _ _ _ _ _ _ T9 (mkF m 128 #[.val (.int p0), .val (.int p1), .val (.int p2), .val (.int sv), .val (.int (p2 &&& (3 : Int32))), .val (.int ((((p1.toInt64) &&& (4294967295 : Int64)) - (((p1.toInt64) &&& (4294967295 : Int64)) / ((sv.toInt64) + (1 : Int64))) * ((sv.toInt64) + (1 : Int64))).toInt32)), .val (.ref b6), .val (.int (1 : Int32))] [(.int (if (((p1.toInt64 &&& (4294967295 : Int64)) - ((p1.toInt64 &&& (4294967295 : Int64)) / (sv.toInt64 + (1 : Int64))) * (sv.toInt64 + (1 : Int64))).toInt32) < sv / (2 : Int32) + (1 : Int32) then 0 else 1 : Int32))])
        refine X9.step (fun hA hx hq t k => XS.iload hA hx rfl (hb hq at_128) rfl k) ?_
        show OFin _ _ _ _ _ _ _ _ T9 (mkF m 130 #[.val (.int p0), .val (.int p1), .val (.int p2), .val (.int sv), .val (.int (p2 &&& (3 : Int32))), .val (.int ((((p1.toInt64) &&& (4294967295 : Int64)) - (((p1.toInt64) &&& (4294967295 : Int64)) / ((sv.toInt64) + (1 : Int64))) * ((sv.toInt64) + (1 : Int64))).toInt32)), .val (.ref b6), .val (.int (1 : Int32))] [(.int (1 : Int32)), (.int (if (((p1.toInt64 &&& (4294967295 : Int64)) - ((p1.toInt64 &&& (4294967295 : Int64)) / (sv.toInt64 + (1 : Int64))) * (sv.toInt64 + (1 : Int64))).toInt32) < sv / (2 : Int32) + (1 : Int32) then 0 else 1 : Int32))])
        refine X9.step (fun hA hx hq t k => XS.icmpNo hA hx rfl (hb hq at_130) rfl (teq (if_neg (hk.mp k9))).2 k) ?_
        show OFin _ _ _ _ _ _ _ _ T9 (mkF m 133 #[.val (.int p0), .val (.int p1), .val (.int p2), .val (.int sv), .val (.int (p2 &&& (3 : Int32))), .val (.int ((((p1.toInt64) &&& (4294967295 : Int64)) - (((p1.toInt64) &&& (4294967295 : Int64)) / ((sv.toInt64) + (1 : Int64))) * ((sv.toInt64) + (1 : Int64))).toInt32)), .val (.ref b6), .val (.int (1 : Int32))] [])
        refine X9.step (fun hA hx hq t k => XS.iconst hA hx rfl (hb hq at_133) k) ?_
        show OFin _ _ _ _ _ _ _ _ T9 (mkF m 134 #[.val (.int p0), .val (.int p1), .val (.int p2), .val (.int sv), .val (.int (p2 &&& (3 : Int32))), .val (.int ((((p1.toInt64) &&& (4294967295 : Int64)) - (((p1.toInt64) &&& (4294967295 : Int64)) / ((sv.toInt64) + (1 : Int64))) * ((sv.toInt64) + (1 : Int64))).toInt32)), .val (.ref b6), .val (.int (1 : Int32))] [(.int (1 : Int32))])
        refine X9.step (fun hA hx hq t k => XS.goto hA hx rfl (pc0 := 134) (pc' := 138) rfl (hb hq at_134) (by decide) (by decide) k) ?_
        show OFin _ _ _ _ _ _ _ _ T9 (mkF m 138 #[.val (.int p0), .val (.int p1), .val (.int p2), .val (.int sv), .val (.int (p2 &&& (3 : Int32))), .val (.int ((((p1.toInt64) &&& (4294967295 : Int64)) - (((p1.toInt64) &&& (4294967295 : Int64)) / ((sv.toInt64) + (1 : Int64))) * ((sv.toInt64) + (1 : Int64))).toInt32)), .val (.ref b6), .val (.int (1 : Int32))] [(.int (1 : Int32))])
        exact X9.retN (by simp) at_138 (by decide) (by decide) (rfl)
      · refine X7.step (fun hA hx hq t k => XS.ifYes hA hx rfl (pc0 := 111) (pc' := 118) rfl (hb hq at_111) rfl ((if0 _ _).trans (flt (k9)).2.2.2) (by decide) (by decide) k) ?_
        show OFin _ _ _ _ _ _ _ _ T7 (mkF m 118 #[.val (.int p0), .val (.int p1), .val (.int p2), .val (.int sv), .val (.int (p2 &&& (3 : Int32))), .val (.int ((((p1.toInt64) &&& (4294967295 : Int64)) - (((p1.toInt64) &&& (4294967295 : Int64)) / ((sv.toInt64) + (1 : Int64))) * ((sv.toInt64) + (1 : Int64))).toInt32)), .val (.ref b6), .unset] [])
        refine X7.step (fun hA hx hq t k => XS.iconst hA hx rfl (hb hq at_118) k) ?_
        show OFin _ _ _ _ _ _ _ _ T7 (mkF m 119 #[.val (.int p0), .val (.int p1), .val (.int p2), .val (.int sv), .val (.int (p2 &&& (3 : Int32))), .val (.int ((((p1.toInt64) &&& (4294967295 : Int64)) - (((p1.toInt64) &&& (4294967295 : Int64)) / ((sv.toInt64) + (1 : Int64))) * ((sv.toInt64) + (1 : Int64))).toInt32)), .val (.ref b6), .unset] [(.int (0 : Int32))])
        refine X7.step (fun hA hx hq t k => XS.istore hA hx rfl (hb hq at_119) rfl (l' := #[.val (.int p0), .val (.int p1), .val (.int p2), .val (.int sv), .val (.int (p2 &&& (3 : Int32))), .val (.int ((((p1.toInt64) &&& (4294967295 : Int64)) - (((p1.toInt64) &&& (4294967295 : Int64)) / ((sv.toInt64) + (1 : Int64))) * ((sv.toInt64) + (1 : Int64))).toInt32)), .val (.ref b6), .val (.int (0 : Int32))]) rfl k) ?_
        show OFin _ _ _ _ _ _ _ _ T7 (mkF m 121 #[.val (.int p0), .val (.int p1), .val (.int p2), .val (.int sv), .val (.int (p2 &&& (3 : Int32))), .val (.int ((((p1.toInt64) &&& (4294967295 : Int64)) - (((p1.toInt64) &&& (4294967295 : Int64)) / ((sv.toInt64) + (1 : Int64))) * ((sv.toInt64) + (1 : Int64))).toInt32)), .val (.ref b6), .val (.int (0 : Int32))] [])
        refine X7.step (fun hA hx hq t k => XS.aload hA hx rfl (hb hq at_121) rfl rfl k) ?_
        show OFin _ _ _ _ _ _ _ _ T7 (mkF m 123 #[.val (.int p0), .val (.int p1), .val (.int p2), .val (.int sv), .val (.int (p2 &&& (3 : Int32))), .val (.int ((((p1.toInt64) &&& (4294967295 : Int64)) - (((p1.toInt64) &&& (4294967295 : Int64)) / ((sv.toInt64) + (1 : Int64))) * ((sv.toInt64) + (1 : Int64))).toInt32)), .val (.ref b6), .val (.int (0 : Int32))] [(.ref b6)])
        refine X7.step (fun hA hx hq t k => XS.iload hA hx rfl (hb hq at_123) rfl k) ?_
        show OFin _ _ _ _ _ _ _ _ T7 (mkF m 125 #[.val (.int p0), .val (.int p1), .val (.int p2), .val (.int sv), .val (.int (p2 &&& (3 : Int32))), .val (.int ((((p1.toInt64) &&& (4294967295 : Int64)) - (((p1.toInt64) &&& (4294967295 : Int64)) / ((sv.toInt64) + (1 : Int64))) * ((sv.toInt64) + (1 : Int64))).toInt32)), .val (.ref b6), .val (.int (0 : Int32))] [(.int ((((p1.toInt64) &&& (4294967295 : Int64)) - (((p1.toInt64) &&& (4294967295 : Int64)) / ((sv.toInt64) + (1 : Int64))) * ((sv.toInt64) + (1 : Int64))).toInt32)), (.ref b6)])
        refine X7.callV (y' := (⟨"com/example/lean_lock/leanlock/Quorum", "isMajority", "(I)Z"⟩ : MethodName)) (z' := (⟨"com/example/lean_lock/leanlock/Quorum", "isMajority", "(I)Z"⟩ : MethodName)) (hw _ (List.mem_of_getElem? (i := 28) rfl)) (hw _ (List.mem_of_getElem? (i := 29) rfl)) (X7.notFace (hw _ (List.mem_of_getElem? (i := 31) rfl)) rfl) (hw _ (List.mem_of_getElem? (i := 31) rfl)) (hw _ (List.mem_of_getElem? (i := 30) rfl)) (hw _ (List.mem_of_getElem? (i := 13) rfl)) (hw _ (List.mem_of_getElem? (i := 32) rfl)) (by decide) E7 (argsL := [(.int ((((p1.toInt64) &&& (4294967295 : Int64)) - (((p1.toInt64) &&& (4294967295 : Int64)) / ((sv.toInt64) + (1 : Int64))) * ((sv.toInt64) + (1 : Int64))).toInt32))]) (rest := []) (rm7 l Z a0 hw b6 (((p1.toInt64 &&& (4294967295 : Int64)) - ((p1.toInt64 &&& (4294967295 : Int64)) / (sv.toInt64 + (1 : Int64))) * (sv.toInt64 + (1 : Int64))).toInt32) sv h7 n0 F7 E7 g0 g1) (g := (mkF m 125 #[.val (.int p0), .val (.int p1), .val (.int p2), .val (.int sv), .val (.int (p2 &&& (3 : Int32))), .val (.int ((((p1.toInt64) &&& (4294967295 : Int64)) - (((p1.toInt64) &&& (4294967295 : Int64)) / ((sv.toInt64) + (1 : Int64))) * ((sv.toInt64) + (1 : Int64))).toInt32)), .val (.ref b6), .val (.int (0 : Int32))] [(.int ((((p1.toInt64) &&& (4294967295 : Int64)) - (((p1.toInt64) &&& (4294967295 : Int64)) / ((sv.toInt64) + (1 : Int64))) * ((sv.toInt64) + (1 : Int64))).toInt32)), (.ref b6)])) rfl rfl pd_pIr_Z rfl rfl (W := 0) (by show 2 * 0 + _ ≤ _; exact Nat.le_of_eq rfl) at_125 (by decide) (by decide) (by decide) (by decide) ?_
        intro v8 T8 h8 X8 q8
        obtain ⟨rfl, rfl⟩ := q8
        show OFin _ _ _ _ _ _ _ _ T8 (mkF m 128 #[.val (.int p0), .val (.int p1), .val (.int p2), .val (.int sv), .val (.int (p2 &&& (3 : Int32))), .val (.int ((((p1.toInt64) &&& (4294967295 : Int64)) - (((p1.toInt64) &&& (4294967295 : Int64)) / ((sv.toInt64) + (1 : Int64))) * ((sv.toInt64) + (1 : Int64))).toInt32)), .val (.ref b6), .val (.int (0 : Int32))] [(.int (if (((p1.toInt64 &&& (4294967295 : Int64)) - ((p1.toInt64 &&& (4294967295 : Int64)) / (sv.toInt64 + (1 : Int64))) * (sv.toInt64 + (1 : Int64))).toInt32) < sv / (2 : Int32) + (1 : Int32) then 0 else 1 : Int32))])
        refine X8.step (fun hA hx hq t k => XS.iload hA hx rfl (hb hq at_128) rfl k) ?_
        show OFin _ _ _ _ _ _ _ _ T8 (mkF m 130 #[.val (.int p0), .val (.int p1), .val (.int p2), .val (.int sv), .val (.int (p2 &&& (3 : Int32))), .val (.int ((((p1.toInt64) &&& (4294967295 : Int64)) - (((p1.toInt64) &&& (4294967295 : Int64)) / ((sv.toInt64) + (1 : Int64))) * ((sv.toInt64) + (1 : Int64))).toInt32)), .val (.ref b6), .val (.int (0 : Int32))] [(.int (0 : Int32)), (.int (if (((p1.toInt64 &&& (4294967295 : Int64)) - ((p1.toInt64 &&& (4294967295 : Int64)) / (sv.toInt64 + (1 : Int64))) * (sv.toInt64 + (1 : Int64))).toInt32) < sv / (2 : Int32) + (1 : Int32) then 0 else 1 : Int32))])
        refine X8.step (fun hA hx hq t k => XS.icmpNo hA hx rfl (hb hq at_130) rfl (teq (if_pos (Decidable.not_not.mp fun q => k9 (hk.mpr q)))).2 k) ?_
        show OFin _ _ _ _ _ _ _ _ T8 (mkF m 133 #[.val (.int p0), .val (.int p1), .val (.int p2), .val (.int sv), .val (.int (p2 &&& (3 : Int32))), .val (.int ((((p1.toInt64) &&& (4294967295 : Int64)) - (((p1.toInt64) &&& (4294967295 : Int64)) / ((sv.toInt64) + (1 : Int64))) * ((sv.toInt64) + (1 : Int64))).toInt32)), .val (.ref b6), .val (.int (0 : Int32))] [])
        refine X8.step (fun hA hx hq t k => XS.iconst hA hx rfl (hb hq at_133) k) ?_
        show OFin _ _ _ _ _ _ _ _ T8 (mkF m 134 #[.val (.int p0), .val (.int p1), .val (.int p2), .val (.int sv), .val (.int (p2 &&& (3 : Int32))), .val (.int ((((p1.toInt64) &&& (4294967295 : Int64)) - (((p1.toInt64) &&& (4294967295 : Int64)) / ((sv.toInt64) + (1 : Int64))) * ((sv.toInt64) + (1 : Int64))).toInt32)), .val (.ref b6), .val (.int (0 : Int32))] [(.int (1 : Int32))])
        refine X8.step (fun hA hx hq t k => XS.goto hA hx rfl (pc0 := 134) (pc' := 138) rfl (hb hq at_134) (by decide) (by decide) k) ?_
        show OFin _ _ _ _ _ _ _ _ T8 (mkF m 138 #[.val (.int p0), .val (.int p1), .val (.int p2), .val (.int sv), .val (.int (p2 &&& (3 : Int32))), .val (.int ((((p1.toInt64) &&& (4294967295 : Int64)) - (((p1.toInt64) &&& (4294967295 : Int64)) / ((sv.toInt64) + (1 : Int64))) * ((sv.toInt64) + (1 : Int64))).toInt32)), .val (.ref b6), .val (.int (0 : Int32))] [(.int (1 : Int32))])
        exact X8.retN (by simp) at_138 (by decide) (by decide) (rfl)
    · refine X1.step (fun hA hx hq t k => XS.icmpYes hA hx rfl (pc0 := 22) (pc' := 42) rfl (hb hq at_22) rfl (feq (k2)).2 (by decide) (by decide) k) ?_
      show OFin _ _ _ _ _ _ _ _ T1 (mkF m 42 #[.val (.int p0), .val (.int p1), .val (.int p2), .val (.int sv), .val (.int (p2 &&& (3 : Int32))), .unset, .unset, .unset] [])
      refine X1.step (fun hA hx hq t k => XS.iload hA hx rfl (hb hq at_42) rfl k) ?_
      show OFin _ _ _ _ _ _ _ _ T1 (mkF m 44 #[.val (.int p0), .val (.int p1), .val (.int p2), .val (.int sv), .val (.int (p2 &&& (3 : Int32))), .unset, .unset, .unset] [(.int (p2 &&& (3 : Int32)))])
      refine X1.step (fun hA hx hq t k => XS.iconst hA hx rfl (hb hq at_44) k) ?_
      show OFin _ _ _ _ _ _ _ _ T1 (mkF m 45 #[.val (.int p0), .val (.int p1), .val (.int p2), .val (.int sv), .val (.int (p2 &&& (3 : Int32))), .unset, .unset, .unset] [(.int (2 : Int32)), (.int (p2 &&& (3 : Int32)))])
      by_cases k3 : (p2 &&& (3 : Int32)) = (2 : Int32)
      · refine X1.step (fun hA hx hq t k => XS.icmpNo hA hx rfl (hb hq at_45) rfl (teq (k3)).2 k) ?_
        show OFin _ _ _ _ _ _ _ _ T1 (mkF m 48 #[.val (.int p0), .val (.int p1), .val (.int p2), .val (.int sv), .val (.int (p2 &&& (3 : Int32))), .unset, .unset, .unset] [])
        refine X1.step (fun hA hx hq t k => XS.iloadN hA hx rfl (hb hq at_48) rfl k) ?_
        show OFin _ _ _ _ _ _ _ _ T1 (mkF m 49 #[.val (.int p0), .val (.int p1), .val (.int p2), .val (.int sv), .val (.int (p2 &&& (3 : Int32))), .unset, .unset, .unset] [(.int sv)])
        refine X1.step (fun hA hx hq t k => XS.iconst hA hx rfl (hb hq at_49) k) ?_
        show OFin _ _ _ _ _ _ _ _ T1 (mkF m 50 #[.val (.int p0), .val (.int p1), .val (.int p2), .val (.int sv), .val (.int (p2 &&& (3 : Int32))), .unset, .unset, .unset] [(.int (2 : Int32)), (.int sv)])
        refine X1.step (fun hA hx hq t k => XS.idiv hA hx rfl (hb hq at_50) rfl (by decide) k) ?_
        show OFin _ _ _ _ _ _ _ _ T1 (mkF m 51 #[.val (.int p0), .val (.int p1), .val (.int p2), .val (.int sv), .val (.int (p2 &&& (3 : Int32))), .unset, .unset, .unset] [(.int (sv / (2 : Int32)))])
        refine X1.step (fun hA hx hq t k => XS.i2l hA hx rfl (hb hq at_51) rfl k) ?_
        show OFin _ _ _ _ _ _ _ _ T1 (mkF m 52 #[.val (.int p0), .val (.int p1), .val (.int p2), .val (.int sv), .val (.int (p2 &&& (3 : Int32))), .unset, .unset, .unset] [(.long ((sv / (2 : Int32)).toInt64))])
        refine X1.step (fun hA hx hq t k => XS.iloadN hA hx rfl (hb hq at_52) rfl k) ?_
        show OFin _ _ _ _ _ _ _ _ T1 (mkF m 53 #[.val (.int p0), .val (.int p1), .val (.int p2), .val (.int sv), .val (.int (p2 &&& (3 : Int32))), .unset, .unset, .unset] [(.int p1), (.long ((sv / (2 : Int32)).toInt64))])
        refine X1.step (fun hA hx hq t k => XS.iconst hA hx rfl (hb hq at_53) k) ?_
        show OFin _ _ _ _ _ _ _ _ T1 (mkF m 54 #[.val (.int p0), .val (.int p1), .val (.int p2), .val (.int sv), .val (.int (p2 &&& (3 : Int32))), .unset, .unset, .unset] [(.int (3 : Int32)), (.int p1), (.long ((sv / (2 : Int32)).toInt64))])
        refine X1.step (fun hA hx hq t k => XS.iand hA hx rfl (hb hq at_54) rfl k) ?_
        show OFin _ _ _ _ _ _ _ _ T1 (mkF m 55 #[.val (.int p0), .val (.int p1), .val (.int p2), .val (.int sv), .val (.int (p2 &&& (3 : Int32))), .unset, .unset, .unset] [(.int (p1 &&& (3 : Int32))), (.long ((sv / (2 : Int32)).toInt64))])
        refine X1.step (fun hA hx hq t k => XS.i2l hA hx rfl (hb hq at_55) rfl k) ?_
        show OFin _ _ _ _ _ _ _ _ T1 (mkF m 56 #[.val (.int p0), .val (.int p1), .val (.int p2), .val (.int sv), .val (.int (p2 &&& (3 : Int32))), .unset, .unset, .unset] [(.long ((p1 &&& (3 : Int32)).toInt64)), (.long ((sv / (2 : Int32)).toInt64))])
        refine X1.step (fun hA hx hq t k => XS.ladd hA hx rfl (hb hq at_56) rfl k) ?_
        show OFin _ _ _ _ _ _ _ _ T1 (mkF m 57 #[.val (.int p0), .val (.int p1), .val (.int p2), .val (.int sv), .val (.int (p2 &&& (3 : Int32))), .unset, .unset, .unset] [(.long (((sv / (2 : Int32)).toInt64) + ((p1 &&& (3 : Int32)).toInt64)))])
        refine X1.step (fun hA hx hq t k => XS.lconst hA hx rfl (hb hq at_57) k) ?_
        show OFin _ _ _ _ _ _ _ _ T1 (mkF m 58 #[.val (.int p0), .val (.int p1), .val (.int p2), .val (.int sv), .val (.int (p2 &&& (3 : Int32))), .unset, .unset, .unset] [(.long (1 : Int64)), (.long (((sv / (2 : Int32)).toInt64) + ((p1 &&& (3 : Int32)).toInt64)))])
        refine X1.step (fun hA hx hq t k => XS.lsub hA hx rfl (hb hq at_58) rfl k) ?_
        show OFin _ _ _ _ _ _ _ _ T1 (mkF m 59 #[.val (.int p0), .val (.int p1), .val (.int p2), .val (.int sv), .val (.int (p2 &&& (3 : Int32))), .unset, .unset, .unset] [(.long ((((sv / (2 : Int32)).toInt64) + ((p1 &&& (3 : Int32)).toInt64)) - (1 : Int64)))])
        refine X1.step (fun hA hx hq t k => XS.lstore hA hx rfl (hb hq at_59) rfl (l' := #[.val (.int p0), .val (.int p1), .val (.int p2), .val (.int sv), .val (.int (p2 &&& (3 : Int32))), .unset, .val (.long ((((sv / (2 : Int32)).toInt64) + ((p1 &&& (3 : Int32)).toInt64)) - (1 : Int64))), .second]) rfl k) ?_
        show OFin _ _ _ _ _ _ _ _ T1 (mkF m 61 #[.val (.int p0), .val (.int p1), .val (.int p2), .val (.int sv), .val (.int (p2 &&& (3 : Int32))), .unset, .val (.long ((((sv / (2 : Int32)).toInt64) + ((p1 &&& (3 : Int32)).toInt64)) - (1 : Int64))), .second] [])
        refine X1.step (fun hA hx hq t k => XS.iloadN hA hx rfl (hb hq at_61) rfl k) ?_
        show OFin _ _ _ _ _ _ _ _ T1 (mkF m 62 #[.val (.int p0), .val (.int p1), .val (.int p2), .val (.int sv), .val (.int (p2 &&& (3 : Int32))), .unset, .val (.long ((((sv / (2 : Int32)).toInt64) + ((p1 &&& (3 : Int32)).toInt64)) - (1 : Int64))), .second] [(.int sv)])
        refine X1.step (fun hA hx hq t k => XS.i2l hA hx rfl (hb hq at_62) rfl k) ?_
        show OFin _ _ _ _ _ _ _ _ T1 (mkF m 63 #[.val (.int p0), .val (.int p1), .val (.int p2), .val (.int sv), .val (.int (p2 &&& (3 : Int32))), .unset, .val (.long ((((sv / (2 : Int32)).toInt64) + ((p1 &&& (3 : Int32)).toInt64)) - (1 : Int64))), .second] [(.long (sv.toInt64))])
        refine X1.step (fun hA hx hq t k => XS.lconst hA hx rfl (hb hq at_63) k) ?_
        show OFin _ _ _ _ _ _ _ _ T1 (mkF m 64 #[.val (.int p0), .val (.int p1), .val (.int p2), .val (.int sv), .val (.int (p2 &&& (3 : Int32))), .unset, .val (.long ((((sv / (2 : Int32)).toInt64) + ((p1 &&& (3 : Int32)).toInt64)) - (1 : Int64))), .second] [(.long (0 : Int64)), (.long (sv.toInt64))])
        refine X1.step (fun hA hx hq t k => XS.lload hA hx rfl (hb hq at_64) rfl k) ?_
        show OFin _ _ _ _ _ _ _ _ T1 (mkF m 66 #[.val (.int p0), .val (.int p1), .val (.int p2), .val (.int sv), .val (.int (p2 &&& (3 : Int32))), .unset, .val (.long ((((sv / (2 : Int32)).toInt64) + ((p1 &&& (3 : Int32)).toInt64)) - (1 : Int64))), .second] [(.long ((((sv / (2 : Int32)).toInt64) + ((p1 &&& (3 : Int32)).toInt64)) - (1 : Int64))), (.long (0 : Int64)), (.long (sv.toInt64))])
        generalize hnear : (((sv / (2 : Int32)).toInt64 + (p1 &&& (3 : Int32)).toInt64) - (1 : Int64)) = nr
        show OFin _ _ _ _ _ _ _ _ T1 (mkF m 66 #[.val (.int p0), .val (.int p1), .val (.int p2), .val (.int sv), .val (.int (p2 &&& (3 : Int32))), .unset, .val (.long nr), .second] [(.long nr), (.long (0 : Int64)), (.long (sv.toInt64))])
        refine X1.callS (y' := (⟨"java/lang/Math", "max", "(JJ)J"⟩ : MethodName)) (hw _ (List.mem_of_getElem? (i := 5) rfl)) (hw _ (List.mem_of_getElem? (i := 6) rfl)) (hw _ (List.mem_of_getElem? (i := 3) rfl)) (hw _ (List.mem_of_getElem? (i := 7) rfl)) (by decide) (argsL := [(.long (0 : Int64)), (.long nr)]) (rest := [(.long (sv.toInt64))]) (rm2 l Z a0 hw (0 : Int64) nr h0 n0) (g := (mkF m 66 #[.val (.int p0), .val (.int p1), .val (.int p2), .val (.int sv), .val (.int (p2 &&& (3 : Int32))), .unset, .val (.long nr), .second] [(.long nr), (.long (0 : Int64)), (.long (sv.toInt64))])) rfl rfl pd_pJJr_J rfl rfl (W := 2) (by show 2 * 0 + _ ≤ _; exact Nat.le_of_eq rfl) at_66 (by decide) (by decide) (by decide) (by decide) ?_
        intro v10 T10 h10 X10 q10
        obtain ⟨rfl, rfl⟩ := q10
        show OFin _ _ _ _ _ _ _ _ T10 (mkF m 69 #[.val (.int p0), .val (.int p1), .val (.int p2), .val (.int sv), .val (.int (p2 &&& (3 : Int32))), .unset, .val (.long nr), .second] [(.long (if (0 : Int64) < nr then nr else (0 : Int64))), (.long (sv.toInt64))])
        refine X10.callS (y' := (⟨"java/lang/Math", "min", "(JJ)J"⟩ : MethodName)) (hw _ (List.mem_of_getElem? (i := 8) rfl)) (hw _ (List.mem_of_getElem? (i := 9) rfl)) (hw _ (List.mem_of_getElem? (i := 3) rfl)) (hw _ (List.mem_of_getElem? (i := 10) rfl)) (by decide) (argsL := [(.long (sv.toInt64)), (.long (if (0 : Int64) < nr then nr else (0 : Int64)))]) (rest := []) (rm3 l Z a0 hw sv.toInt64 (if (0 : Int64) < nr then nr else (0 : Int64)) h0 n0) (g := (mkF m 69 #[.val (.int p0), .val (.int p1), .val (.int p2), .val (.int sv), .val (.int (p2 &&& (3 : Int32))), .unset, .val (.long nr), .second] [(.long (if (0 : Int64) < nr then nr else (0 : Int64))), (.long (sv.toInt64))])) rfl rfl pd_pJJr_J rfl rfl (W := 0) (by show 2 * 0 + _ ≤ _; exact Nat.le_of_eq rfl) at_69 (by decide) (by decide) (by decide) (by decide) ?_
        intro v11 T11 h11 X11 q11
        obtain ⟨rfl, rfl⟩ := q11
        show OFin _ _ _ _ _ _ _ _ T11 (mkF m 72 #[.val (.int p0), .val (.int p1), .val (.int p2), .val (.int sv), .val (.int (p2 &&& (3 : Int32))), .unset, .val (.long nr), .second] [(.long (if (if (0 : Int64) < nr then nr else (0 : Int64)) < sv.toInt64 then (if (0 : Int64) < nr then nr else (0 : Int64)) else sv.toInt64))])
        have hc := own_c2 sv nr hs
        refine X11.step (fun hA hx hq t k => XS.l2i hA hx rfl (hb hq at_72) rfl k) ?_
        show OFin _ _ _ _ _ _ _ _ T11 (mkF m 73 #[.val (.int p0), .val (.int p1), .val (.int p2), .val (.int sv), .val (.int (p2 &&& (3 : Int32))), .unset, .val (.long nr), .second] [(.int ((if (if (0 : Int64) < nr then nr else (0 : Int64)) < sv.toInt64 then (if (0 : Int64) < nr then nr else (0 : Int64)) else sv.toInt64).toInt32))])
        refine X11.step (fun hA hx hq t k => XS.istore hA hx rfl (hb hq at_73) rfl (l' := #[.val (.int p0), .val (.int p1), .val (.int p2), .val (.int sv), .val (.int (p2 &&& (3 : Int32))), .val (.int ((if (if (0 : Int64) < nr then nr else (0 : Int64)) < sv.toInt64 then (if (0 : Int64) < nr then nr else (0 : Int64)) else sv.toInt64).toInt32)), .val (.long nr), .second]) rfl k) ?_
        show OFin _ _ _ _ _ _ _ _ T11 (mkF m 75 #[.val (.int p0), .val (.int p1), .val (.int p2), .val (.int sv), .val (.int (p2 &&& (3 : Int32))), .val (.int ((if (if (0 : Int64) < nr then nr else (0 : Int64)) < sv.toInt64 then (if (0 : Int64) < nr then nr else (0 : Int64)) else sv.toInt64).toInt32)), .val (.long nr), .second] [])
        refine X11.step (fun hA hx hq t k => XS.goto hA hx rfl (pc0 := 75) (pc' := 91) rfl (hb hq at_75) (by decide) (by decide) k) ?_
        show OFin _ _ _ _ _ _ _ _ T11 (mkF m 91 #[.val (.int p0), .val (.int p1), .val (.int p2), .val (.int sv), .val (.int (p2 &&& (3 : Int32))), .val (.int ((if (if (0 : Int64) < nr then nr else (0 : Int64)) < sv.toInt64 then (if (0 : Int64) < nr then nr else (0 : Int64)) else sv.toInt64).toInt32)), .val (.long nr), .second] [])
        have hk := own_key ((if (if (0 : Int64) < nr then nr else (0 : Int64)) < sv.toInt64 then (if (0 : Int64) < nr then nr else (0 : Int64)) else sv.toInt64).toInt32) sv hc.1 hc.2
        have g0 : ¬ ((if (if (0 : Int64) < nr then nr else (0 : Int64)) < sv.toInt64 then (if (0 : Int64) < nr then nr else (0 : Int64)) else sv.toInt64).toInt32) < (0 : Int32) := by rw [Int32.lt_iff_toInt_lt]; have : (0 : Int32).toInt = 0 := (by decide); have := hc.1; omega
        have g1 : ¬ sv < ((if (if (0 : Int64) < nr then nr else (0 : Int64)) < sv.toInt64 then (if (0 : Int64) < nr then nr else (0 : Int64)) else sv.toInt64).toInt32) := by rw [Int32.lt_iff_toInt_lt]; have := hc.2; omega
        have g2 : ¬ sv < (1 : Int32) := by rw [Int32.lt_iff_toInt_lt]; have : (1 : Int32).toInt = 1 := (by decide); omega
        refine X11.newO (hw _ (List.mem_of_getElem? (i := 11) rfl)) (hw _ (List.mem_of_getElem? (i := 12) rfl)) (hw _ (List.mem_of_getElem? (i := 13) rfl)) (g := (mkF m 91 #[.val (.int p0), .val (.int p1), .val (.int p2), .val (.int sv), .val (.int (p2 &&& (3 : Int32))), .val (.int ((if (if (0 : Int64) < nr then nr else (0 : Int64)) < sv.toInt64 then (if (0 : Int64) < nr then nr else (0 : Int64)) else sv.toInt64).toInt32)), .val (.long nr), .second] [])) rfl at_91 (by decide) (by decide) ?_
        intro T12 h12 b12 gb12 X12 E12 A12 D12
        show OFin _ _ _ _ _ _ _ _ T12 (mkF m 94 #[.val (.int p0), .val (.int p1), .val (.int p2), .val (.int sv), .val (.int (p2 &&& (3 : Int32))), .val (.int ((if (if (0 : Int64) < nr then nr else (0 : Int64)) < sv.toInt64 then (if (0 : Int64) < nr then nr else (0 : Int64)) else sv.toInt64).toInt32)), .val (.long nr), .second] [(.ref b12)])
        have F0 : Fld Z h12 b12 "com/example/lean_lock/leanlock/Quorum" "servers" "I" (.int (0 : Int32)) := D12 (Or.inr (hw _ (List.mem_of_getElem? (i := 26) rfl))) (ty := .int) (by decide)
        refine X12.step (fun hA hx hq t k => XS.dup hA hx rfl (hb hq at_94) rfl rfl k) ?_
        show OFin _ _ _ _ _ _ _ _ T12 (mkF m 95 #[.val (.int p0), .val (.int p1), .val (.int p2), .val (.int sv), .val (.int (p2 &&& (3 : Int32))), .val (.int ((if (if (0 : Int64) < nr then nr else (0 : Int64)) < sv.toInt64 then (if (0 : Int64) < nr then nr else (0 : Int64)) else sv.toInt64).toInt32)), .val (.long nr), .second] [(.ref b12), (.ref b12)])
        refine X12.step (fun hA hx hq t k => XS.iloadN hA hx rfl (hb hq at_95) rfl k) ?_
        show OFin _ _ _ _ _ _ _ _ T12 (mkF m 96 #[.val (.int p0), .val (.int p1), .val (.int p2), .val (.int sv), .val (.int (p2 &&& (3 : Int32))), .val (.int ((if (if (0 : Int64) < nr then nr else (0 : Int64)) < sv.toInt64 then (if (0 : Int64) < nr then nr else (0 : Int64)) else sv.toInt64).toInt32)), .val (.long nr), .second] [(.int sv), (.ref b12), (.ref b12)])
        refine X12.callI (y' := (⟨"com/example/lean_lock/leanlock/Quorum", "<init>", "(I)V"⟩ : MethodName)) rfl (hw _ (List.mem_of_getElem? (i := 14) rfl)) (hw _ (List.mem_of_getElem? (i := 15) rfl)) (hw _ (List.mem_of_getElem? (i := 13) rfl)) (hw _ (List.mem_of_getElem? (i := 16) rfl)) (by decide) (a := b12) (argsL := [(.int sv)]) (rest := [(.ref b12)]) (rm4 l Z a0 hw b12 sv 0 h12 n0 F0 A12 (by rw [gb12]; exact Z0) g2) (g := (mkF m 96 #[.val (.int p0), .val (.int p1), .val (.int p2), .val (.int sv), .val (.int (p2 &&& (3 : Int32))), .val (.int ((if (if (0 : Int64) < nr then nr else (0 : Int64)) < sv.toInt64 then (if (0 : Int64) < nr then nr else (0 : Int64)) else sv.toInt64).toInt32)), .val (.long nr), .second] [(.int sv), (.ref b12), (.ref b12)])) rfl rfl pd_pIr_V rfl rfl (W := 1) (by show 2 * 0 + _ ≤ _; exact Nat.le_of_eq rfl) at_96 (by decide) (by decide) (by decide) (by decide) ?_
        intro v13 T13 h13 X13 q13
        obtain ⟨rfl, K13, E13, F13⟩ := q13
        show OFin _ _ _ _ _ _ _ _ T13 (mkF m 99 #[.val (.int p0), .val (.int p1), .val (.int p2), .val (.int sv), .val (.int (p2 &&& (3 : Int32))), .val (.int ((if (if (0 : Int64) < nr then nr else (0 : Int64)) < sv.toInt64 then (if (0 : Int64) < nr then nr else (0 : Int64)) else sv.toInt64).toInt32)), .val (.long nr), .second] [(.ref b12)])
        refine X13.step (fun hA hx hq t k => XS.astore hA hx rfl (hb hq at_99) rfl rfl (l' := #[.val (.int p0), .val (.int p1), .val (.int p2), .val (.int sv), .val (.int (p2 &&& (3 : Int32))), .val (.int ((if (if (0 : Int64) < nr then nr else (0 : Int64)) < sv.toInt64 then (if (0 : Int64) < nr then nr else (0 : Int64)) else sv.toInt64).toInt32)), .val (.ref b12), .unset]) rfl k) ?_
        show OFin _ _ _ _ _ _ _ _ T13 (mkF m 101 #[.val (.int p0), .val (.int p1), .val (.int p2), .val (.int sv), .val (.int (p2 &&& (3 : Int32))), .val (.int ((if (if (0 : Int64) < nr then nr else (0 : Int64)) < sv.toInt64 then (if (0 : Int64) < nr then nr else (0 : Int64)) else sv.toInt64).toInt32)), .val (.ref b12), .unset] [])
        refine X13.ldcL (hw _ (List.mem_of_getElem? (i := 27) rfl)) (g := (mkF m 101 #[.val (.int p0), .val (.int p1), .val (.int p2), .val (.int sv), .val (.int (p2 &&& (3 : Int32))), .val (.int ((if (if (0 : Int64) < nr then nr else (0 : Int64)) < sv.toInt64 then (if (0 : Int64) < nr then nr else (0 : Int64)) else sv.toInt64).toInt32)), .val (.ref b12), .unset] [])) rfl at_101 ?_
        show OFin _ _ _ _ _ _ _ _ T13 (mkF m 104 #[.val (.int p0), .val (.int p1), .val (.int p2), .val (.int sv), .val (.int (p2 &&& (3 : Int32))), .val (.int ((if (if (0 : Int64) < nr then nr else (0 : Int64)) < sv.toInt64 then (if (0 : Int64) < nr then nr else (0 : Int64)) else sv.toInt64).toInt32)), .val (.ref b12), .unset] [(.long (2 : Int64))])
        refine X13.step (fun hA hx hq t k => XS.iload hA hx rfl (hb hq at_104) rfl k) ?_
        show OFin _ _ _ _ _ _ _ _ T13 (mkF m 106 #[.val (.int p0), .val (.int p1), .val (.int p2), .val (.int sv), .val (.int (p2 &&& (3 : Int32))), .val (.int ((if (if (0 : Int64) < nr then nr else (0 : Int64)) < sv.toInt64 then (if (0 : Int64) < nr then nr else (0 : Int64)) else sv.toInt64).toInt32)), .val (.ref b12), .unset] [(.int ((if (if (0 : Int64) < nr then nr else (0 : Int64)) < sv.toInt64 then (if (0 : Int64) < nr then nr else (0 : Int64)) else sv.toInt64).toInt32)), (.long (2 : Int64))])
        refine X13.step (fun hA hx hq t k => XS.i2l hA hx rfl (hb hq at_106) rfl k) ?_
        show OFin _ _ _ _ _ _ _ _ T13 (mkF m 107 #[.val (.int p0), .val (.int p1), .val (.int p2), .val (.int sv), .val (.int (p2 &&& (3 : Int32))), .val (.int ((if (if (0 : Int64) < nr then nr else (0 : Int64)) < sv.toInt64 then (if (0 : Int64) < nr then nr else (0 : Int64)) else sv.toInt64).toInt32)), .val (.ref b12), .unset] [(.long (((if (if (0 : Int64) < nr then nr else (0 : Int64)) < sv.toInt64 then (if (0 : Int64) < nr then nr else (0 : Int64)) else sv.toInt64).toInt32).toInt64)), (.long (2 : Int64))])
        refine X13.step (fun hA hx hq t k => XS.lmul hA hx rfl (hb hq at_107) rfl k) ?_
        show OFin _ _ _ _ _ _ _ _ T13 (mkF m 108 #[.val (.int p0), .val (.int p1), .val (.int p2), .val (.int sv), .val (.int (p2 &&& (3 : Int32))), .val (.int ((if (if (0 : Int64) < nr then nr else (0 : Int64)) < sv.toInt64 then (if (0 : Int64) < nr then nr else (0 : Int64)) else sv.toInt64).toInt32)), .val (.ref b12), .unset] [(.long ((2 : Int64) * (((if (if (0 : Int64) < nr then nr else (0 : Int64)) < sv.toInt64 then (if (0 : Int64) < nr then nr else (0 : Int64)) else sv.toInt64).toInt32).toInt64)))])
        refine X13.step (fun hA hx hq t k => XS.iloadN hA hx rfl (hb hq at_108) rfl k) ?_
        show OFin _ _ _ _ _ _ _ _ T13 (mkF m 109 #[.val (.int p0), .val (.int p1), .val (.int p2), .val (.int sv), .val (.int (p2 &&& (3 : Int32))), .val (.int ((if (if (0 : Int64) < nr then nr else (0 : Int64)) < sv.toInt64 then (if (0 : Int64) < nr then nr else (0 : Int64)) else sv.toInt64).toInt32)), .val (.ref b12), .unset] [(.int sv), (.long ((2 : Int64) * (((if (if (0 : Int64) < nr then nr else (0 : Int64)) < sv.toInt64 then (if (0 : Int64) < nr then nr else (0 : Int64)) else sv.toInt64).toInt32).toInt64)))])
        refine X13.step (fun hA hx hq t k => XS.i2l hA hx rfl (hb hq at_109) rfl k) ?_
        show OFin _ _ _ _ _ _ _ _ T13 (mkF m 110 #[.val (.int p0), .val (.int p1), .val (.int p2), .val (.int sv), .val (.int (p2 &&& (3 : Int32))), .val (.int ((if (if (0 : Int64) < nr then nr else (0 : Int64)) < sv.toInt64 then (if (0 : Int64) < nr then nr else (0 : Int64)) else sv.toInt64).toInt32)), .val (.ref b12), .unset] [(.long (sv.toInt64)), (.long ((2 : Int64) * (((if (if (0 : Int64) < nr then nr else (0 : Int64)) < sv.toInt64 then (if (0 : Int64) < nr then nr else (0 : Int64)) else sv.toInt64).toInt32).toInt64)))])
        refine X13.step (fun hA hx hq t k => XS.lcmp hA hx rfl (hb hq at_110) rfl k) ?_
        show OFin _ _ _ _ _ _ _ _ T13 (mkF m 111 #[.val (.int p0), .val (.int p1), .val (.int p2), .val (.int sv), .val (.int (p2 &&& (3 : Int32))), .val (.int ((if (if (0 : Int64) < nr then nr else (0 : Int64)) < sv.toInt64 then (if (0 : Int64) < nr then nr else (0 : Int64)) else sv.toInt64).toInt32)), .val (.ref b12), .unset] [(.int (lcmpW ((2 : Int64) * (((if (if (0 : Int64) < nr then nr else (0 : Int64)) < sv.toInt64 then (if (0 : Int64) < nr then nr else (0 : Int64)) else sv.toInt64).toInt32).toInt64)) (sv.toInt64)))])
        by_cases k9 : (0 : Int32) < (lcmpW ((2 : Int64) * (((if (if (0 : Int64) < nr then nr else (0 : Int64)) < sv.toInt64 then (if (0 : Int64) < nr then nr else (0 : Int64)) else sv.toInt64).toInt32).toInt64)) (sv.toInt64))
        · refine X13.step (fun hA hx hq t k => XS.ifNo hA hx rfl (hb hq at_111) rfl ((if0 _ _).trans (tlt (k9)).2.2.2) k) ?_
          show OFin _ _ _ _ _ _ _ _ T13 (mkF m 114 #[.val (.int p0), .val (.int p1), .val (.int p2), .val (.int sv), .val (.int (p2 &&& (3 : Int32))), .val (.int ((if (if (0 : Int64) < nr then nr else (0 : Int64)) < sv.toInt64 then (if (0 : Int64) < nr then nr else (0 : Int64)) else sv.toInt64).toInt32)), .val (.ref b12), .unset] [])
          refine X13.step (fun hA hx hq t k => XS.iconst hA hx rfl (hb hq at_114) k) ?_
          show OFin _ _ _ _ _ _ _ _ T13 (mkF m 115 #[.val (.int p0), .val (.int p1), .val (.int p2), .val (.int sv), .val (.int (p2 &&& (3 : Int32))), .val (.int ((if (if (0 : Int64) < nr then nr else (0 : Int64)) < sv.toInt64 then (if (0 : Int64) < nr then nr else (0 : Int64)) else sv.toInt64).toInt32)), .val (.ref b12), .unset] [(.int (1 : Int32))])
          refine X13.step (fun hA hx hq t k => XS.goto hA hx rfl (pc0 := 115) (pc' := 119) rfl (hb hq at_115) (by decide) (by decide) k) ?_
          show OFin _ _ _ _ _ _ _ _ T13 (mkF m 119 #[.val (.int p0), .val (.int p1), .val (.int p2), .val (.int sv), .val (.int (p2 &&& (3 : Int32))), .val (.int ((if (if (0 : Int64) < nr then nr else (0 : Int64)) < sv.toInt64 then (if (0 : Int64) < nr then nr else (0 : Int64)) else sv.toInt64).toInt32)), .val (.ref b12), .unset] [(.int (1 : Int32))])
          refine X13.step (fun hA hx hq t k => XS.istore hA hx rfl (hb hq at_119) rfl (l' := #[.val (.int p0), .val (.int p1), .val (.int p2), .val (.int sv), .val (.int (p2 &&& (3 : Int32))), .val (.int ((if (if (0 : Int64) < nr then nr else (0 : Int64)) < sv.toInt64 then (if (0 : Int64) < nr then nr else (0 : Int64)) else sv.toInt64).toInt32)), .val (.ref b12), .val (.int (1 : Int32))]) rfl k) ?_
          show OFin _ _ _ _ _ _ _ _ T13 (mkF m 121 #[.val (.int p0), .val (.int p1), .val (.int p2), .val (.int sv), .val (.int (p2 &&& (3 : Int32))), .val (.int ((if (if (0 : Int64) < nr then nr else (0 : Int64)) < sv.toInt64 then (if (0 : Int64) < nr then nr else (0 : Int64)) else sv.toInt64).toInt32)), .val (.ref b12), .val (.int (1 : Int32))] [])
          refine X13.step (fun hA hx hq t k => XS.aload hA hx rfl (hb hq at_121) rfl rfl k) ?_
          show OFin _ _ _ _ _ _ _ _ T13 (mkF m 123 #[.val (.int p0), .val (.int p1), .val (.int p2), .val (.int sv), .val (.int (p2 &&& (3 : Int32))), .val (.int ((if (if (0 : Int64) < nr then nr else (0 : Int64)) < sv.toInt64 then (if (0 : Int64) < nr then nr else (0 : Int64)) else sv.toInt64).toInt32)), .val (.ref b12), .val (.int (1 : Int32))] [(.ref b12)])
          refine X13.step (fun hA hx hq t k => XS.iload hA hx rfl (hb hq at_123) rfl k) ?_
          show OFin _ _ _ _ _ _ _ _ T13 (mkF m 125 #[.val (.int p0), .val (.int p1), .val (.int p2), .val (.int sv), .val (.int (p2 &&& (3 : Int32))), .val (.int ((if (if (0 : Int64) < nr then nr else (0 : Int64)) < sv.toInt64 then (if (0 : Int64) < nr then nr else (0 : Int64)) else sv.toInt64).toInt32)), .val (.ref b12), .val (.int (1 : Int32))] [(.int ((if (if (0 : Int64) < nr then nr else (0 : Int64)) < sv.toInt64 then (if (0 : Int64) < nr then nr else (0 : Int64)) else sv.toInt64).toInt32)), (.ref b12)])
          refine X13.callV (y' := (⟨"com/example/lean_lock/leanlock/Quorum", "isMajority", "(I)Z"⟩ : MethodName)) (z' := (⟨"com/example/lean_lock/leanlock/Quorum", "isMajority", "(I)Z"⟩ : MethodName)) (hw _ (List.mem_of_getElem? (i := 28) rfl)) (hw _ (List.mem_of_getElem? (i := 29) rfl)) (X13.notFace (hw _ (List.mem_of_getElem? (i := 31) rfl)) rfl) (hw _ (List.mem_of_getElem? (i := 31) rfl)) (hw _ (List.mem_of_getElem? (i := 30) rfl)) (hw _ (List.mem_of_getElem? (i := 13) rfl)) (hw _ (List.mem_of_getElem? (i := 32) rfl)) (by decide) E13 (argsL := [(.int ((if (if (0 : Int64) < nr then nr else (0 : Int64)) < sv.toInt64 then (if (0 : Int64) < nr then nr else (0 : Int64)) else sv.toInt64).toInt32))]) (rest := []) (rm7 l Z a0 hw b12 ((if (if (0 : Int64) < nr then nr else (0 : Int64)) < sv.toInt64 then (if (0 : Int64) < nr then nr else (0 : Int64)) else sv.toInt64).toInt32) sv h13 n0 F13 E13 g0 g1) (g := (mkF m 125 #[.val (.int p0), .val (.int p1), .val (.int p2), .val (.int sv), .val (.int (p2 &&& (3 : Int32))), .val (.int ((if (if (0 : Int64) < nr then nr else (0 : Int64)) < sv.toInt64 then (if (0 : Int64) < nr then nr else (0 : Int64)) else sv.toInt64).toInt32)), .val (.ref b12), .val (.int (1 : Int32))] [(.int ((if (if (0 : Int64) < nr then nr else (0 : Int64)) < sv.toInt64 then (if (0 : Int64) < nr then nr else (0 : Int64)) else sv.toInt64).toInt32)), (.ref b12)])) rfl rfl pd_pIr_Z rfl rfl (W := 0) (by show 2 * 0 + _ ≤ _; exact Nat.le_of_eq rfl) at_125 (by decide) (by decide) (by decide) (by decide) ?_
          intro v15 T15 h15 X15 q15
          obtain ⟨rfl, rfl⟩ := q15
          show OFin _ _ _ _ _ _ _ _ T15 (mkF m 128 #[.val (.int p0), .val (.int p1), .val (.int p2), .val (.int sv), .val (.int (p2 &&& (3 : Int32))), .val (.int ((if (if (0 : Int64) < nr then nr else (0 : Int64)) < sv.toInt64 then (if (0 : Int64) < nr then nr else (0 : Int64)) else sv.toInt64).toInt32)), .val (.ref b12), .val (.int (1 : Int32))] [(.int (if ((if (if (0 : Int64) < nr then nr else (0 : Int64)) < sv.toInt64 then (if (0 : Int64) < nr then nr else (0 : Int64)) else sv.toInt64).toInt32) < sv / (2 : Int32) + (1 : Int32) then 0 else 1 : Int32))])
          refine X15.step (fun hA hx hq t k => XS.iload hA hx rfl (hb hq at_128) rfl k) ?_
          show OFin _ _ _ _ _ _ _ _ T15 (mkF m 130 #[.val (.int p0), .val (.int p1), .val (.int p2), .val (.int sv), .val (.int (p2 &&& (3 : Int32))), .val (.int ((if (if (0 : Int64) < nr then nr else (0 : Int64)) < sv.toInt64 then (if (0 : Int64) < nr then nr else (0 : Int64)) else sv.toInt64).toInt32)), .val (.ref b12), .val (.int (1 : Int32))] [(.int (1 : Int32)), (.int (if ((if (if (0 : Int64) < nr then nr else (0 : Int64)) < sv.toInt64 then (if (0 : Int64) < nr then nr else (0 : Int64)) else sv.toInt64).toInt32) < sv / (2 : Int32) + (1 : Int32) then 0 else 1 : Int32))])
          refine X15.step (fun hA hx hq t k => XS.icmpNo hA hx rfl (hb hq at_130) rfl (teq (if_neg (hk.mp k9))).2 k) ?_
          show OFin _ _ _ _ _ _ _ _ T15 (mkF m 133 #[.val (.int p0), .val (.int p1), .val (.int p2), .val (.int sv), .val (.int (p2 &&& (3 : Int32))), .val (.int ((if (if (0 : Int64) < nr then nr else (0 : Int64)) < sv.toInt64 then (if (0 : Int64) < nr then nr else (0 : Int64)) else sv.toInt64).toInt32)), .val (.ref b12), .val (.int (1 : Int32))] [])
          refine X15.step (fun hA hx hq t k => XS.iconst hA hx rfl (hb hq at_133) k) ?_
          show OFin _ _ _ _ _ _ _ _ T15 (mkF m 134 #[.val (.int p0), .val (.int p1), .val (.int p2), .val (.int sv), .val (.int (p2 &&& (3 : Int32))), .val (.int ((if (if (0 : Int64) < nr then nr else (0 : Int64)) < sv.toInt64 then (if (0 : Int64) < nr then nr else (0 : Int64)) else sv.toInt64).toInt32)), .val (.ref b12), .val (.int (1 : Int32))] [(.int (1 : Int32))])
          refine X15.step (fun hA hx hq t k => XS.goto hA hx rfl (pc0 := 134) (pc' := 138) rfl (hb hq at_134) (by decide) (by decide) k) ?_
          show OFin _ _ _ _ _ _ _ _ T15 (mkF m 138 #[.val (.int p0), .val (.int p1), .val (.int p2), .val (.int sv), .val (.int (p2 &&& (3 : Int32))), .val (.int ((if (if (0 : Int64) < nr then nr else (0 : Int64)) < sv.toInt64 then (if (0 : Int64) < nr then nr else (0 : Int64)) else sv.toInt64).toInt32)), .val (.ref b12), .val (.int (1 : Int32))] [(.int (1 : Int32))])
          exact X15.retN (by simp) at_138 (by decide) (by decide) (rfl)
        · refine X13.step (fun hA hx hq t k => XS.ifYes hA hx rfl (pc0 := 111) (pc' := 118) rfl (hb hq at_111) rfl ((if0 _ _).trans (flt (k9)).2.2.2) (by decide) (by decide) k) ?_
          show OFin _ _ _ _ _ _ _ _ T13 (mkF m 118 #[.val (.int p0), .val (.int p1), .val (.int p2), .val (.int sv), .val (.int (p2 &&& (3 : Int32))), .val (.int ((if (if (0 : Int64) < nr then nr else (0 : Int64)) < sv.toInt64 then (if (0 : Int64) < nr then nr else (0 : Int64)) else sv.toInt64).toInt32)), .val (.ref b12), .unset] [])
          refine X13.step (fun hA hx hq t k => XS.iconst hA hx rfl (hb hq at_118) k) ?_
          show OFin _ _ _ _ _ _ _ _ T13 (mkF m 119 #[.val (.int p0), .val (.int p1), .val (.int p2), .val (.int sv), .val (.int (p2 &&& (3 : Int32))), .val (.int ((if (if (0 : Int64) < nr then nr else (0 : Int64)) < sv.toInt64 then (if (0 : Int64) < nr then nr else (0 : Int64)) else sv.toInt64).toInt32)), .val (.ref b12), .unset] [(.int (0 : Int32))])
          refine X13.step (fun hA hx hq t k => XS.istore hA hx rfl (hb hq at_119) rfl (l' := #[.val (.int p0), .val (.int p1), .val (.int p2), .val (.int sv), .val (.int (p2 &&& (3 : Int32))), .val (.int ((if (if (0 : Int64) < nr then nr else (0 : Int64)) < sv.toInt64 then (if (0 : Int64) < nr then nr else (0 : Int64)) else sv.toInt64).toInt32)), .val (.ref b12), .val (.int (0 : Int32))]) rfl k) ?_
          show OFin _ _ _ _ _ _ _ _ T13 (mkF m 121 #[.val (.int p0), .val (.int p1), .val (.int p2), .val (.int sv), .val (.int (p2 &&& (3 : Int32))), .val (.int ((if (if (0 : Int64) < nr then nr else (0 : Int64)) < sv.toInt64 then (if (0 : Int64) < nr then nr else (0 : Int64)) else sv.toInt64).toInt32)), .val (.ref b12), .val (.int (0 : Int32))] [])
          refine X13.step (fun hA hx hq t k => XS.aload hA hx rfl (hb hq at_121) rfl rfl k) ?_
          show OFin _ _ _ _ _ _ _ _ T13 (mkF m 123 #[.val (.int p0), .val (.int p1), .val (.int p2), .val (.int sv), .val (.int (p2 &&& (3 : Int32))), .val (.int ((if (if (0 : Int64) < nr then nr else (0 : Int64)) < sv.toInt64 then (if (0 : Int64) < nr then nr else (0 : Int64)) else sv.toInt64).toInt32)), .val (.ref b12), .val (.int (0 : Int32))] [(.ref b12)])
          refine X13.step (fun hA hx hq t k => XS.iload hA hx rfl (hb hq at_123) rfl k) ?_
          show OFin _ _ _ _ _ _ _ _ T13 (mkF m 125 #[.val (.int p0), .val (.int p1), .val (.int p2), .val (.int sv), .val (.int (p2 &&& (3 : Int32))), .val (.int ((if (if (0 : Int64) < nr then nr else (0 : Int64)) < sv.toInt64 then (if (0 : Int64) < nr then nr else (0 : Int64)) else sv.toInt64).toInt32)), .val (.ref b12), .val (.int (0 : Int32))] [(.int ((if (if (0 : Int64) < nr then nr else (0 : Int64)) < sv.toInt64 then (if (0 : Int64) < nr then nr else (0 : Int64)) else sv.toInt64).toInt32)), (.ref b12)])
          refine X13.callV (y' := (⟨"com/example/lean_lock/leanlock/Quorum", "isMajority", "(I)Z"⟩ : MethodName)) (z' := (⟨"com/example/lean_lock/leanlock/Quorum", "isMajority", "(I)Z"⟩ : MethodName)) (hw _ (List.mem_of_getElem? (i := 28) rfl)) (hw _ (List.mem_of_getElem? (i := 29) rfl)) (X13.notFace (hw _ (List.mem_of_getElem? (i := 31) rfl)) rfl) (hw _ (List.mem_of_getElem? (i := 31) rfl)) (hw _ (List.mem_of_getElem? (i := 30) rfl)) (hw _ (List.mem_of_getElem? (i := 13) rfl)) (hw _ (List.mem_of_getElem? (i := 32) rfl)) (by decide) E13 (argsL := [(.int ((if (if (0 : Int64) < nr then nr else (0 : Int64)) < sv.toInt64 then (if (0 : Int64) < nr then nr else (0 : Int64)) else sv.toInt64).toInt32))]) (rest := []) (rm7 l Z a0 hw b12 ((if (if (0 : Int64) < nr then nr else (0 : Int64)) < sv.toInt64 then (if (0 : Int64) < nr then nr else (0 : Int64)) else sv.toInt64).toInt32) sv h13 n0 F13 E13 g0 g1) (g := (mkF m 125 #[.val (.int p0), .val (.int p1), .val (.int p2), .val (.int sv), .val (.int (p2 &&& (3 : Int32))), .val (.int ((if (if (0 : Int64) < nr then nr else (0 : Int64)) < sv.toInt64 then (if (0 : Int64) < nr then nr else (0 : Int64)) else sv.toInt64).toInt32)), .val (.ref b12), .val (.int (0 : Int32))] [(.int ((if (if (0 : Int64) < nr then nr else (0 : Int64)) < sv.toInt64 then (if (0 : Int64) < nr then nr else (0 : Int64)) else sv.toInt64).toInt32)), (.ref b12)])) rfl rfl pd_pIr_Z rfl rfl (W := 0) (by show 2 * 0 + _ ≤ _; exact Nat.le_of_eq rfl) at_125 (by decide) (by decide) (by decide) (by decide) ?_
          intro v14 T14 h14 X14 q14
          obtain ⟨rfl, rfl⟩ := q14
          show OFin _ _ _ _ _ _ _ _ T14 (mkF m 128 #[.val (.int p0), .val (.int p1), .val (.int p2), .val (.int sv), .val (.int (p2 &&& (3 : Int32))), .val (.int ((if (if (0 : Int64) < nr then nr else (0 : Int64)) < sv.toInt64 then (if (0 : Int64) < nr then nr else (0 : Int64)) else sv.toInt64).toInt32)), .val (.ref b12), .val (.int (0 : Int32))] [(.int (if ((if (if (0 : Int64) < nr then nr else (0 : Int64)) < sv.toInt64 then (if (0 : Int64) < nr then nr else (0 : Int64)) else sv.toInt64).toInt32) < sv / (2 : Int32) + (1 : Int32) then 0 else 1 : Int32))])
          refine X14.step (fun hA hx hq t k => XS.iload hA hx rfl (hb hq at_128) rfl k) ?_
          show OFin _ _ _ _ _ _ _ _ T14 (mkF m 130 #[.val (.int p0), .val (.int p1), .val (.int p2), .val (.int sv), .val (.int (p2 &&& (3 : Int32))), .val (.int ((if (if (0 : Int64) < nr then nr else (0 : Int64)) < sv.toInt64 then (if (0 : Int64) < nr then nr else (0 : Int64)) else sv.toInt64).toInt32)), .val (.ref b12), .val (.int (0 : Int32))] [(.int (0 : Int32)), (.int (if ((if (if (0 : Int64) < nr then nr else (0 : Int64)) < sv.toInt64 then (if (0 : Int64) < nr then nr else (0 : Int64)) else sv.toInt64).toInt32) < sv / (2 : Int32) + (1 : Int32) then 0 else 1 : Int32))])
          refine X14.step (fun hA hx hq t k => XS.icmpNo hA hx rfl (hb hq at_130) rfl (teq (if_pos (Decidable.not_not.mp fun q => k9 (hk.mpr q)))).2 k) ?_
          show OFin _ _ _ _ _ _ _ _ T14 (mkF m 133 #[.val (.int p0), .val (.int p1), .val (.int p2), .val (.int sv), .val (.int (p2 &&& (3 : Int32))), .val (.int ((if (if (0 : Int64) < nr then nr else (0 : Int64)) < sv.toInt64 then (if (0 : Int64) < nr then nr else (0 : Int64)) else sv.toInt64).toInt32)), .val (.ref b12), .val (.int (0 : Int32))] [])
          refine X14.step (fun hA hx hq t k => XS.iconst hA hx rfl (hb hq at_133) k) ?_
          show OFin _ _ _ _ _ _ _ _ T14 (mkF m 134 #[.val (.int p0), .val (.int p1), .val (.int p2), .val (.int sv), .val (.int (p2 &&& (3 : Int32))), .val (.int ((if (if (0 : Int64) < nr then nr else (0 : Int64)) < sv.toInt64 then (if (0 : Int64) < nr then nr else (0 : Int64)) else sv.toInt64).toInt32)), .val (.ref b12), .val (.int (0 : Int32))] [(.int (1 : Int32))])
          refine X14.step (fun hA hx hq t k => XS.goto hA hx rfl (pc0 := 134) (pc' := 138) rfl (hb hq at_134) (by decide) (by decide) k) ?_
          show OFin _ _ _ _ _ _ _ _ T14 (mkF m 138 #[.val (.int p0), .val (.int p1), .val (.int p2), .val (.int sv), .val (.int (p2 &&& (3 : Int32))), .val (.int ((if (if (0 : Int64) < nr then nr else (0 : Int64)) < sv.toInt64 then (if (0 : Int64) < nr then nr else (0 : Int64)) else sv.toInt64).toInt32)), .val (.ref b12), .val (.int (0 : Int32))] [(.int (1 : Int32))])
          exact X14.retN (by simp) at_138 (by decide) (by decide) (rfl)
      · refine X1.step (fun hA hx hq t k => XS.icmpYes hA hx rfl (pc0 := 45) (pc' := 78) rfl (hb hq at_45) rfl (feq (k3)).2 (by decide) (by decide) k) ?_
        show OFin _ _ _ _ _ _ _ _ T1 (mkF m 78 #[.val (.int p0), .val (.int p1), .val (.int p2), .val (.int sv), .val (.int (p2 &&& (3 : Int32))), .unset, .unset, .unset] [])
        refine X1.step (fun hA hx hq t k => XS.iloadN hA hx rfl (hb hq at_78) rfl k) ?_
        show OFin _ _ _ _ _ _ _ _ T1 (mkF m 79 #[.val (.int p0), .val (.int p1), .val (.int p2), .val (.int sv), .val (.int (p2 &&& (3 : Int32))), .unset, .unset, .unset] [(.int p1)])
        refine X1.step (fun hA hx hq t k => XS.iconst hA hx rfl (hb hq at_79) k) ?_
        show OFin _ _ _ _ _ _ _ _ T1 (mkF m 80 #[.val (.int p0), .val (.int p1), .val (.int p2), .val (.int sv), .val (.int (p2 &&& (3 : Int32))), .unset, .unset, .unset] [(.int (1 : Int32)), (.int p1)])
        refine X1.step (fun hA hx hq t k => XS.iand hA hx rfl (hb hq at_80) rfl k) ?_
        show OFin _ _ _ _ _ _ _ _ T1 (mkF m 81 #[.val (.int p0), .val (.int p1), .val (.int p2), .val (.int sv), .val (.int (p2 &&& (3 : Int32))), .unset, .unset, .unset] [(.int (p1 &&& (1 : Int32)))])
        by_cases k4 : (p1 &&& (1 : Int32)) = (0 : Int32)
        · refine X1.step (fun hA hx hq t k => XS.ifNo hA hx rfl (hb hq at_81) rfl ((if0 _ _).trans (teq (k4)).2) k) ?_
          show OFin _ _ _ _ _ _ _ _ T1 (mkF m 84 #[.val (.int p0), .val (.int p1), .val (.int p2), .val (.int sv), .val (.int (p2 &&& (3 : Int32))), .unset, .unset, .unset] [])
          refine X1.step (fun hA hx hq t k => XS.iconst hA hx rfl (hb hq at_84) k) ?_
          show OFin _ _ _ _ _ _ _ _ T1 (mkF m 85 #[.val (.int p0), .val (.int p1), .val (.int p2), .val (.int sv), .val (.int (p2 &&& (3 : Int32))), .unset, .unset, .unset] [(.int (0 : Int32))])
          refine X1.step (fun hA hx hq t k => XS.goto hA hx rfl (pc0 := 85) (pc' := 89) rfl (hb hq at_85) (by decide) (by decide) k) ?_
          show OFin _ _ _ _ _ _ _ _ T1 (mkF m 89 #[.val (.int p0), .val (.int p1), .val (.int p2), .val (.int sv), .val (.int (p2 &&& (3 : Int32))), .unset, .unset, .unset] [(.int (0 : Int32))])
          refine X1.step (fun hA hx hq t k => XS.istore hA hx rfl (hb hq at_89) rfl (l' := #[.val (.int p0), .val (.int p1), .val (.int p2), .val (.int sv), .val (.int (p2 &&& (3 : Int32))), .val (.int (0 : Int32)), .unset, .unset]) rfl k) ?_
          show OFin _ _ _ _ _ _ _ _ T1 (mkF m 91 #[.val (.int p0), .val (.int p1), .val (.int p2), .val (.int sv), .val (.int (p2 &&& (3 : Int32))), .val (.int (0 : Int32)), .unset, .unset] [])
          have hk := own_key (0 : Int32) sv (show 0 ≤ (0 : Int32).toInt by decide) (show (0 : Int32).toInt ≤ sv.toInt by have : (0 : Int32).toInt = 0 := (by decide); omega)
          have g0 : ¬ (0 : Int32) < (0 : Int32) := by rw [Int32.lt_iff_toInt_lt]; have : (0 : Int32).toInt = 0 := (by decide); have := (show 0 ≤ (0 : Int32).toInt by decide); omega
          have g1 : ¬ sv < (0 : Int32) := by rw [Int32.lt_iff_toInt_lt]; have := (show (0 : Int32).toInt ≤ sv.toInt by have : (0 : Int32).toInt = 0 := (by decide); omega); omega
          have g2 : ¬ sv < (1 : Int32) := by rw [Int32.lt_iff_toInt_lt]; have : (1 : Int32).toInt = 1 := (by decide); omega
          refine X1.newO (hw _ (List.mem_of_getElem? (i := 11) rfl)) (hw _ (List.mem_of_getElem? (i := 12) rfl)) (hw _ (List.mem_of_getElem? (i := 13) rfl)) (g := (mkF m 91 #[.val (.int p0), .val (.int p1), .val (.int p2), .val (.int sv), .val (.int (p2 &&& (3 : Int32))), .val (.int (0 : Int32)), .unset, .unset] [])) rfl at_91 (by decide) (by decide) ?_
          intro T20 h20 b20 gb20 X20 E20 A20 D20
          show OFin _ _ _ _ _ _ _ _ T20 (mkF m 94 #[.val (.int p0), .val (.int p1), .val (.int p2), .val (.int sv), .val (.int (p2 &&& (3 : Int32))), .val (.int (0 : Int32)), .unset, .unset] [(.ref b20)])
          have F0 : Fld Z h20 b20 "com/example/lean_lock/leanlock/Quorum" "servers" "I" (.int (0 : Int32)) := D20 (Or.inr (hw _ (List.mem_of_getElem? (i := 26) rfl))) (ty := .int) (by decide)
          refine X20.step (fun hA hx hq t k => XS.dup hA hx rfl (hb hq at_94) rfl rfl k) ?_
          show OFin _ _ _ _ _ _ _ _ T20 (mkF m 95 #[.val (.int p0), .val (.int p1), .val (.int p2), .val (.int sv), .val (.int (p2 &&& (3 : Int32))), .val (.int (0 : Int32)), .unset, .unset] [(.ref b20), (.ref b20)])
          refine X20.step (fun hA hx hq t k => XS.iloadN hA hx rfl (hb hq at_95) rfl k) ?_
          show OFin _ _ _ _ _ _ _ _ T20 (mkF m 96 #[.val (.int p0), .val (.int p1), .val (.int p2), .val (.int sv), .val (.int (p2 &&& (3 : Int32))), .val (.int (0 : Int32)), .unset, .unset] [(.int sv), (.ref b20), (.ref b20)])
          refine X20.callI (y' := (⟨"com/example/lean_lock/leanlock/Quorum", "<init>", "(I)V"⟩ : MethodName)) rfl (hw _ (List.mem_of_getElem? (i := 14) rfl)) (hw _ (List.mem_of_getElem? (i := 15) rfl)) (hw _ (List.mem_of_getElem? (i := 13) rfl)) (hw _ (List.mem_of_getElem? (i := 16) rfl)) (by decide) (a := b20) (argsL := [(.int sv)]) (rest := [(.ref b20)]) (rm4 l Z a0 hw b20 sv 0 h20 n0 F0 A20 (by rw [gb20]; exact Z0) g2) (g := (mkF m 96 #[.val (.int p0), .val (.int p1), .val (.int p2), .val (.int sv), .val (.int (p2 &&& (3 : Int32))), .val (.int (0 : Int32)), .unset, .unset] [(.int sv), (.ref b20), (.ref b20)])) rfl rfl pd_pIr_V rfl rfl (W := 1) (by show 2 * 0 + _ ≤ _; exact Nat.le_of_eq rfl) at_96 (by decide) (by decide) (by decide) (by decide) ?_
          intro v21 T21 h21 X21 q21
          obtain ⟨rfl, K21, E21, F21⟩ := q21
          show OFin _ _ _ _ _ _ _ _ T21 (mkF m 99 #[.val (.int p0), .val (.int p1), .val (.int p2), .val (.int sv), .val (.int (p2 &&& (3 : Int32))), .val (.int (0 : Int32)), .unset, .unset] [(.ref b20)])
          refine X21.step (fun hA hx hq t k => XS.astore hA hx rfl (hb hq at_99) rfl rfl (l' := #[.val (.int p0), .val (.int p1), .val (.int p2), .val (.int sv), .val (.int (p2 &&& (3 : Int32))), .val (.int (0 : Int32)), .val (.ref b20), .unset]) rfl k) ?_
          show OFin _ _ _ _ _ _ _ _ T21 (mkF m 101 #[.val (.int p0), .val (.int p1), .val (.int p2), .val (.int sv), .val (.int (p2 &&& (3 : Int32))), .val (.int (0 : Int32)), .val (.ref b20), .unset] [])
          refine X21.ldcL (hw _ (List.mem_of_getElem? (i := 27) rfl)) (g := (mkF m 101 #[.val (.int p0), .val (.int p1), .val (.int p2), .val (.int sv), .val (.int (p2 &&& (3 : Int32))), .val (.int (0 : Int32)), .val (.ref b20), .unset] [])) rfl at_101 ?_
          show OFin _ _ _ _ _ _ _ _ T21 (mkF m 104 #[.val (.int p0), .val (.int p1), .val (.int p2), .val (.int sv), .val (.int (p2 &&& (3 : Int32))), .val (.int (0 : Int32)), .val (.ref b20), .unset] [(.long (2 : Int64))])
          refine X21.step (fun hA hx hq t k => XS.iload hA hx rfl (hb hq at_104) rfl k) ?_
          show OFin _ _ _ _ _ _ _ _ T21 (mkF m 106 #[.val (.int p0), .val (.int p1), .val (.int p2), .val (.int sv), .val (.int (p2 &&& (3 : Int32))), .val (.int (0 : Int32)), .val (.ref b20), .unset] [(.int (0 : Int32)), (.long (2 : Int64))])
          refine X21.step (fun hA hx hq t k => XS.i2l hA hx rfl (hb hq at_106) rfl k) ?_
          show OFin _ _ _ _ _ _ _ _ T21 (mkF m 107 #[.val (.int p0), .val (.int p1), .val (.int p2), .val (.int sv), .val (.int (p2 &&& (3 : Int32))), .val (.int (0 : Int32)), .val (.ref b20), .unset] [(.long ((0 : Int32).toInt64)), (.long (2 : Int64))])
          refine X21.step (fun hA hx hq t k => XS.lmul hA hx rfl (hb hq at_107) rfl k) ?_
          show OFin _ _ _ _ _ _ _ _ T21 (mkF m 108 #[.val (.int p0), .val (.int p1), .val (.int p2), .val (.int sv), .val (.int (p2 &&& (3 : Int32))), .val (.int (0 : Int32)), .val (.ref b20), .unset] [(.long ((2 : Int64) * ((0 : Int32).toInt64)))])
          refine X21.step (fun hA hx hq t k => XS.iloadN hA hx rfl (hb hq at_108) rfl k) ?_
          show OFin _ _ _ _ _ _ _ _ T21 (mkF m 109 #[.val (.int p0), .val (.int p1), .val (.int p2), .val (.int sv), .val (.int (p2 &&& (3 : Int32))), .val (.int (0 : Int32)), .val (.ref b20), .unset] [(.int sv), (.long ((2 : Int64) * ((0 : Int32).toInt64)))])
          refine X21.step (fun hA hx hq t k => XS.i2l hA hx rfl (hb hq at_109) rfl k) ?_
          show OFin _ _ _ _ _ _ _ _ T21 (mkF m 110 #[.val (.int p0), .val (.int p1), .val (.int p2), .val (.int sv), .val (.int (p2 &&& (3 : Int32))), .val (.int (0 : Int32)), .val (.ref b20), .unset] [(.long (sv.toInt64)), (.long ((2 : Int64) * ((0 : Int32).toInt64)))])
          refine X21.step (fun hA hx hq t k => XS.lcmp hA hx rfl (hb hq at_110) rfl k) ?_
          show OFin _ _ _ _ _ _ _ _ T21 (mkF m 111 #[.val (.int p0), .val (.int p1), .val (.int p2), .val (.int sv), .val (.int (p2 &&& (3 : Int32))), .val (.int (0 : Int32)), .val (.ref b20), .unset] [(.int (lcmpW ((2 : Int64) * ((0 : Int32).toInt64)) (sv.toInt64)))])
          by_cases k9 : (0 : Int32) < (lcmpW ((2 : Int64) * ((0 : Int32).toInt64)) (sv.toInt64))
          · refine X21.step (fun hA hx hq t k => XS.ifNo hA hx rfl (hb hq at_111) rfl ((if0 _ _).trans (tlt (k9)).2.2.2) k) ?_
            show OFin _ _ _ _ _ _ _ _ T21 (mkF m 114 #[.val (.int p0), .val (.int p1), .val (.int p2), .val (.int sv), .val (.int (p2 &&& (3 : Int32))), .val (.int (0 : Int32)), .val (.ref b20), .unset] [])
            refine X21.step (fun hA hx hq t k => XS.iconst hA hx rfl (hb hq at_114) k) ?_
            show OFin _ _ _ _ _ _ _ _ T21 (mkF m 115 #[.val (.int p0), .val (.int p1), .val (.int p2), .val (.int sv), .val (.int (p2 &&& (3 : Int32))), .val (.int (0 : Int32)), .val (.ref b20), .unset] [(.int (1 : Int32))])
            refine X21.step (fun hA hx hq t k => XS.goto hA hx rfl (pc0 := 115) (pc' := 119) rfl (hb hq at_115) (by decide) (by decide) k) ?_
            show OFin _ _ _ _ _ _ _ _ T21 (mkF m 119 #[.val (.int p0), .val (.int p1), .val (.int p2), .val (.int sv), .val (.int (p2 &&& (3 : Int32))), .val (.int (0 : Int32)), .val (.ref b20), .unset] [(.int (1 : Int32))])
            refine X21.step (fun hA hx hq t k => XS.istore hA hx rfl (hb hq at_119) rfl (l' := #[.val (.int p0), .val (.int p1), .val (.int p2), .val (.int sv), .val (.int (p2 &&& (3 : Int32))), .val (.int (0 : Int32)), .val (.ref b20), .val (.int (1 : Int32))]) rfl k) ?_
            show OFin _ _ _ _ _ _ _ _ T21 (mkF m 121 #[.val (.int p0), .val (.int p1), .val (.int p2), .val (.int sv), .val (.int (p2 &&& (3 : Int32))), .val (.int (0 : Int32)), .val (.ref b20), .val (.int (1 : Int32))] [])
            refine X21.step (fun hA hx hq t k => XS.aload hA hx rfl (hb hq at_121) rfl rfl k) ?_
            show OFin _ _ _ _ _ _ _ _ T21 (mkF m 123 #[.val (.int p0), .val (.int p1), .val (.int p2), .val (.int sv), .val (.int (p2 &&& (3 : Int32))), .val (.int (0 : Int32)), .val (.ref b20), .val (.int (1 : Int32))] [(.ref b20)])
            refine X21.step (fun hA hx hq t k => XS.iload hA hx rfl (hb hq at_123) rfl k) ?_
            show OFin _ _ _ _ _ _ _ _ T21 (mkF m 125 #[.val (.int p0), .val (.int p1), .val (.int p2), .val (.int sv), .val (.int (p2 &&& (3 : Int32))), .val (.int (0 : Int32)), .val (.ref b20), .val (.int (1 : Int32))] [(.int (0 : Int32)), (.ref b20)])
            refine X21.callV (y' := (⟨"com/example/lean_lock/leanlock/Quorum", "isMajority", "(I)Z"⟩ : MethodName)) (z' := (⟨"com/example/lean_lock/leanlock/Quorum", "isMajority", "(I)Z"⟩ : MethodName)) (hw _ (List.mem_of_getElem? (i := 28) rfl)) (hw _ (List.mem_of_getElem? (i := 29) rfl)) (X21.notFace (hw _ (List.mem_of_getElem? (i := 31) rfl)) rfl) (hw _ (List.mem_of_getElem? (i := 31) rfl)) (hw _ (List.mem_of_getElem? (i := 30) rfl)) (hw _ (List.mem_of_getElem? (i := 13) rfl)) (hw _ (List.mem_of_getElem? (i := 32) rfl)) (by decide) E21 (argsL := [(.int (0 : Int32))]) (rest := []) (rm7 l Z a0 hw b20 (0 : Int32) sv h21 n0 F21 E21 g0 g1) (g := (mkF m 125 #[.val (.int p0), .val (.int p1), .val (.int p2), .val (.int sv), .val (.int (p2 &&& (3 : Int32))), .val (.int (0 : Int32)), .val (.ref b20), .val (.int (1 : Int32))] [(.int (0 : Int32)), (.ref b20)])) rfl rfl pd_pIr_Z rfl rfl (W := 0) (by show 2 * 0 + _ ≤ _; exact Nat.le_of_eq rfl) at_125 (by decide) (by decide) (by decide) (by decide) ?_
            intro v23 T23 h23 X23 q23
            obtain ⟨rfl, rfl⟩ := q23
            show OFin _ _ _ _ _ _ _ _ T23 (mkF m 128 #[.val (.int p0), .val (.int p1), .val (.int p2), .val (.int sv), .val (.int (p2 &&& (3 : Int32))), .val (.int (0 : Int32)), .val (.ref b20), .val (.int (1 : Int32))] [(.int (if (0 : Int32) < sv / (2 : Int32) + (1 : Int32) then 0 else 1 : Int32))])
            refine X23.step (fun hA hx hq t k => XS.iload hA hx rfl (hb hq at_128) rfl k) ?_
            show OFin _ _ _ _ _ _ _ _ T23 (mkF m 130 #[.val (.int p0), .val (.int p1), .val (.int p2), .val (.int sv), .val (.int (p2 &&& (3 : Int32))), .val (.int (0 : Int32)), .val (.ref b20), .val (.int (1 : Int32))] [(.int (1 : Int32)), (.int (if (0 : Int32) < sv / (2 : Int32) + (1 : Int32) then 0 else 1 : Int32))])
            refine X23.step (fun hA hx hq t k => XS.icmpNo hA hx rfl (hb hq at_130) rfl (teq (if_neg (hk.mp k9))).2 k) ?_
            show OFin _ _ _ _ _ _ _ _ T23 (mkF m 133 #[.val (.int p0), .val (.int p1), .val (.int p2), .val (.int sv), .val (.int (p2 &&& (3 : Int32))), .val (.int (0 : Int32)), .val (.ref b20), .val (.int (1 : Int32))] [])
            refine X23.step (fun hA hx hq t k => XS.iconst hA hx rfl (hb hq at_133) k) ?_
            show OFin _ _ _ _ _ _ _ _ T23 (mkF m 134 #[.val (.int p0), .val (.int p1), .val (.int p2), .val (.int sv), .val (.int (p2 &&& (3 : Int32))), .val (.int (0 : Int32)), .val (.ref b20), .val (.int (1 : Int32))] [(.int (1 : Int32))])
            refine X23.step (fun hA hx hq t k => XS.goto hA hx rfl (pc0 := 134) (pc' := 138) rfl (hb hq at_134) (by decide) (by decide) k) ?_
            show OFin _ _ _ _ _ _ _ _ T23 (mkF m 138 #[.val (.int p0), .val (.int p1), .val (.int p2), .val (.int sv), .val (.int (p2 &&& (3 : Int32))), .val (.int (0 : Int32)), .val (.ref b20), .val (.int (1 : Int32))] [(.int (1 : Int32))])
            exact X23.retN (by simp) at_138 (by decide) (by decide) (rfl)
          · refine X21.step (fun hA hx hq t k => XS.ifYes hA hx rfl (pc0 := 111) (pc' := 118) rfl (hb hq at_111) rfl ((if0 _ _).trans (flt (k9)).2.2.2) (by decide) (by decide) k) ?_
            show OFin _ _ _ _ _ _ _ _ T21 (mkF m 118 #[.val (.int p0), .val (.int p1), .val (.int p2), .val (.int sv), .val (.int (p2 &&& (3 : Int32))), .val (.int (0 : Int32)), .val (.ref b20), .unset] [])
            refine X21.step (fun hA hx hq t k => XS.iconst hA hx rfl (hb hq at_118) k) ?_
            show OFin _ _ _ _ _ _ _ _ T21 (mkF m 119 #[.val (.int p0), .val (.int p1), .val (.int p2), .val (.int sv), .val (.int (p2 &&& (3 : Int32))), .val (.int (0 : Int32)), .val (.ref b20), .unset] [(.int (0 : Int32))])
            refine X21.step (fun hA hx hq t k => XS.istore hA hx rfl (hb hq at_119) rfl (l' := #[.val (.int p0), .val (.int p1), .val (.int p2), .val (.int sv), .val (.int (p2 &&& (3 : Int32))), .val (.int (0 : Int32)), .val (.ref b20), .val (.int (0 : Int32))]) rfl k) ?_
            show OFin _ _ _ _ _ _ _ _ T21 (mkF m 121 #[.val (.int p0), .val (.int p1), .val (.int p2), .val (.int sv), .val (.int (p2 &&& (3 : Int32))), .val (.int (0 : Int32)), .val (.ref b20), .val (.int (0 : Int32))] [])
            refine X21.step (fun hA hx hq t k => XS.aload hA hx rfl (hb hq at_121) rfl rfl k) ?_
            show OFin _ _ _ _ _ _ _ _ T21 (mkF m 123 #[.val (.int p0), .val (.int p1), .val (.int p2), .val (.int sv), .val (.int (p2 &&& (3 : Int32))), .val (.int (0 : Int32)), .val (.ref b20), .val (.int (0 : Int32))] [(.ref b20)])
            refine X21.step (fun hA hx hq t k => XS.iload hA hx rfl (hb hq at_123) rfl k) ?_
            show OFin _ _ _ _ _ _ _ _ T21 (mkF m 125 #[.val (.int p0), .val (.int p1), .val (.int p2), .val (.int sv), .val (.int (p2 &&& (3 : Int32))), .val (.int (0 : Int32)), .val (.ref b20), .val (.int (0 : Int32))] [(.int (0 : Int32)), (.ref b20)])
            refine X21.callV (y' := (⟨"com/example/lean_lock/leanlock/Quorum", "isMajority", "(I)Z"⟩ : MethodName)) (z' := (⟨"com/example/lean_lock/leanlock/Quorum", "isMajority", "(I)Z"⟩ : MethodName)) (hw _ (List.mem_of_getElem? (i := 28) rfl)) (hw _ (List.mem_of_getElem? (i := 29) rfl)) (X21.notFace (hw _ (List.mem_of_getElem? (i := 31) rfl)) rfl) (hw _ (List.mem_of_getElem? (i := 31) rfl)) (hw _ (List.mem_of_getElem? (i := 30) rfl)) (hw _ (List.mem_of_getElem? (i := 13) rfl)) (hw _ (List.mem_of_getElem? (i := 32) rfl)) (by decide) E21 (argsL := [(.int (0 : Int32))]) (rest := []) (rm7 l Z a0 hw b20 (0 : Int32) sv h21 n0 F21 E21 g0 g1) (g := (mkF m 125 #[.val (.int p0), .val (.int p1), .val (.int p2), .val (.int sv), .val (.int (p2 &&& (3 : Int32))), .val (.int (0 : Int32)), .val (.ref b20), .val (.int (0 : Int32))] [(.int (0 : Int32)), (.ref b20)])) rfl rfl pd_pIr_Z rfl rfl (W := 0) (by show 2 * 0 + _ ≤ _; exact Nat.le_of_eq rfl) at_125 (by decide) (by decide) (by decide) (by decide) ?_
            intro v22 T22 h22 X22 q22
            obtain ⟨rfl, rfl⟩ := q22
            show OFin _ _ _ _ _ _ _ _ T22 (mkF m 128 #[.val (.int p0), .val (.int p1), .val (.int p2), .val (.int sv), .val (.int (p2 &&& (3 : Int32))), .val (.int (0 : Int32)), .val (.ref b20), .val (.int (0 : Int32))] [(.int (if (0 : Int32) < sv / (2 : Int32) + (1 : Int32) then 0 else 1 : Int32))])
            refine X22.step (fun hA hx hq t k => XS.iload hA hx rfl (hb hq at_128) rfl k) ?_
            show OFin _ _ _ _ _ _ _ _ T22 (mkF m 130 #[.val (.int p0), .val (.int p1), .val (.int p2), .val (.int sv), .val (.int (p2 &&& (3 : Int32))), .val (.int (0 : Int32)), .val (.ref b20), .val (.int (0 : Int32))] [(.int (0 : Int32)), (.int (if (0 : Int32) < sv / (2 : Int32) + (1 : Int32) then 0 else 1 : Int32))])
            refine X22.step (fun hA hx hq t k => XS.icmpNo hA hx rfl (hb hq at_130) rfl (teq (if_pos (Decidable.not_not.mp fun q => k9 (hk.mpr q)))).2 k) ?_
            show OFin _ _ _ _ _ _ _ _ T22 (mkF m 133 #[.val (.int p0), .val (.int p1), .val (.int p2), .val (.int sv), .val (.int (p2 &&& (3 : Int32))), .val (.int (0 : Int32)), .val (.ref b20), .val (.int (0 : Int32))] [])
            refine X22.step (fun hA hx hq t k => XS.iconst hA hx rfl (hb hq at_133) k) ?_
            show OFin _ _ _ _ _ _ _ _ T22 (mkF m 134 #[.val (.int p0), .val (.int p1), .val (.int p2), .val (.int sv), .val (.int (p2 &&& (3 : Int32))), .val (.int (0 : Int32)), .val (.ref b20), .val (.int (0 : Int32))] [(.int (1 : Int32))])
            refine X22.step (fun hA hx hq t k => XS.goto hA hx rfl (pc0 := 134) (pc' := 138) rfl (hb hq at_134) (by decide) (by decide) k) ?_
            show OFin _ _ _ _ _ _ _ _ T22 (mkF m 138 #[.val (.int p0), .val (.int p1), .val (.int p2), .val (.int sv), .val (.int (p2 &&& (3 : Int32))), .val (.int (0 : Int32)), .val (.ref b20), .val (.int (0 : Int32))] [(.int (1 : Int32))])
            exact X22.retN (by simp) at_138 (by decide) (by decide) (rfl)
        · refine X1.step (fun hA hx hq t k => XS.ifYes hA hx rfl (pc0 := 81) (pc' := 88) rfl (hb hq at_81) rfl ((if0 _ _).trans (feq (k4)).2) (by decide) (by decide) k) ?_
          show OFin _ _ _ _ _ _ _ _ T1 (mkF m 88 #[.val (.int p0), .val (.int p1), .val (.int p2), .val (.int sv), .val (.int (p2 &&& (3 : Int32))), .unset, .unset, .unset] [])
          refine X1.step (fun hA hx hq t k => XS.iloadN hA hx rfl (hb hq at_88) rfl k) ?_
          show OFin _ _ _ _ _ _ _ _ T1 (mkF m 89 #[.val (.int p0), .val (.int p1), .val (.int p2), .val (.int sv), .val (.int (p2 &&& (3 : Int32))), .unset, .unset, .unset] [(.int sv)])
          refine X1.step (fun hA hx hq t k => XS.istore hA hx rfl (hb hq at_89) rfl (l' := #[.val (.int p0), .val (.int p1), .val (.int p2), .val (.int sv), .val (.int (p2 &&& (3 : Int32))), .val (.int sv), .unset, .unset]) rfl k) ?_
          show OFin _ _ _ _ _ _ _ _ T1 (mkF m 91 #[.val (.int p0), .val (.int p1), .val (.int p2), .val (.int sv), .val (.int (p2 &&& (3 : Int32))), .val (.int sv), .unset, .unset] [])
          have hk := own_key sv sv (show 0 ≤ sv.toInt by omega) (Int.le_refl sv.toInt)
          have g0 : ¬ sv < (0 : Int32) := by rw [Int32.lt_iff_toInt_lt]; have : (0 : Int32).toInt = 0 := (by decide); have := (show 0 ≤ sv.toInt by omega); omega
          have g1 : ¬ sv < sv := by rw [Int32.lt_iff_toInt_lt]; have := (Int.le_refl sv.toInt); omega
          have g2 : ¬ sv < (1 : Int32) := by rw [Int32.lt_iff_toInt_lt]; have : (1 : Int32).toInt = 1 := (by decide); omega
          refine X1.newO (hw _ (List.mem_of_getElem? (i := 11) rfl)) (hw _ (List.mem_of_getElem? (i := 12) rfl)) (hw _ (List.mem_of_getElem? (i := 13) rfl)) (g := (mkF m 91 #[.val (.int p0), .val (.int p1), .val (.int p2), .val (.int sv), .val (.int (p2 &&& (3 : Int32))), .val (.int sv), .unset, .unset] [])) rfl at_91 (by decide) (by decide) ?_
          intro T16 h16 b16 gb16 X16 E16 A16 D16
          show OFin _ _ _ _ _ _ _ _ T16 (mkF m 94 #[.val (.int p0), .val (.int p1), .val (.int p2), .val (.int sv), .val (.int (p2 &&& (3 : Int32))), .val (.int sv), .unset, .unset] [(.ref b16)])
          have F0 : Fld Z h16 b16 "com/example/lean_lock/leanlock/Quorum" "servers" "I" (.int (0 : Int32)) := D16 (Or.inr (hw _ (List.mem_of_getElem? (i := 26) rfl))) (ty := .int) (by decide)
          refine X16.step (fun hA hx hq t k => XS.dup hA hx rfl (hb hq at_94) rfl rfl k) ?_
          show OFin _ _ _ _ _ _ _ _ T16 (mkF m 95 #[.val (.int p0), .val (.int p1), .val (.int p2), .val (.int sv), .val (.int (p2 &&& (3 : Int32))), .val (.int sv), .unset, .unset] [(.ref b16), (.ref b16)])
          refine X16.step (fun hA hx hq t k => XS.iloadN hA hx rfl (hb hq at_95) rfl k) ?_
          show OFin _ _ _ _ _ _ _ _ T16 (mkF m 96 #[.val (.int p0), .val (.int p1), .val (.int p2), .val (.int sv), .val (.int (p2 &&& (3 : Int32))), .val (.int sv), .unset, .unset] [(.int sv), (.ref b16), (.ref b16)])
          refine X16.callI (y' := (⟨"com/example/lean_lock/leanlock/Quorum", "<init>", "(I)V"⟩ : MethodName)) rfl (hw _ (List.mem_of_getElem? (i := 14) rfl)) (hw _ (List.mem_of_getElem? (i := 15) rfl)) (hw _ (List.mem_of_getElem? (i := 13) rfl)) (hw _ (List.mem_of_getElem? (i := 16) rfl)) (by decide) (a := b16) (argsL := [(.int sv)]) (rest := [(.ref b16)]) (rm4 l Z a0 hw b16 sv 0 h16 n0 F0 A16 (by rw [gb16]; exact Z0) g2) (g := (mkF m 96 #[.val (.int p0), .val (.int p1), .val (.int p2), .val (.int sv), .val (.int (p2 &&& (3 : Int32))), .val (.int sv), .unset, .unset] [(.int sv), (.ref b16), (.ref b16)])) rfl rfl pd_pIr_V rfl rfl (W := 1) (by show 2 * 0 + _ ≤ _; exact Nat.le_of_eq rfl) at_96 (by decide) (by decide) (by decide) (by decide) ?_
          intro v17 T17 h17 X17 q17
          obtain ⟨rfl, K17, E17, F17⟩ := q17
          show OFin _ _ _ _ _ _ _ _ T17 (mkF m 99 #[.val (.int p0), .val (.int p1), .val (.int p2), .val (.int sv), .val (.int (p2 &&& (3 : Int32))), .val (.int sv), .unset, .unset] [(.ref b16)])
          refine X17.step (fun hA hx hq t k => XS.astore hA hx rfl (hb hq at_99) rfl rfl (l' := #[.val (.int p0), .val (.int p1), .val (.int p2), .val (.int sv), .val (.int (p2 &&& (3 : Int32))), .val (.int sv), .val (.ref b16), .unset]) rfl k) ?_
          show OFin _ _ _ _ _ _ _ _ T17 (mkF m 101 #[.val (.int p0), .val (.int p1), .val (.int p2), .val (.int sv), .val (.int (p2 &&& (3 : Int32))), .val (.int sv), .val (.ref b16), .unset] [])
          refine X17.ldcL (hw _ (List.mem_of_getElem? (i := 27) rfl)) (g := (mkF m 101 #[.val (.int p0), .val (.int p1), .val (.int p2), .val (.int sv), .val (.int (p2 &&& (3 : Int32))), .val (.int sv), .val (.ref b16), .unset] [])) rfl at_101 ?_
          show OFin _ _ _ _ _ _ _ _ T17 (mkF m 104 #[.val (.int p0), .val (.int p1), .val (.int p2), .val (.int sv), .val (.int (p2 &&& (3 : Int32))), .val (.int sv), .val (.ref b16), .unset] [(.long (2 : Int64))])
          refine X17.step (fun hA hx hq t k => XS.iload hA hx rfl (hb hq at_104) rfl k) ?_
          show OFin _ _ _ _ _ _ _ _ T17 (mkF m 106 #[.val (.int p0), .val (.int p1), .val (.int p2), .val (.int sv), .val (.int (p2 &&& (3 : Int32))), .val (.int sv), .val (.ref b16), .unset] [(.int sv), (.long (2 : Int64))])
          refine X17.step (fun hA hx hq t k => XS.i2l hA hx rfl (hb hq at_106) rfl k) ?_
          show OFin _ _ _ _ _ _ _ _ T17 (mkF m 107 #[.val (.int p0), .val (.int p1), .val (.int p2), .val (.int sv), .val (.int (p2 &&& (3 : Int32))), .val (.int sv), .val (.ref b16), .unset] [(.long (sv.toInt64)), (.long (2 : Int64))])
          refine X17.step (fun hA hx hq t k => XS.lmul hA hx rfl (hb hq at_107) rfl k) ?_
          show OFin _ _ _ _ _ _ _ _ T17 (mkF m 108 #[.val (.int p0), .val (.int p1), .val (.int p2), .val (.int sv), .val (.int (p2 &&& (3 : Int32))), .val (.int sv), .val (.ref b16), .unset] [(.long ((2 : Int64) * (sv.toInt64)))])
          refine X17.step (fun hA hx hq t k => XS.iloadN hA hx rfl (hb hq at_108) rfl k) ?_
          show OFin _ _ _ _ _ _ _ _ T17 (mkF m 109 #[.val (.int p0), .val (.int p1), .val (.int p2), .val (.int sv), .val (.int (p2 &&& (3 : Int32))), .val (.int sv), .val (.ref b16), .unset] [(.int sv), (.long ((2 : Int64) * (sv.toInt64)))])
          refine X17.step (fun hA hx hq t k => XS.i2l hA hx rfl (hb hq at_109) rfl k) ?_
          show OFin _ _ _ _ _ _ _ _ T17 (mkF m 110 #[.val (.int p0), .val (.int p1), .val (.int p2), .val (.int sv), .val (.int (p2 &&& (3 : Int32))), .val (.int sv), .val (.ref b16), .unset] [(.long (sv.toInt64)), (.long ((2 : Int64) * (sv.toInt64)))])
          refine X17.step (fun hA hx hq t k => XS.lcmp hA hx rfl (hb hq at_110) rfl k) ?_
          show OFin _ _ _ _ _ _ _ _ T17 (mkF m 111 #[.val (.int p0), .val (.int p1), .val (.int p2), .val (.int sv), .val (.int (p2 &&& (3 : Int32))), .val (.int sv), .val (.ref b16), .unset] [(.int (lcmpW ((2 : Int64) * (sv.toInt64)) (sv.toInt64)))])
          by_cases k9 : (0 : Int32) < (lcmpW ((2 : Int64) * (sv.toInt64)) (sv.toInt64))
          · refine X17.step (fun hA hx hq t k => XS.ifNo hA hx rfl (hb hq at_111) rfl ((if0 _ _).trans (tlt (k9)).2.2.2) k) ?_
            show OFin _ _ _ _ _ _ _ _ T17 (mkF m 114 #[.val (.int p0), .val (.int p1), .val (.int p2), .val (.int sv), .val (.int (p2 &&& (3 : Int32))), .val (.int sv), .val (.ref b16), .unset] [])
            refine X17.step (fun hA hx hq t k => XS.iconst hA hx rfl (hb hq at_114) k) ?_
            show OFin _ _ _ _ _ _ _ _ T17 (mkF m 115 #[.val (.int p0), .val (.int p1), .val (.int p2), .val (.int sv), .val (.int (p2 &&& (3 : Int32))), .val (.int sv), .val (.ref b16), .unset] [(.int (1 : Int32))])
            refine X17.step (fun hA hx hq t k => XS.goto hA hx rfl (pc0 := 115) (pc' := 119) rfl (hb hq at_115) (by decide) (by decide) k) ?_
            show OFin _ _ _ _ _ _ _ _ T17 (mkF m 119 #[.val (.int p0), .val (.int p1), .val (.int p2), .val (.int sv), .val (.int (p2 &&& (3 : Int32))), .val (.int sv), .val (.ref b16), .unset] [(.int (1 : Int32))])
            refine X17.step (fun hA hx hq t k => XS.istore hA hx rfl (hb hq at_119) rfl (l' := #[.val (.int p0), .val (.int p1), .val (.int p2), .val (.int sv), .val (.int (p2 &&& (3 : Int32))), .val (.int sv), .val (.ref b16), .val (.int (1 : Int32))]) rfl k) ?_
            show OFin _ _ _ _ _ _ _ _ T17 (mkF m 121 #[.val (.int p0), .val (.int p1), .val (.int p2), .val (.int sv), .val (.int (p2 &&& (3 : Int32))), .val (.int sv), .val (.ref b16), .val (.int (1 : Int32))] [])
            refine X17.step (fun hA hx hq t k => XS.aload hA hx rfl (hb hq at_121) rfl rfl k) ?_
            show OFin _ _ _ _ _ _ _ _ T17 (mkF m 123 #[.val (.int p0), .val (.int p1), .val (.int p2), .val (.int sv), .val (.int (p2 &&& (3 : Int32))), .val (.int sv), .val (.ref b16), .val (.int (1 : Int32))] [(.ref b16)])
            refine X17.step (fun hA hx hq t k => XS.iload hA hx rfl (hb hq at_123) rfl k) ?_
            show OFin _ _ _ _ _ _ _ _ T17 (mkF m 125 #[.val (.int p0), .val (.int p1), .val (.int p2), .val (.int sv), .val (.int (p2 &&& (3 : Int32))), .val (.int sv), .val (.ref b16), .val (.int (1 : Int32))] [(.int sv), (.ref b16)])
            refine X17.callV (y' := (⟨"com/example/lean_lock/leanlock/Quorum", "isMajority", "(I)Z"⟩ : MethodName)) (z' := (⟨"com/example/lean_lock/leanlock/Quorum", "isMajority", "(I)Z"⟩ : MethodName)) (hw _ (List.mem_of_getElem? (i := 28) rfl)) (hw _ (List.mem_of_getElem? (i := 29) rfl)) (X17.notFace (hw _ (List.mem_of_getElem? (i := 31) rfl)) rfl) (hw _ (List.mem_of_getElem? (i := 31) rfl)) (hw _ (List.mem_of_getElem? (i := 30) rfl)) (hw _ (List.mem_of_getElem? (i := 13) rfl)) (hw _ (List.mem_of_getElem? (i := 32) rfl)) (by decide) E17 (argsL := [(.int sv)]) (rest := []) (rm7 l Z a0 hw b16 sv sv h17 n0 F17 E17 g0 g1) (g := (mkF m 125 #[.val (.int p0), .val (.int p1), .val (.int p2), .val (.int sv), .val (.int (p2 &&& (3 : Int32))), .val (.int sv), .val (.ref b16), .val (.int (1 : Int32))] [(.int sv), (.ref b16)])) rfl rfl pd_pIr_Z rfl rfl (W := 0) (by show 2 * 0 + _ ≤ _; exact Nat.le_of_eq rfl) at_125 (by decide) (by decide) (by decide) (by decide) ?_
            intro v19 T19 h19 X19 q19
            obtain ⟨rfl, rfl⟩ := q19
            show OFin _ _ _ _ _ _ _ _ T19 (mkF m 128 #[.val (.int p0), .val (.int p1), .val (.int p2), .val (.int sv), .val (.int (p2 &&& (3 : Int32))), .val (.int sv), .val (.ref b16), .val (.int (1 : Int32))] [(.int (if sv < sv / (2 : Int32) + (1 : Int32) then 0 else 1 : Int32))])
            refine X19.step (fun hA hx hq t k => XS.iload hA hx rfl (hb hq at_128) rfl k) ?_
            show OFin _ _ _ _ _ _ _ _ T19 (mkF m 130 #[.val (.int p0), .val (.int p1), .val (.int p2), .val (.int sv), .val (.int (p2 &&& (3 : Int32))), .val (.int sv), .val (.ref b16), .val (.int (1 : Int32))] [(.int (1 : Int32)), (.int (if sv < sv / (2 : Int32) + (1 : Int32) then 0 else 1 : Int32))])
            refine X19.step (fun hA hx hq t k => XS.icmpNo hA hx rfl (hb hq at_130) rfl (teq (if_neg (hk.mp k9))).2 k) ?_
            show OFin _ _ _ _ _ _ _ _ T19 (mkF m 133 #[.val (.int p0), .val (.int p1), .val (.int p2), .val (.int sv), .val (.int (p2 &&& (3 : Int32))), .val (.int sv), .val (.ref b16), .val (.int (1 : Int32))] [])
            refine X19.step (fun hA hx hq t k => XS.iconst hA hx rfl (hb hq at_133) k) ?_
            show OFin _ _ _ _ _ _ _ _ T19 (mkF m 134 #[.val (.int p0), .val (.int p1), .val (.int p2), .val (.int sv), .val (.int (p2 &&& (3 : Int32))), .val (.int sv), .val (.ref b16), .val (.int (1 : Int32))] [(.int (1 : Int32))])
            refine X19.step (fun hA hx hq t k => XS.goto hA hx rfl (pc0 := 134) (pc' := 138) rfl (hb hq at_134) (by decide) (by decide) k) ?_
            show OFin _ _ _ _ _ _ _ _ T19 (mkF m 138 #[.val (.int p0), .val (.int p1), .val (.int p2), .val (.int sv), .val (.int (p2 &&& (3 : Int32))), .val (.int sv), .val (.ref b16), .val (.int (1 : Int32))] [(.int (1 : Int32))])
            exact X19.retN (by simp) at_138 (by decide) (by decide) (rfl)
          · refine X17.step (fun hA hx hq t k => XS.ifYes hA hx rfl (pc0 := 111) (pc' := 118) rfl (hb hq at_111) rfl ((if0 _ _).trans (flt (k9)).2.2.2) (by decide) (by decide) k) ?_
            show OFin _ _ _ _ _ _ _ _ T17 (mkF m 118 #[.val (.int p0), .val (.int p1), .val (.int p2), .val (.int sv), .val (.int (p2 &&& (3 : Int32))), .val (.int sv), .val (.ref b16), .unset] [])
            refine X17.step (fun hA hx hq t k => XS.iconst hA hx rfl (hb hq at_118) k) ?_
            show OFin _ _ _ _ _ _ _ _ T17 (mkF m 119 #[.val (.int p0), .val (.int p1), .val (.int p2), .val (.int sv), .val (.int (p2 &&& (3 : Int32))), .val (.int sv), .val (.ref b16), .unset] [(.int (0 : Int32))])
            refine X17.step (fun hA hx hq t k => XS.istore hA hx rfl (hb hq at_119) rfl (l' := #[.val (.int p0), .val (.int p1), .val (.int p2), .val (.int sv), .val (.int (p2 &&& (3 : Int32))), .val (.int sv), .val (.ref b16), .val (.int (0 : Int32))]) rfl k) ?_
            show OFin _ _ _ _ _ _ _ _ T17 (mkF m 121 #[.val (.int p0), .val (.int p1), .val (.int p2), .val (.int sv), .val (.int (p2 &&& (3 : Int32))), .val (.int sv), .val (.ref b16), .val (.int (0 : Int32))] [])
            refine X17.step (fun hA hx hq t k => XS.aload hA hx rfl (hb hq at_121) rfl rfl k) ?_
            show OFin _ _ _ _ _ _ _ _ T17 (mkF m 123 #[.val (.int p0), .val (.int p1), .val (.int p2), .val (.int sv), .val (.int (p2 &&& (3 : Int32))), .val (.int sv), .val (.ref b16), .val (.int (0 : Int32))] [(.ref b16)])
            refine X17.step (fun hA hx hq t k => XS.iload hA hx rfl (hb hq at_123) rfl k) ?_
            show OFin _ _ _ _ _ _ _ _ T17 (mkF m 125 #[.val (.int p0), .val (.int p1), .val (.int p2), .val (.int sv), .val (.int (p2 &&& (3 : Int32))), .val (.int sv), .val (.ref b16), .val (.int (0 : Int32))] [(.int sv), (.ref b16)])
            refine X17.callV (y' := (⟨"com/example/lean_lock/leanlock/Quorum", "isMajority", "(I)Z"⟩ : MethodName)) (z' := (⟨"com/example/lean_lock/leanlock/Quorum", "isMajority", "(I)Z"⟩ : MethodName)) (hw _ (List.mem_of_getElem? (i := 28) rfl)) (hw _ (List.mem_of_getElem? (i := 29) rfl)) (X17.notFace (hw _ (List.mem_of_getElem? (i := 31) rfl)) rfl) (hw _ (List.mem_of_getElem? (i := 31) rfl)) (hw _ (List.mem_of_getElem? (i := 30) rfl)) (hw _ (List.mem_of_getElem? (i := 13) rfl)) (hw _ (List.mem_of_getElem? (i := 32) rfl)) (by decide) E17 (argsL := [(.int sv)]) (rest := []) (rm7 l Z a0 hw b16 sv sv h17 n0 F17 E17 g0 g1) (g := (mkF m 125 #[.val (.int p0), .val (.int p1), .val (.int p2), .val (.int sv), .val (.int (p2 &&& (3 : Int32))), .val (.int sv), .val (.ref b16), .val (.int (0 : Int32))] [(.int sv), (.ref b16)])) rfl rfl pd_pIr_Z rfl rfl (W := 0) (by show 2 * 0 + _ ≤ _; exact Nat.le_of_eq rfl) at_125 (by decide) (by decide) (by decide) (by decide) ?_
            intro v18 T18 h18 X18 q18
            obtain ⟨rfl, rfl⟩ := q18
            show OFin _ _ _ _ _ _ _ _ T18 (mkF m 128 #[.val (.int p0), .val (.int p1), .val (.int p2), .val (.int sv), .val (.int (p2 &&& (3 : Int32))), .val (.int sv), .val (.ref b16), .val (.int (0 : Int32))] [(.int (if sv < sv / (2 : Int32) + (1 : Int32) then 0 else 1 : Int32))])
            refine X18.step (fun hA hx hq t k => XS.iload hA hx rfl (hb hq at_128) rfl k) ?_
            show OFin _ _ _ _ _ _ _ _ T18 (mkF m 130 #[.val (.int p0), .val (.int p1), .val (.int p2), .val (.int sv), .val (.int (p2 &&& (3 : Int32))), .val (.int sv), .val (.ref b16), .val (.int (0 : Int32))] [(.int (0 : Int32)), (.int (if sv < sv / (2 : Int32) + (1 : Int32) then 0 else 1 : Int32))])
            refine X18.step (fun hA hx hq t k => XS.icmpNo hA hx rfl (hb hq at_130) rfl (teq (if_pos (Decidable.not_not.mp fun q => k9 (hk.mpr q)))).2 k) ?_
            show OFin _ _ _ _ _ _ _ _ T18 (mkF m 133 #[.val (.int p0), .val (.int p1), .val (.int p2), .val (.int sv), .val (.int (p2 &&& (3 : Int32))), .val (.int sv), .val (.ref b16), .val (.int (0 : Int32))] [])
            refine X18.step (fun hA hx hq t k => XS.iconst hA hx rfl (hb hq at_133) k) ?_
            show OFin _ _ _ _ _ _ _ _ T18 (mkF m 134 #[.val (.int p0), .val (.int p1), .val (.int p2), .val (.int sv), .val (.int (p2 &&& (3 : Int32))), .val (.int sv), .val (.ref b16), .val (.int (0 : Int32))] [(.int (1 : Int32))])
            refine X18.step (fun hA hx hq t k => XS.goto hA hx rfl (pc0 := 134) (pc' := 138) rfl (hb hq at_134) (by decide) (by decide) k) ?_
            show OFin _ _ _ _ _ _ _ _ T18 (mkF m 138 #[.val (.int p0), .val (.int p1), .val (.int p2), .val (.int sv), .val (.int (p2 &&& (3 : Int32))), .val (.int sv), .val (.ref b16), .val (.int (0 : Int32))] [(.int (1 : Int32))])
            exact X18.retN (by simp) at_138 (by decide) (by decide) (rfl)
set_option maxRecDepth 65536 in
set_option maxHeartbeats 40000000 in
theorem comes_1 {Post : Tables → Env → Array Value → State → Outcome → State → Prop} (hpost : ∀ tb e args s v u, (limb_1_1.after args s (.returned v) u = true ∧ limb_1_2.after args s (.returned v) u = true ∧ True) → FrameEnd s (.returned v) u (Jvm.fieldLocs frame_1_writes args s ++ Jvm.arrayLocs frame_1_arrays args s ++ Jvm.staticLocs frame_1_statics s) 16 128 → Post tb e args s (.returned v) u) :
    ArmFor flags0 classFile x code maxLocals ret World_1 tables_1 room_1 Calls_1 rest_1 Pre_1 Post := by
  intro l hfl _ _ p e ha hc hk s m args below hf hA hF happ hP
  obtain ⟨hcalls, hrest, hpre⟩ := hP
  obtain ⟨-, -, -, hnamed, -, -, -, hat⟩ := (Spec.applies_iff hf).mp happ
  obtain ⟨hg, hn⟩ := and_e (Cond.before_iff.mp (show (Jvm.Cond.and given_1 narrow_1).before args s = true from hpre))
  obtain ⟨hcount, hg0⟩ := and_e hg
  obtain ⟨w0, w1, w2, rfl⟩ : ∃ w0 w1 w2 : Value, args = #[w0, w1, w2] := by
    have hs : args.size = 3 := by simpa [Cond.value, given_1] using hcount
    obtain ⟨L⟩ := args
    match L, hs with
    | [w0, w1, w2], _ => exact ⟨w0, w1, w2, rfl⟩
  have hw := fun d (hd : d ∈ tables_1) => atoms_spec (ws := Jvm.Cond.code x code maxLocals ret :: tables_1) hat d (List.mem_cons_of_mem _ hd)
  have hfit : Fit s := fun {y c} hc i hi => by
    obtain ⟨ha, rfl⟩ := Array.getElem?_eq_some_iff.mp hc
    have q := List.all_eq_true.mp ((Array.all_eq_true_iff_forall_mem.mp hF) _ (Array.getElem_mem ha)) i (List.mem_range.mpr hi)
    simpa [Array.getElem?_eq_getElem hi] using q
  obtain ⟨ha0, hg1⟩ := and_e hg0
  obtain ⟨i0, ei0⟩ := is_v ha0
  obtain rfl : w0 = (.int i0) := Option.some.inj ei0
  obtain ⟨ha1, hg2⟩ := and_e hg1
  obtain ⟨i1, ei1⟩ := is_v ha1
  obtain rfl : w1 = (.int i1) := Option.some.inj ei1
  obtain ⟨i2, ei2⟩ := is_v hg2
  obtain rfl : w2 = (.int i2) := Option.some.inj ei2
  obtain ⟨n, o, h1, h2, h3, _, L, rfl, ⟨rfl, N⟩, hq⟩ := rm0 l s _ hw tables_1 i0 i1 i2 s.heap s.heap.size (Nat.le_refl _) p e ha hc hk s m _ below hf ((Spec.applies_iff_loose hf).mp happ).1 ⟨rfl, State.Warmed39.refl s, rfl⟩ trivial
  refine ⟨n, _, h1, h2, h3, hpost _ _ _ _ _ _ ⟨Cond.after_iff.mpr rfl, Cond.after_iff.mpr (eq_i res_at (Term.int_eval (1)) rfl), trivial⟩ ⟨hq.1, hq.2.1, (hq.2.2.sift fun y hy => Or.inr (N y hy)).mono (by decide) (by decide)⟩⟩
theorem main_1_1 : Claimed_1_1 := comes_1 fun _ _ _ _ _ _ h hF => ⟨h.1, hF⟩
theorem main_1_2 : Claimed_1_2 := comes_1 fun _ _ _ _ _ _ h hF => ⟨h.2.1, hF⟩
end Jvm.Pilot.@@N@@
namespace Jvm.Pilot.@@N@@
open Jvm Jvm.ClassFile Sem Op Lib Jvm.Free Jvm.Stand Jvm.Pilot.@@N@@.Jvm.D
/-! MADE BY PROGRAM (witnessworld.py) out of the Statement's table words and the real class files: 11 classes; the members and pool entries that the words name. The judged class is class 1, her method 1. -/
namespace start1
open Jvm.ClassFile
def u (s : String) : CpInfo := .utf8 (stringToUtf16 s)
/-- a pool by its gaps: so many unusable entries, then the entry; so many at the end -/
def gap : Nat → List CpInfo → List CpInfo
  | 0, r => r
  | n + 1, r => .unusable :: gap n r
def poolList (es : List (Nat × CpInfo)) (last : Nat) : List CpInfo := es.foldr (fun e r => gap e.1 (e.2 :: r)) (gap last [])
def pool (es : List (Nat × CpInfo)) (last : Nat) : Array CpInfo := ⟨poolList es last⟩
def fileOf (pool : Array CpInfo) (this : Nat) (attrs : Array Attribute := #[]) (ms : Array MethodInfo := #[]) (fl : Nat := 33) (sup : Nat := 0) (ifs : Array Nat := #[]) (fds : Array FieldInfo := #[]) : ClassFile where
  minorVersion := 0
  majorVersion := 65
  constantPool := pool
  accessFlags := fl
  thisClass := this
  superClass := sup
  interfaces := ifs
  fields := fds
  methods := ms
  attributes := attrs
def plain (name : String) (sup : Option ClassId) : Class where
  name := name
  kind := .ordinary
  loader := none
  accessFlags := 33
  super := sup
  interfaces := #[]
  cf := none
  fields := #[]
  methods := #[]
  instanceTypes := #[]
  staticTypes := #[]
  resolved := #[]
  callSites := []
  init := .initialized
  statics := none
  mirror := none

def pool0 : Array CpInfo := pool [(5, u "<init>"), (0, u "()V"), (1, .class_ 10), (1, u "java/lang/Object")] 113

def k0c0 : Code := { maxStack := 0, maxLocals := 1, code := object_method_1_code, exceptionTable := #[], attributes := #[] }
def k0m0 : Method := { name := "<init>", desc := "()V", sig := { parameters := [], returnType := none }, accessFlags := 1, code := some k0c0 }
/-- java/lang/Object -/
def k0 : Class := { plain "java/lang/Object" none with
  accessFlags := 33
  interfaces := #[]
  cf := some (fileOf pool0 8 #[] #[{ accessFlags := 1, nameIndex := 5, descriptorIndex := 6, attributes := #[] }] 33 0 #[] #[])
  fields := #[]
  methods := #[k0m0]
  instanceTypes := #[]
  staticTypes := #[]
  resolved := Array.replicate 124 none
  statics := none }

def pool1 : Array CpInfo := pool [(2, .class_ 4), (1, u "java/lang/Object"), (0, u "<init>"), (0, u "()V"), (0, .integer 2147483647), (0, .methodref 9 10), (0, .class_ 11), (0, .nameAndType 12 13), (0, u "java/lang/Math"), (0, u "max"), (0, u "(II)I"), (0, .long 4294967295), (1, .methodref 9 17), (0, .nameAndType 12 18), (0, u "(JJ)J"), (0, .methodref 9 20), (0, .nameAndType 21 18), (0, u "min"), (0, .class_ 23), (0, u "com/example/lean_lock/leanlock/Quorum"), (0, .methodref 22 25), (0, .nameAndType 5 26), (0, u "(I)V"), (0, .long 2), (1, .methodref 22 30), (0, .nameAndType 31 32), (0, u "isMajority"), (0, u "(I)Z"), (0, .class_ 34), (0, u "com/example/lean_lock/leanlock/QuorumIsMajorityPinLaw"), (2, u "law"), (0, u "(III)Z")] 3

def k1m0 : Method := { name := "<init>", desc := "()V", sig := { parameters := [], returnType := none }, accessFlags := 2, code := none }
def k1c1 : Code := { maxStack := 6, maxLocals := 8, code := code, exceptionTable := #[], attributes := #[] }
def k1m1 : Method := { name := "law", desc := "(III)Z", sig := { parameters := [.int, .int, .int], returnType := some .boolean }, accessFlags := 9, code := some k1c1 }
/-- com/example/lean_lock/leanlock/QuorumIsMajorityPinLaw -/
def k1 : Class := { plain "com/example/lean_lock/leanlock/QuorumIsMajorityPinLaw" (some 0) with
  accessFlags := 49
  interfaces := #[]
  cf := some (fileOf pool1 33 #[] #[{ accessFlags := 2, nameIndex := 5, descriptorIndex := 6, attributes := #[] }, { accessFlags := 9, nameIndex := 37, descriptorIndex := 38, attributes := #[] }] 49 2 #[] #[])
  fields := #[]
  methods := #[k1m0, k1m1]
  instanceTypes := #[]
  staticTypes := #[]
  resolved := Array.replicate 42 none
  statics := none }

def pool2 : Array CpInfo := pool [(1, .class_ 2), (0, u "java/lang/Math"), (1, .class_ 6), (1, u "java/lang/Object"), (0, u "<init>"), (0, u "()V"), (89, .class_ 100), (1, u "java/lang/Math$RandomNumberGeneratorHolder"), (20, u "(JJ)J"), (50, u "negativeZeroFloatBits"), (0, u "J"), (2, u "negativeZeroDoubleBits"), (21, u "max"), (2, u "min"), (43, u "$assertionsDisabled"), (0, u "Z"), (88, u "(II)I"), (2, u "twoToTheDoubleScaleDown"), (0, u "D"), (4, u "twoToTheDoubleScaleUp"), (9, u "E"), (3, u "PI"), (2, u "TAU"), (2, u "DEGREES_TO_RADIANS"), (0, u "RADIANS_TO_DEGREES")] 94

def k2m0 : Method := { name := "<init>", desc := "()V", sig := { parameters := [], returnType := none }, accessFlags := 2, code := none }
def k2c1 : Code := { maxStack := 2, maxLocals := 2, code := jdk_29_method_65_code, exceptionTable := #[], attributes := #[] }
def k2m1 : Method := { name := "max", desc := "(II)I", sig := { parameters := [.int, .int], returnType := some .int }, accessFlags := 9, code := some k2c1 }
def k2c2 : Code := { maxStack := 4, maxLocals := 4, code := jdk_29_method_66_code, exceptionTable := #[], attributes := #[] }
def k2m2 : Method := { name := "max", desc := "(JJ)J", sig := { parameters := [.long, .long], returnType := some .long }, accessFlags := 9, code := some k2c2 }
def k2c3 : Code := { maxStack := 4, maxLocals := 4, code := jdk_29_method_70_code, exceptionTable := #[], attributes := #[] }
def k2m3 : Method := { name := "min", desc := "(JJ)J", sig := { parameters := [.long, .long], returnType := some .long }, accessFlags := 9, code := some k2c3 }
/-- java/lang/Math -/
def k2 : Class := { plain "java/lang/Math" (some 0) with
  accessFlags := 49
  interfaces := #[]
  cf := some (fileOf pool2 1 #[.nestMembers #[98]] #[{ accessFlags := 2, nameIndex := 7, descriptorIndex := 8, attributes := #[] }, { accessFlags := 9, nameIndex := 198, descriptorIndex := 335, attributes := #[] }, { accessFlags := 9, nameIndex := 198, descriptorIndex := 121, attributes := #[] }, { accessFlags := 9, nameIndex := 201, descriptorIndex := 121, attributes := #[] }] 49 4 #[] #[{ accessFlags := 25, nameIndex := 354, descriptorIndex := 339, attributes := #[] }, { accessFlags := 25, nameIndex := 358, descriptorIndex := 339, attributes := #[] }, { accessFlags := 25, nameIndex := 361, descriptorIndex := 339, attributes := #[] }, { accessFlags := 26, nameIndex := 364, descriptorIndex := 339, attributes := #[] }, { accessFlags := 26, nameIndex := 365, descriptorIndex := 339, attributes := #[] }, { accessFlags := 26, nameIndex := 172, descriptorIndex := 173, attributes := #[] }, { accessFlags := 26, nameIndex := 176, descriptorIndex := 173, attributes := #[] }, { accessFlags := 8, nameIndex := 344, descriptorIndex := 339, attributes := #[] }, { accessFlags := 8, nameIndex := 338, descriptorIndex := 339, attributes := #[] }, { accessFlags := 4120, nameIndex := 245, descriptorIndex := 246, attributes := #[] }])
  fields := #[{ name := "E", type := .double, accessFlags := 25, slot := 0, constantValue := 0 }, { name := "PI", type := .double, accessFlags := 25, slot := 1, constantValue := 0 }, { name := "TAU", type := .double, accessFlags := 25, slot := 2, constantValue := 0 }, { name := "DEGREES_TO_RADIANS", type := .double, accessFlags := 26, slot := 3, constantValue := 0 }, { name := "RADIANS_TO_DEGREES", type := .double, accessFlags := 26, slot := 4, constantValue := 0 }, { name := "negativeZeroFloatBits", type := .long, accessFlags := 26, slot := 5, constantValue := 0 }, { name := "negativeZeroDoubleBits", type := .long, accessFlags := 26, slot := 6, constantValue := 0 }, { name := "twoToTheDoubleScaleUp", type := .double, accessFlags := 8, slot := 7, constantValue := 0 }, { name := "twoToTheDoubleScaleDown", type := .double, accessFlags := 8, slot := 8, constantValue := 0 }, { name := "$assertionsDisabled", type := .boolean, accessFlags := 4120, slot := 9, constantValue := 0 }]
  methods := #[k2m0, k2m1, k2m2, k2m3]
  instanceTypes := #[]
  staticTypes := #[.double, .double, .double, .double, .double, .long, .long, .double, .double, .boolean]
  resolved := Array.replicate 460 none
  statics := none }

def pool3 : Array CpInfo := pool [(1, .methodref 2 3), (0, .class_ 4), (0, .nameAndType 5 6), (0, u "java/lang/Object"), (0, u "<init>"), (0, u "()V"), (0, .class_ 8), (0, u "java/lang/Record")] 13

def k3c0 : Code := { maxStack := 1, maxLocals := 1, code := jdk_30_method_1_code, exceptionTable := #[], attributes := #[] }
def k3m0 : Method := { name := "<init>", desc := "()V", sig := { parameters := [], returnType := none }, accessFlags := 4, code := some k3c0 }
/-- java/lang/Record -/
def k3 : Class := { plain "java/lang/Record" (some 0) with
  accessFlags := 1057
  interfaces := #[]
  cf := some (fileOf pool3 7 #[] #[{ accessFlags := 4, nameIndex := 5, descriptorIndex := 6, attributes := #[] }] 1057 2 #[] #[])
  fields := #[]
  methods := #[k3m0]
  instanceTypes := #[]
  staticTypes := #[]
  resolved := Array.replicate 22 none
  statics := none }

def pool4 : Array CpInfo := pool [(1, .methodref 2 3), (0, .class_ 4), (0, .nameAndType 5 6), (0, u "java/lang/Record"), (0, u "<init>"), (0, u "()V"), (9, .fieldref 17 18), (0, .class_ 19), (0, .nameAndType 20 21), (0, u "com/example/lean_lock/leanlock/Quorum"), (0, u "servers"), (0, u "I"), (3, .methodref 17 26), (0, .nameAndType 27 28), (0, u "majority"), (0, u "()I"), (27, u "isMajority"), (0, u "(I)Z"), (25, u "DRIFT_BASE"), (0, u "Ljava/time/Duration;"), (37, u "(I)V")] 45

def k4c0 : Code := { maxStack := 3, maxLocals := 2, code := prog_20_method_1_code, exceptionTable := #[], attributes := #[] }
def k4m0 : Method := { name := "<init>", desc := "(I)V", sig := { parameters := [.int], returnType := none }, accessFlags := 1, code := some k4c0 }
def k4c1 : Code := { maxStack := 2, maxLocals := 1, code := prog_20_method_2_code, exceptionTable := #[], attributes := #[] }
def k4m1 : Method := { name := "majority", desc := "()I", sig := { parameters := [], returnType := some .int }, accessFlags := 1, code := some k4c1 }
def k4c2 : Code := { maxStack := 4, maxLocals := 2, code := prog_20_method_3_code, exceptionTable := #[], attributes := #[] }
def k4m2 : Method := { name := "isMajority", desc := "(I)Z", sig := { parameters := [.int], returnType := some .boolean }, accessFlags := 1, code := some k4c2 }
/-- com/example/lean_lock/leanlock/Quorum -/
def k4 : Class := { plain "com/example/lean_lock/leanlock/Quorum" (some 3) with
  accessFlags := 49
  interfaces := #[]
  cf := some (fileOf pool4 17 #[] #[{ accessFlags := 1, nameIndex := 5, descriptorIndex := 122, attributes := #[] }, { accessFlags := 1, nameIndex := 27, descriptorIndex := 28, attributes := #[] }, { accessFlags := 1, nameIndex := 56, descriptorIndex := 57, attributes := #[] }] 49 2 #[] #[{ accessFlags := 18, nameIndex := 20, descriptorIndex := 21, attributes := #[] }, { accessFlags := 26, nameIndex := 83, descriptorIndex := 84, attributes := #[] }])
  fields := #[{ name := "servers", type := .int, accessFlags := 18, slot := 0, constantValue := 0 }, { name := "DRIFT_BASE", type := (.object "java/time/Duration"), accessFlags := 26, slot := 0, constantValue := 0 }]
  methods := #[k4m0, k4m1, k4m2]
  instanceTypes := #[.int]
  staticTypes := #[(.object "java/time/Duration")]
  resolved := Array.replicate 168 none
  statics := none }

def pool5 : Array CpInfo := pool [(1, u "java/lang/Cloneable"), (0, .class_ 1), (0, u "java/lang/Object"), (0, .class_ 3)] 3

/-- java/lang/Cloneable -/
def k5 : Class := { plain "java/lang/Cloneable" (some 0) with
  accessFlags := 1537
  interfaces := #[]
  cf := some (fileOf pool5 2 #[] #[] 1537 4 #[] #[])
  fields := #[]
  methods := #[]
  instanceTypes := #[]
  staticTypes := #[]
  resolved := Array.replicate 8 none
  statics := none }

def pool6 : Array CpInfo := pool [(1, u "java/io/Serializable"), (0, .class_ 1), (0, u "java/lang/Object"), (0, .class_ 3)] 3

/-- java/io/Serializable -/
def k6 : Class := { plain "java/io/Serializable" (some 0) with
  accessFlags := 1537
  interfaces := #[]
  cf := some (fileOf pool6 2 #[] #[] 1537 4 #[] #[])
  fields := #[]
  methods := #[]
  instanceTypes := #[]
  staticTypes := #[]
  resolved := Array.replicate 8 none
  statics := none }

/-- the primitive byte -/
def k7 : Class := { plain "byte" none with kind := .primitive 'B', accessFlags := 0x411 }
/-- [B -/
def k8 : Class := { plain "[B" (some 0) with kind := .array 7 .byte, interfaces := #[5, 6], accessFlags := 1041 }

/-- the primitive int -/
def k9 : Class := { plain "int" none with kind := .primitive 'I', accessFlags := 0x411 }
/-- [I -/
def k10 : Class := { plain "[I" (some 0) with kind := .array 9 .int, interfaces := #[5, 6], accessFlags := 1041 }

def heap : Heap := #[]
def classes : Array Class := #[k0, k1, k2, k3, k4, k5, k6, k7, k8, k9, k10]
def interned : List (Array UInt16 × Addr) := []
def slotsUsed : Nat := 0
def theMethod : MethodId := ⟨1, 1⟩
def args0 : Array Value := #[.int 5, .int 7, .int 2]
def aboutOver (below : List Frame) : State where
  vm := { classes := classes, interned := interned.toArray }
  heap := heap
  slotsUsed := slotsUsed
  threads := #[{ frames := .invoking theMethod args0 :: below }]
def below0 : List Frame := [.native { method := ⟨0, 0⟩, args := #[] }]
def about1 : State := aboutOver below0
def p0 : Program := .bare "" "" ""
def e0 : Env := launch0.env 0 0 0
theorem w_frames : about1.frames = Frame.invoking theMethod args0 :: below0 := rfl
set_option maxRecDepth 65536 in
theorem w_args : argsFit about1.vm theMethod args0 = true := by decide +kernel
set_option maxRecDepth 65536 in
theorem w_heap : heapFits about1 = true := by decide +kernel
set_option maxRecDepth 65536 in
theorem w_runnable : about1.curStatus? = some .runnable := by decide +kernel
set_option maxRecDepth 65536 in
theorem w_alone : about1.alone = true := by decide +kernel
set_option maxRecDepth 65536 in
theorem w_named : about1.methodNamed? x = some theMethod := by decide +kernel
set_option maxRecDepth 65536 in
theorem w_hears : about1.hears theMethod below0 = true := by decide +kernel
set_option maxRecDepth 65536 in
theorem w_ripe : about1.ripe theMethod args0 below0 = true := by decide +kernel
theorem w_running : about1.status = .running := rfl
set_option maxRecDepth 65536 in
theorem w_room : about1.hasRoom e0.platform room_1 = true :=
  launch0.hasRoom_least _ room_1 (by decide +kernel) (by decide +kernel) (by decide +kernel) (by decide +kernel) (by decide +kernel) (by decide +kernel)
theorem allAtoms_all (ts : List Jvm.Cond) (a : Array Jvm.Value) (st : Jvm.State) : (allAtoms ts).before a st = ts.all (fun c => c.before a st) := by
  induction ts with
  | nil => rfl
  | cons c t ih =>
    show (Jvm.Cond.and c (allAtoms t)).before a st = _
    rw [Jvm.Cond.before_and, ih, List.all_cons]
def words1 : List Jvm.Cond := Jvm.Cond.code x code maxLocals ret :: tables_1
/-- a 'code' word, met by the world's own term for the bytes: nothing is compared byte by byte -/
theorem code_word {y : MethodName} {bytes : ByteArray} {mx : Nat} {rt : Option FieldType} {a : Array Value} {s : State} {m : MethodId} {meth : Method} {c : Code} (h1 : s.methodNamed? y = some m) (h2 : s.vm.method? m = some meth) (h3 : meth.code = some c) (h4 : c.code = bytes)
    (h5 : (c.maxLocals == mx && c.exceptionTable.isEmpty && decide (c.maxStack ≤ mostOperands) && decide (meth.sig.returnType = rt) && !meth.locks && decide (parseMethodDescriptor y.desc = some meth.sig)) = true) : (Jvm.Cond.code y bytes mx rt).before a s = true := by
  simp only [Bool.and_eq_true, beq_iff_eq, Bool.not_eq_true', decide_eq_true_eq] at h5
  obtain ⟨⟨⟨⟨⟨g1, g2⟩, g3⟩, g4⟩, g5⟩, g6⟩ := h5
  simp [Cond.before, Cond.holds, Cond.value, h1, h2, h3, h4, g1, g2, g3, g4, g5, g6]
def isCode : Jvm.Cond → Bool
  | .code _ _ _ _ => true
  | _ => false
theorem all_split {L : List Jvm.Cond} {P : Jvm.Cond → Bool} (h1 : L.all (fun c => isCode c || P c) = true) (h2 : ∀ c ∈ L.filter isCode, P c = true) : L.all P = true := by
  refine List.all_eq_true.mpr fun c hc => ?_
  have h := List.all_eq_true.mp h1 c hc
  rcases Bool.eq_false_or_eq_true (isCode c) with hi | hi
  · exact h2 c (List.mem_filter.mpr ⟨hc, hi⟩)
  · simpa [hi] using h
set_option maxRecDepth 65536 in
theorem w_c0 : (Jvm.Cond.code x code maxLocals ret).before args0 about1 = true := code_word (m := ⟨1, 1⟩) (meth := k1m1) (c := k1c1) (by decide +kernel) rfl rfl rfl (by decide +kernel)
set_option maxRecDepth 65536 in
theorem w_c1 : (Jvm.Cond.code ({ cls := "java/lang/Math", name := "max", desc := "(II)I" } : Jvm.MethodName) jdk_29_method_65_code (2 : Nat) (Option.some Jvm.ClassFile.FieldType.int)).before args0 about1 = true := code_word (m := ⟨2, 1⟩) (meth := k2m1) (c := k2c1) (by decide +kernel) rfl rfl rfl (by decide +kernel)
set_option maxRecDepth 65536 in
theorem w_c2 : (Jvm.Cond.code ({ cls := "java/lang/Math", name := "max", desc := "(JJ)J" } : Jvm.MethodName) jdk_29_method_66_code (4 : Nat) (Option.some Jvm.ClassFile.FieldType.long)).before args0 about1 = true := code_word (m := ⟨2, 2⟩) (meth := k2m2) (c := k2c2) (by decide +kernel) rfl rfl rfl (by decide +kernel)
set_option maxRecDepth 65536 in
theorem w_c3 : (Jvm.Cond.code ({ cls := "java/lang/Math", name := "min", desc := "(JJ)J" } : Jvm.MethodName) jdk_29_method_70_code (4 : Nat) (Option.some Jvm.ClassFile.FieldType.long)).before args0 about1 = true := code_word (m := ⟨2, 3⟩) (meth := k2m3) (c := k2c3) (by decide +kernel) rfl rfl rfl (by decide +kernel)
set_option maxRecDepth 65536 in
theorem w_c4 : (Jvm.Cond.code ({ cls := "com/example/lean_lock/leanlock/Quorum", name := "<init>", desc := "(I)V" } : Jvm.MethodName) prog_20_method_1_code (2 : Nat) (Option.none : Option Jvm.ClassFile.FieldType)).before args0 about1 = true := code_word (m := ⟨4, 0⟩) (meth := k4m0) (c := k4c0) (by decide +kernel) rfl rfl rfl (by decide +kernel)
set_option maxRecDepth 65536 in
theorem w_c5 : (Jvm.Cond.code ({ cls := "java/lang/Record", name := "<init>", desc := "()V" } : Jvm.MethodName) jdk_30_method_1_code (1 : Nat) (Option.none : Option Jvm.ClassFile.FieldType)).before args0 about1 = true := code_word (m := ⟨3, 0⟩) (meth := k3m0) (c := k3c0) (by decide +kernel) rfl rfl rfl (by decide +kernel)
set_option maxRecDepth 65536 in
theorem w_c6 : (Jvm.Cond.code ({ cls := "java/lang/Object", name := "<init>", desc := "()V" } : Jvm.MethodName) object_method_1_code (1 : Nat) (Option.none : Option Jvm.ClassFile.FieldType)).before args0 about1 = true := code_word (m := ⟨0, 0⟩) (meth := k0m0) (c := k0c0) (by decide +kernel) rfl rfl rfl (by decide +kernel)
set_option maxRecDepth 65536 in
theorem w_c7 : (Jvm.Cond.code ({ cls := "com/example/lean_lock/leanlock/Quorum", name := "isMajority", desc := "(I)Z" } : Jvm.MethodName) prog_20_method_3_code (2 : Nat) (Option.some Jvm.ClassFile.FieldType.boolean)).before args0 about1 = true := code_word (m := ⟨4, 2⟩) (meth := k4m2) (c := k4c2) (by decide +kernel) rfl rfl rfl (by decide +kernel)
set_option maxRecDepth 65536 in
theorem w_c8 : (Jvm.Cond.code ({ cls := "com/example/lean_lock/leanlock/Quorum", name := "majority", desc := "()I" } : Jvm.MethodName) prog_20_method_2_code (1 : Nat) (Option.some Jvm.ClassFile.FieldType.int)).before args0 about1 = true := code_word (m := ⟨4, 1⟩) (meth := k4m1) (c := k4c1) (by decide +kernel) rfl rfl rfl (by decide +kernel)
def codes1 : List Jvm.Cond := [Jvm.Cond.code x code maxLocals ret, Jvm.Cond.code ({ cls := "java/lang/Math", name := "max", desc := "(II)I" } : Jvm.MethodName) jdk_29_method_65_code (2 : Nat) (Option.some Jvm.ClassFile.FieldType.int), Jvm.Cond.code ({ cls := "java/lang/Math", name := "max", desc := "(JJ)J" } : Jvm.MethodName) jdk_29_method_66_code (4 : Nat) (Option.some Jvm.ClassFile.FieldType.long), Jvm.Cond.code ({ cls := "java/lang/Math", name := "min", desc := "(JJ)J" } : Jvm.MethodName) jdk_29_method_70_code (4 : Nat) (Option.some Jvm.ClassFile.FieldType.long), Jvm.Cond.code ({ cls := "com/example/lean_lock/leanlock/Quorum", name := "<init>", desc := "(I)V" } : Jvm.MethodName) prog_20_method_1_code (2 : Nat) (Option.none : Option Jvm.ClassFile.FieldType), Jvm.Cond.code ({ cls := "java/lang/Record", name := "<init>", desc := "()V" } : Jvm.MethodName) jdk_30_method_1_code (1 : Nat) (Option.none : Option Jvm.ClassFile.FieldType), Jvm.Cond.code ({ cls := "java/lang/Object", name := "<init>", desc := "()V" } : Jvm.MethodName) object_method_1_code (1 : Nat) (Option.none : Option Jvm.ClassFile.FieldType), Jvm.Cond.code ({ cls := "com/example/lean_lock/leanlock/Quorum", name := "isMajority", desc := "(I)Z" } : Jvm.MethodName) prog_20_method_3_code (2 : Nat) (Option.some Jvm.ClassFile.FieldType.boolean), Jvm.Cond.code ({ cls := "com/example/lean_lock/leanlock/Quorum", name := "majority", desc := "()I" } : Jvm.MethodName) prog_20_method_2_code (1 : Nat) (Option.some Jvm.ClassFile.FieldType.int)]
set_option maxRecDepth 65536 in
theorem codes_eq : words1.filter isCode = codes1 := rfl
theorem w_codes : ∀ c ∈ words1.filter isCode, c.before args0 about1 = true := by
  rw [codes_eq]
  intro c hc
  simp only [codes1, List.mem_cons, List.not_mem_nil, or_false] at hc
  rcases hc with rfl | rfl | rfl | rfl | rfl | rfl | rfl | rfl | rfl
  · exact w_c0
  · exact w_c1
  · exact w_c2
  · exact w_c3
  · exact w_c4
  · exact w_c5
  · exact w_c6
  · exact w_c7
  · exact w_c8
set_option maxRecDepth 65536 in
theorem w_t1 : (words1.take 24).all (fun c => isCode c || c.before args0 about1) = true := by decide +kernel
set_option maxRecDepth 65536 in
theorem w_t2 : (words1.drop 24).all (fun c => isCode c || c.before args0 about1) = true := by decide +kernel
theorem w_tables : (allAtoms (Jvm.Cond.code x code maxLocals ret :: tables_1)).before args0 about1 = true := by
  rw [allAtoms_all]
  show words1.all (fun c => c.before args0 about1) = true
  refine all_split ?_ w_codes
  rw [← List.take_append_drop 24 words1, List.all_append, w_t1, w_t2]
  rfl
set_option maxRecDepth 65536 in
theorem w_case : (Jvm.Cond.and given_1 narrow_1).before args0 about1 = true := by decide +kernel
theorem w_applies : (headSpec (Jvm.Cond.code x code maxLocals ret :: tables_1) room_1).applies x e0.platform about1 = true :=
  (Spec.applies_iff w_frames).mpr ⟨w_running, w_runnable, w_alone, w_named, w_hears, w_ripe, w_room, w_tables⟩
theorem atStart : AtStart classFile x code maxLocals ret World_1 tables_1 room_1 Calls_1 rest_1 Pre_1 launch0 p0 e0 about1 theMethod args0 below0 :=
  ⟨lists_1, trivial, launch0.admits_env _ _ _, launch0.least_env, fairChoices_fair.cas, fairChoices_fair.clock, w_frames, w_args, w_heap, w_applies, trivial, trivial, w_case⟩
end start1
theorem witness_1 : WitnessClaimed_1 := ⟨start1.p0, start1.e0, start1.about1, start1.theMethod, start1.args0, start1.below0, start1.atStart⟩
end Jvm.Pilot.@@N@@
