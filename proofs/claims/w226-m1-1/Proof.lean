import JvmDerived
import JvmDerived.Pilot.@@N@@Statement
import JvmDerived.Pilot.@@N@@Code
set_option linter.unusedVariables false
set_option linter.unusedSimpArgs false

namespace Jvm.Pilot.@@N@@
open Jvm Jvm.ClassFile Sem Op Lib Jvm.Free Jvm.Stand Jvm.LawKit Jvm.RoadKit Bundle Jvm.Pilot.@@N@@.Jvm.D
section Own
variable {p : Program} {l : Launch} {e : Env} {R : Room} {s : State} {m : MethodId} {args : Array Value} {below : List Frame} {meth : Method} {c : Code} {T T' : State} {cells slots n0 kk nn : Nat} {Z : State} {a0 : Array Value} {h h' : Heap} {Q : Option Value → Heap → Prop} {g g' : JFrame} {y : MethodName} {bytes : ByteArray} {maxL : Nat} {ret : Option FieldType}
/-- where a walk stands: its fixed facts, and the library's Stand with its written places hidden (all of them new) -/
def OAt (n0 : Nat) (Z : State) (y : MethodName) (bytes : ByteArray) (maxL : Nat) (ret : Option FieldType) (p : Program) (l : Launch) (e : Env) (R : Room) (s : State) (m : MethodId) (args : Array Value) (below : List Frame) (meth : Method) (c : Code) (T : State) (h : Heap) (cells slots : Nat) : Prop :=
  (p.tables.exec = Jvm.exec ∧ Z.Warmed39 s.vm ∧ s.vm.findClass y.cls = some m.cls ∧ meth.name = y.name ∧ c.code = bytes ∧ c.maxLocals = maxL ∧ meth.sig.returnType = ret ∧ meth.locks = false) ∧
    ∃ locs, Stand p l e R s m args below meth c T locs cells slots ∧ Fr n0 locs ∧ T.heap = h
/-- the run from here ends, returns, and Q holds of what it returns and of the heap -/
def OFin (n0 : Nat) (p : Program) (e : Env) (s : State) (below : List Frame) (Q : Option Value → Heap → Prop) (kk nn : Nat) (T : State) (g : JFrame) : Prop :=
  ∃ s₂ o, Steps p.tables e below (T.setTop g) s₂ ∧ s₂.status = .running ∧ Ended s₂ below o ∧ ∃ v L, o = .returned v ∧ (Q v s₂.heap ∧ Fr n0 L) ∧ FrameEnd s o s₂ L kk nn
abbrev OMeets (l : Launch) (Z : State) (y : MethodName) (ws : List Jvm.Cond) (bytes : ByteArray) (maxL : Nat) (ret : Option FieldType) (rm : Room) (as' : Array Value) (h0 : Heap) (n0 : Nat) (Q : Option Value → Heap → Prop) : Prop :=
  MetFree l y (head1 (Jvm.Cond.code y bytes maxL ret :: ws) rm) (fun a U => a = as' ∧ Z.Warmed39 U.vm ∧ U.heap = h0) (fun _ _ _ _ _ => True) (fun _ U o U' => ∃ v L, o = .returned v ∧ (Q v U'.heap ∧ Fr n0 L) ∧ FrameEnd U o U' L rm.cells rm.slots)
theorem o_enter {ws : List Jvm.Cond} {rm : Room} {as' : Array Value} {h0 : Heap} (pn : plainFor y = true)
    (body : ∀ (p : Program) (e : Env) (s : State) (m : MethodId) (below : List Frame) (meth : Method) (c : Code) (s₁ : State), OAt n0 Z y bytes maxL ret p l e rm s m as' below meth c s₁ h0 0 0 → OFin n0 p e s below Q rm.cells rm.slots s₁ (entryFrame m as' maxL)) :
    OMeets l Z y ws bytes maxL ret rm as' h0 n0 Q := by
  refine MetFree.of_bodySF pn hisR ?_
  intro p e s m args below meth c s₁ Bd hml0 hP hK
  obtain ⟨rfl, hZ, hh⟩ := hP
  have e0 : s₁.heap = h0 := by rw [← hh, Bd.state]; rfl
  exact body p e s m below meth c s₁ ⟨⟨Bd.exec, hZ, findClass_of_methodNamed Bd.named, (name_of_methodNamed Bd.named Bd.method).1, Bd.bytes, hml0, Bd.returns, Bd.notSynchronized⟩, [], Stand.of_body Bd, Fr.nil n0, e0⟩
theorem OFin.cast (q : g = g') (k : OFin n0 p e s below Q kk nn T g') : OFin n0 p e s below Q kk nn T g := q ▸ k
theorem OFin.run (f : ∀ t, Steps p.tables e below (T'.setTop g') t → Steps p.tables e below (T.setTop g) t) (k : OFin n0 p e s below Q kk nn T' g') : OFin n0 p e s below Q kk nn T g := by
  obtain ⟨s₂, o, h1, h2⟩ := k; exact ⟨s₂, o, f _ h1, h2⟩
theorem OFin.imp {Q' : Option Value → Heap → Prop} (k : OFin n0 p e s below Q' kk nn T g) (f : ∀ v h, Q' v h → Q v h) : OFin n0 p e s below Q kk nn T g := by
  obtain ⟨s₂, o, h1, h2, h3, v, L, h4, h5, h6⟩ := k; exact ⟨s₂, o, h1, h2, h3, v, L, h4, ⟨f _ _ h5.1, h5.2⟩, h6⟩
/-- a step of the single-step laws -/
theorem OAt.step (X : OAt n0 Z y bytes maxL ret p l e R s m args below meth c T h cells slots) (f : At T m c below → p.tables.exec = Jvm.exec → c.code = bytes → ∀ t, Steps p.tables e below (T.setTop g') t → Steps p.tables e below (T.setTop g) t) (k : OFin n0 p e s below Q kk nn T g') : OFin n0 p e s below Q kk nn T g := by
  obtain ⟨⟨hx, -, -, -, hby, -⟩, locs, X, -⟩ := X
  exact OFin.run (f X.here hx hby) k
theorem OAt.retN (X : OAt n0 Z y bytes maxL (some t) p l e R s m args below meth c T h cells slots) (ht : t = .boolean ∨ t = .byte ∨ t = .char ∨ t = .short) {pc : Nat} {Ls : Array Slot} {z : Int32} {rest : List Value} (hd : decode bytes pc = .ok (.ireturn, 1)) (hc : cells ≤ kk) (hn : slots ≤ nn) (hQ : Q (some (.int (nar t z))) h) : OFin n0 p e s below Q kk nn T (mkF m pc Ls (.int z :: rest)) := by
  obtain ⟨⟨hx, -, -, -, hby, -, hret, hlk⟩, locs, X, N, eh⟩ := X
  obtain ⟨fs, hr, hrun, hended, hW, hsame⟩ := X.leave (v := some (.int (nar t z))) (fun h => by rw [hret] at h; cases h) hlk
  exact ⟨_, _, Jvm.RoadKit.retN X hx hret ht (hb hby hd) hr, hrun, hended, _, _, rfl, ⟨by show Q _ T.heap; rw [eh]; exact hQ, N⟩, ⟨_, rfl⟩, hW, hsame.mono hc hn⟩
theorem OAt.retI (X : OAt n0 Z y bytes maxL (some .int) p l e R s m args below meth c T h cells slots) {pc : Nat} {Ls : Array Slot} {z : Int32} {rest : List Value} (hd : decode bytes pc = .ok (.ireturn, 1)) (hc : cells ≤ kk) (hn : slots ≤ nn) (hQ : Q (some (.int z)) h) : OFin n0 p e s below Q kk nn T (mkF m pc Ls (.int z :: rest)) := by
  obtain ⟨⟨hx, -, -, -, hby, -, hret, hlk⟩, locs, X, N, eh⟩ := X
  obtain ⟨fs, hr, hrun, hended, hW, hsame⟩ := X.leave (v := some (.int z)) (fun h => by rw [hret] at h; cases h) hlk
  exact ⟨_, _, retOut X hx hret rfl (Or.inl ⟨rfl, Or.inl rfl, _, rfl⟩) (hb hby hd) hr, hrun, hended, _, _, rfl, ⟨by show Q _ T.heap; rw [eh]; exact hQ, N⟩, ⟨_, rfl⟩, hW, hsame.mono hc hn⟩
theorem OAt.retL (X : OAt n0 Z y bytes maxL (some .long) p l e R s m args below meth c T h cells slots) {pc : Nat} {Ls : Array Slot} {z : Int64} {rest : List Value} (hd : decode bytes pc = .ok (.lreturn, 1)) (hc : cells ≤ kk) (hn : slots ≤ nn) (hQ : Q (some (.long z)) h) : OFin n0 p e s below Q kk nn T (mkF m pc Ls (.long z :: rest)) := by
  obtain ⟨⟨hx, -, -, -, hby, -, hret, hlk⟩, locs, X, N, eh⟩ := X
  obtain ⟨fs, hr, hrun, hended, hW, hsame⟩ := X.leave (v := some (.long z)) (fun h => by rw [hret] at h; cases h) hlk
  exact ⟨_, _, retOut X hx hret rfl (Or.inr (Or.inl ⟨rfl, rfl, _, rfl⟩)) (hb hby hd) hr, hrun, hended, _, _, rfl, ⟨by show Q _ T.heap; rw [eh]; exact hQ, N⟩, ⟨_, rfl⟩, hW, hsame.mono hc hn⟩
theorem OAt.retR (X : OAt n0 Z y bytes maxL (some t) p l e R s m args below meth c T h cells slots) (ht : t.isReference = true) {pc : Nat} {Ls : Array Slot} {w : Value} {rest : List Value} (hw : w.isRef = true) (hd : decode bytes pc = .ok (.areturn, 1)) (hc : cells ≤ kk) (hn : slots ≤ nn) (hQ : Q (some w) h) : OFin n0 p e s below Q kk nn T (mkF m pc Ls (w :: rest)) := by
  obtain ⟨⟨hx, -, -, -, hby, -, hret, hlk⟩, locs, X, N, eh⟩ := X
  have hna : narrow t w = w := by rcases ref_cases hw with rfl | ⟨a, rfl⟩ <;> cases t <;> first | rfl | cases ht
  obtain ⟨fs, hr, hrun, hended, hW, hsame⟩ := X.leave (v := some w) (fun h => by rw [hret] at h; cases h) hlk
  exact ⟨_, _, retOut X hx hret hna (Or.inr (Or.inr (Or.inr (Or.inr ⟨rfl, ht, hw⟩)))) (hb hby hd) hr, hrun, hended, _, _, rfl, ⟨by show Q _ T.heap; rw [eh]; exact hQ, N⟩, ⟨_, rfl⟩, hW, hsame.mono hc hn⟩
theorem OAt.retV (X : OAt n0 Z y bytes maxL none p l e R s m args below meth c T h cells slots) {pc : Nat} {Ls : Array Slot} (hd : decode bytes pc = .ok (.return_, 1)) (hc : cells ≤ kk) (hn : slots ≤ nn) (hQ : Q none h) : OFin n0 p e s below Q kk nn T (mkF m pc Ls []) := by
  obtain ⟨⟨hx, -, -, -, hby, -, hret, hlk⟩, locs, X, N, eh⟩ := X
  obtain ⟨fs, hr, hrun, hended, hW, hsame⟩ := X.leave (v := none) (fun _ => rfl) hlk
  exact ⟨_, _, X.returnOut hx hret (hb hby hd) hr, hrun, hended, _, _, rfl, ⟨by show Q _ T.heap; rw [eh]; exact hQ, N⟩, ⟨_, rfl⟩, hW, hsame.mono hc hn⟩
theorem OAt.ldcI (X : OAt n0 Z y bytes maxL ret p l e R s m args below meth c T h cells slots) {index : Nat} {v : Int32} (w : (Jvm.Cond.constant y.cls index v).before a0 Z = true) (hg : g.method = m) (hd : decode bytes g.pc = .ok (.ldc index, 2))
    (k : OFin n0 p e s below Q kk nn T { g with pc := g.pc + 2, stack := .int v :: g.stack }) : OFin n0 p e s below Q kk nn T g := by
  obtain ⟨⟨hx, hZ, hown, -, hby, -⟩, locs, X, -⟩ := X
  exact OFin.run (X.ldcInt hx hown (mvT hZ w) hg (hb hby hd)) k
theorem OAt.ldcwI (X : OAt n0 Z y bytes maxL ret p l e R s m args below meth c T h cells slots) {index : Nat} {v : Int32} (w : (Jvm.Cond.constant y.cls index v).before a0 Z = true) (hg : g.method = m) (hd : decode bytes g.pc = .ok (.ldc_w index, 3))
    (k : OFin n0 p e s below Q kk nn T { g with pc := g.pc + 3, stack := .int v :: g.stack }) : OFin n0 p e s below Q kk nn T g := by
  obtain ⟨⟨hx, hZ, hown, -, hby, -⟩, locs, X, -⟩ := X
  exact OFin.run (X.ldcwInt hx hown (mvT hZ w) hg (hb hby hd)) k
theorem OAt.ldcL (X : OAt n0 Z y bytes maxL ret p l e R s m args below meth c T h cells slots) {index : Nat} {v : Int64} (w : (Jvm.Cond.constantLong y.cls index v).before a0 Z = true) (hg : g.method = m) (hd : decode bytes g.pc = .ok (.ldc2_w index, 3))
    (k : OFin n0 p e s below Q kk nn T { g with pc := g.pc + 3, stack := .long v :: g.stack }) : OFin n0 p e s below Q kk nn T g := by
  obtain ⟨⟨hx, hZ, hown, -, hby, -⟩, locs, X, -⟩ := X
  exact OFin.run (X.ldc2Long hx hown (mvT hZ w) hg (hb hby hd)) k
theorem OAt.getF (X : OAt n0 Z y bytes maxL ret p l e R s m args below meth c T h cells slots) {O n d : String} {index : Nat} (w : (Jvm.Cond.fieldLink y.cls index O n d).before a0 Z = true) {a : Addr} {v : Value} (F : Fld Z h a O n d v) (hg : g.method = m) {rest : List Value} (hs : g.stack = .ref a :: rest) (hd : decode bytes g.pc = .ok (.getfield index, 3))
    (k : ∀ T', OAt n0 Z y bytes maxL ret p l e R s m args below meth c T' h cells slots → OFin n0 p e s below Q kk nn T' { g with pc := g.pc + 3, stack := v :: rest }) : OFin n0 p e s below Q kk nn T g := by
  obtain ⟨C, locs, X, N, eh⟩ := X
  obtain ⟨hx, hZ, hown, -, hby, -⟩ := id C
  obtain ⟨T', X', e', st⟩ := Jvm.RoadKit.getF X hx hZ hown (host := "") (Or.inl w) Via.refl eh F hg hs (hb hby hd)
  exact OFin.run st (k T' ⟨C, locs, X', N, e'⟩)
theorem OAt.getS (X : OAt n0 Z y bytes maxL ret p l e R s m args below meth c T h cells slots) {O n d : String} {index : Nat} (w : (Jvm.Cond.fieldLink y.cls index O n d).before a0 Z = true) {v : Value} (F : Sta Z h O n d v) (hg : g.method = m) (hd : decode bytes g.pc = .ok (.getstatic index, 3))
    (k : ∀ T', OAt n0 Z y bytes maxL ret p l e R s m args below meth c T' h cells slots → OFin n0 p e s below Q kk nn T' { g with pc := g.pc + 3, stack := v :: g.stack }) : OFin n0 p e s below Q kk nn T g := by
  obtain ⟨C, locs, X, N, eh⟩ := X
  obtain ⟨hx, hZ, hown, -, hby, -⟩ := id C
  obtain ⟨T', X', e', st⟩ := Jvm.RoadKit.getS X hx hZ hown w Via.refl eh F hg (hb hby hd) (host := "")
  exact OFin.run st (k T' ⟨C, locs, X', N, e'⟩)
theorem OAt.putF (X : OAt n0 Z y bytes maxL ret p l e R s m args below meth c T h cells slots) {O n d C : String} {index ki : Nat} {ty : FieldType} (w : (Jvm.Cond.fieldLink y.cls index O n d).before a0 Z = true) {a : Addr} {v old : Value} (F : Fld Z h a O n d old) (E : Exa Z h a C) (L : (Jvm.Cond.lays C O n d).before a0 Z = true ∨ ((Jvm.Cond.laysFinal C O n d).before a0 Z = true ∧ y.cls = O ∧ y.name = "<init>"))
    (wi : (Jvm.Cond.instantiable C ki).before a0 Z = true) (hty : parseFieldDescriptor d = some ty) (hn : narrow ty v = v) (hf : fits ty v = true) (hnew : n0 ≤ a) (hg : g.method = m) {rest : List Value} (hs : g.stack = v :: .ref a :: rest) (hd : decode bytes g.pc = .ok (.putfield index, 3))
    (k : ∀ T' h', OAt n0 Z y bytes maxL ret p l e R s m args below meth c T' h' cells slots → Wr h h' a (Jvm.RoadKit.slotOf Z O n d) v → OFin n0 p e s below Q kk nn T' { g with pc := g.pc + 3, stack := rest }) : OFin n0 p e s below Q kk nn T g := by
  obtain ⟨C, locs, X, N, eh⟩ := X
  obtain ⟨hx, hZ, hown, hnm, hby, -⟩ := id C
  obtain ⟨T', h', X', e', W, st⟩ := Jvm.RoadKit.putF X hx hZ hown (host := "") (Or.inl w) Via.refl eh F E (L.imp id fun q => ⟨q.1, q.2.1, hnm.trans q.2.2⟩) wi hty hn hf hg hs (hb hby hd)
  exact OFin.run st (k T' h' ⟨C, _, X', Fr.snoc X' N hnew, e'⟩ W)
theorem OAt.initO (X : OAt n0 Z y bytes maxL ret p l e R s m args below meth c T h cells slots) {idx : Nat} (w1 : (Jvm.Cond.methodLink y.cls idx Lib.objectInit).before a0 Z = true) (w2 : (Jvm.Cond.instanceMethod Lib.objectInit).before a0 Z = true) (w3 : (Jvm.Cond.code Lib.objectInit ⟨#[0xb1]⟩ 1 none).before a0 Z = true) (hg : g.method = m) (hsize : g.locals.size = maxL) {a : Addr} {rest : List Value} (hs : g.stack = .ref a :: rest) (hd : decode bytes g.pc = .ok (.invokespecial idx, 3))
    (hf : 1 ≤ R.frames) {W : Nat} (hW : 2 * g.monitorRoom + (rest.map fun v => v.category).sum ≤ W) (hl : W + 12 ≤ R.locals)
    (k : ∀ T', OAt n0 Z y bytes maxL ret p l e R s m args below meth c T' h cells slots → OFin n0 p e s below Q kk nn T' { g with pc := g.pc + 3, stack := rest }) : OFin n0 p e s below Q kk nn T g := by
  obtain ⟨C, locs, X, N, eh⟩ := X
  obtain ⟨hx, hZ, hown, -, hby, hml, -⟩ := id C
  obtain ⟨T', X', e', st⟩ := Jvm.RoadKit.initO X hx hZ hown w1 w2 w3 eh hg (hsize.trans hml.symm) hs (hb hby hd) hf hW hl
  exact OFin.run st (k T' ⟨C, locs, X', N, e'⟩)
theorem OAt.newO (X : OAt n0 Z y bytes maxL ret p l e R s m args below meth c T h cells slots) {C : String} {index n : Nat} (w : (Jvm.Cond.classLink y.cls index C).before a0 Z = true) (wi : (Jvm.Cond.instantiable C n).before a0 Z = true) (wz : (Jvm.Cond.initialized C).before a0 Z = true) (hg : g.method = m) (hd : decode bytes g.pc = .ok (.new index, 3)) (hc : cells + 1 ≤ R.cells) (hl : slots + n ≤ R.slots)
    (k : ∀ T' h' a, a = h.size → OAt n0 Z y bytes maxL ret p l e R s m args below meth c T' h' (cells + 1) (slots + n) → Ext h h' → Exa Z h' a C → (∀ {O nm d : String} {ty : FieldType}, Laid Z a0 C O nm d → parseFieldDescriptor d = some ty → Fld Z h' a O nm d (defaultValue ty)) → OFin n0 p e s below Q kk nn T' { g with pc := g.pc + 3, stack := .ref a :: g.stack }) : OFin n0 p e s below Q kk nn T g := by
  obtain ⟨C', locs, X, N, eh⟩ := X
  obtain ⟨hx, hZ, hown, -, hby, -⟩ := id C'
  obtain ⟨T', h', X', e', E, A, D, -, st⟩ := Jvm.RoadKit.newO X hx hZ hown w wi wz eh hg (hb hby hd) hc hl
  exact OFin.run st (k T' h' _ rfl ⟨C', locs, X', N, e'⟩ E A D)
theorem OAt.newP (X : OAt n0 Z y bytes maxL ret p l e R s m args below meth c T h cells slots) {aty : ArrayType} (w : (Jvm.Cond.arrayClass (newarray.typeOf aty)).before a0 Z = true) (hg : g.method = m) (hd : decode bytes g.pc = .ok (.newarray aty, 2)) {n : Int32} {rest : List Value} (hs : g.stack = .int n :: rest) (hn : ¬ n < 0) {cap : Nat} (hcap : n.toNatClampNeg ≤ cap) (hb8 : cap * 8 ≤ 536870912) (hc : cells + 1 ≤ R.cells) (hl : slots + cap ≤ R.slots) {ad : String} (had : "[" ++ (newarray.typeOf aty).toString = ad)
    (k : ∀ T' h' cA a, a = h.size → OAt n0 Z y bytes maxL ret p l e R s m args below meth c T' h' (cells + 1) (slots + cap) → Ext h h' → Arr Z h' a (newA cA (newarray.typeOf aty) n) (newarray.typeOf aty) → Exa Z h' a ad → OFin n0 p e s below Q kk nn T' { g with pc := g.pc + 2, stack := .ref a :: rest }) : OFin n0 p e s below Q kk nn T g := by
  obtain ⟨C', locs, X, N, eh⟩ := X
  obtain ⟨hx, hZ, hown, -, hby, -⟩ := id C'
  obtain ⟨T', h', cA, X', e', E, A, A', st⟩ := newPE X hx hZ w eh hg (hb hby hd) hs hn hcap hb8 hc hl had
  exact OFin.run st (k T' h' cA _ rfl ⟨C', locs, X', N, e'⟩ E A A')
theorem OAt.newRA (X : OAt n0 Z y bytes maxL ret p l e R s m args below meth c T h cells slots) {C : String} {ty : FieldType} {index : Nat} (hC : (FieldType.array ty).toString = C) (w1 : (Jvm.Cond.classLink y.cls index C).before a0 Z = true) (w2 : (Jvm.Cond.arrayOver (.array ty)).before a0 Z = true) (hg : g.method = m) (hd : decode bytes g.pc = .ok (.anewarray index, 3)) {n : Int32} {rest : List Value} (hs : g.stack = .int n :: rest) (hn : ¬ n < 0) {cap : Nat} (hcap : n.toNatClampNeg ≤ cap) (hb8 : cap * 8 ≤ 536870912) (hc : cells + 1 ≤ R.cells) (hl : slots + cap ≤ R.slots) {ad : String} (had : "[" ++ C = ad)
    (k : ∀ T' h' cA a, a = h.size → OAt n0 Z y bytes maxL ret p l e R s m args below meth c T' h' (cells + 1) (slots + cap) → Ext h h' → Arr Z h' a (newA cA (.array ty) n) (.array ty) → Exa Z h' a ad → OvrA Z cA ty C → OFin n0 p e s below Q kk nn T' { g with pc := g.pc + 3, stack := .ref a :: rest }) : OFin n0 p e s below Q kk nn T g := by
  obtain ⟨C', locs, X, N, eh⟩ := X
  obtain ⟨hx, hZ, hown, -, hby, -⟩ := id C'
  obtain ⟨T', h', cA, X', e', E, A, A', O, st⟩ := Jvm.RoadKit.newRA X hx hZ hown hC w1 w2 eh hg (hb hby hd) hs hn hcap hb8 hc hl had
  exact OFin.run st (k T' h' cA _ rfl ⟨C', locs, X', N, e'⟩ E A A' O)
theorem OAt.clone (X : OAt n0 Z y bytes maxL ret p l e R s m args below meth c T h cells slots) {ad : String} {index : Nat} (w1 : (Jvm.Cond.methodLink y.cls index ⟨ad, "clone", "()Ljava/lang/Object;"⟩).before a0 Z = true) (w2 : (Jvm.Cond.sameMethod ad "java/lang/Object" "clone" "()Ljava/lang/Object;").before a0 Z = true) (w3 : (Jvm.Cond.native ⟨"java/lang/Object", "clone", "()Ljava/lang/Object;"⟩).before a0 Z = true)
    (w4 : (Jvm.Cond.instanceMethod ⟨"java/lang/Object", "clone", "()Ljava/lang/Object;"⟩).before a0 Z = true) (w5 : (Jvm.Cond.selects ad ⟨ad, "clone", "()Ljava/lang/Object;"⟩ ⟨"java/lang/Object", "clone", "()Ljava/lang/Object;"⟩).before a0 Z = true) (w6 : (Jvm.Cond.castable ad "java/lang/Cloneable").before a0 Z = true)
    {a : Addr} {cl : Cell} {ty : FieldType} (A : Arr Z h a cl ty) (E : Exa Z h a ad) (F : FitC Z cl) (hg : g.method = m) (hsize : g.locals.size = maxL) {rest : List Value} (hs : g.stack = .ref a :: rest) (hd : decode bytes g.pc = .ok (.invokevirtual index, 3))
    (hf : 1 ≤ R.frames) {W cap : Nat} (hW : 2 * g.monitorRoom + (rest.map fun v => v.category).sum ≤ W) (hl : W + 14 ≤ R.locals) (hcap : cl.slots.size ≤ cap) (hc : cells + 1 ≤ R.cells) (hsl : slots + cap ≤ R.slots)
    (k : ∀ T' h' b, b = h.size → OAt n0 Z y bytes maxL ret p l e R s m args below meth c T' h' (cells + 1) (slots + cap) → Ext h h' → Arr Z h' b (Jvm.RoadKit.cloneOf cl) ty → Exa Z h' b ad → OFin n0 p e s below Q kk nn T' { g with pc := g.pc + 3, stack := .ref b :: rest }) : OFin n0 p e s below Q kk nn T g := by
  obtain ⟨C', locs, X, N, eh⟩ := X
  obtain ⟨hx, hZ, hown, -, hby, hml, -⟩ := id C'
  obtain ⟨T', h', X', e', E', A', A'', st⟩ := Jvm.RoadKit.cloneA X hx hZ hown w1 w2 w3 w4 w5 w6 eh A E F hg (hsize.trans hml.symm) hs (hb hby hd) hf hW hl hcap hc hsl
  exact OFin.run st (k T' h' _ rfl ⟨C', locs, X', N, e'⟩ E' A' A'')
theorem OAt.stR (X : OAt n0 Z y bytes maxL ret p l e R s m args below meth c T h cells slots) {a : Addr} {cl : Cell} {ty : FieldType} (A : Arr Z h a cl ty) {j : Int32} {v : Value} (hin : ¬ (j < 0 ∨ cl.slots.size ≤ j.toNatClampNeg)) (hty : ty.isReference = true) (F : Sto Z h a v) (hnew : n0 ≤ a) (hg : g.method = m) {rest : List Value} (hs : g.stack = v :: .int j :: .ref a :: rest) (hd : decode bytes g.pc = .ok (.aastore, 1))
    (k : ∀ T' h', OAt n0 Z y bytes maxL ret p l e R s m args below meth c T' h' cells slots → Wr h h' a j.toNatClampNeg v → OFin n0 p e s below Q kk nn T' { g with pc := g.pc + 1, stack := rest }) : OFin n0 p e s below Q kk nn T g := by
  obtain ⟨C, locs, X, N, eh⟩ := X
  obtain ⟨hx, hZ, hown, -, hby, -⟩ := id C
  obtain ⟨T', h', X', e', W, st⟩ := Jvm.RoadKit.stR X hx hZ eh A hin hty F hg hs (hb hby hd)
  exact OFin.run st (k T' h' ⟨C, _, X', Fr.snoc X' N hnew, e'⟩ W)
theorem OAt.acmp (X : OAt n0 Z y bytes maxL ret p l e R s m args below meth c T h cells slots) (hg : g.method = m) {cd : ACond} {u v : Value} (h1 : u.isRef = true) (h2 : v.isRef = true) {rest : List Value} {o : Int} {pc0 pc' : Nat} {same : Bool} (hpc : g.pc = pc0) (hd : decode bytes g.pc = .ok (.if_acmp cd o, 3)) (hs : g.stack = v :: u :: rest) (hq : decide (u = v) = same) (ho : 0 ≤ (pc0 : Int) + o) (hp : pc' = if acV cd same = true then ((pc0 : Int) + o).toNat else pc0 + 3)
    (k : OFin n0 p e s below Q kk nn T { g with pc := pc', stack := rest }) : OFin n0 p e s below Q kk nn T g := by
  obtain ⟨⟨hx, hZ, hown, -, hby, -⟩, locs, X, -⟩ := X
  exact OFin.run (fun t kk => Jvm.RoadKit.acmp X hx hg h1 h2 hpc (hb hby hd) hs hq ho hp kk) k
theorem OAt.irem (X : OAt n0 Z y bytes maxL ret p l e R s m args below meth c T h cells slots) (hg : g.method = m) {u v : Int32} {rest : List Value} (hd : decode bytes g.pc = .ok (.irem, 1)) (hs : g.stack = .int v :: .int u :: rest) (hv : v ≠ 0)
    (k : OFin n0 p e s below Q kk nn T { g with pc := g.pc + 1, stack := .int (u % v) :: rest }) : OFin n0 p e s below Q kk nn T g := by
  obtain ⟨⟨hx, hZ, hown, -, hby, -⟩, locs, X, -⟩ := X
  exact OFin.run (fun t kk => iremM X hx hg (hb hby hd) hs hv kk) k
theorem OAt.callS (X : OAt n0 Z y bytes maxL ret p l e R s m args below meth c T h cells slots) {index : Nat} {y' : MethodName} {bytes' : ByteArray} {maxL' : Nat} {ret' : Option FieldType} (w1 : (Jvm.Cond.methodLink y.cls index y').before a0 Z = true) (w2 : (Jvm.Cond.static y').before a0 Z = true) (w3 : (Jvm.Cond.initialized y'.cls).before a0 Z = true) (w4 : (Jvm.Cond.code y' bytes' maxL' ret').before a0 Z = true)
    (hy : y'.cls ≠ "java/lang/invoke/MethodHandle" ∧ y'.cls ≠ "java/lang/invoke/VarHandle") {rm : Room} {Qc : Option Value → Heap → Prop} {argsL rest : List Value} (hM : OMeets l Z y' [] bytes' maxL' ret' rm argsL.toArray h n0 Qc)
    (hg : g.method = m) (hsize : g.locals.size = maxL) {ps : List FieldType} {r : Option FieldType} (hpd : parseMethodDescriptor y'.desc = some ⟨ps, r⟩) (hlen : argsL.length = ps.length) (hs : g.stack = argsL.reverse ++ rest) {W : Nat} (hW : 2 * g.monitorRoom + (rest.map fun v => v.category).sum ≤ W) (hd : decode bytes g.pc = .ok (.invokestatic index, 3))
    (hf : rm.frames + 1 ≤ R.frames) (hl : W + (maxL' + 11) + rm.locals ≤ R.locals) (hc : cells + rm.cells ≤ R.cells) (hn : slots + rm.slots ≤ R.slots)
    (k : ∀ v T' h', OAt n0 Z y bytes maxL ret p l e R s m args below meth c T' h' (cells + rm.cells) (slots + rm.slots) → Qc v h' → OFin n0 p e s below Q kk nn T' { g with pc := g.pc + 3, stack := v.toList ++ rest }) : OFin n0 p e s below Q kk nn T g := by
  obtain ⟨C, locs, X, N, eh⟩ := X
  obtain ⟨hx, hZ, hown, -, hby, hml, -⟩ := id C
  obtain ⟨v, _, ⟨T1, L1, k1, n1⟩, -, X1, ⟨Lc, hQ, l1, y1, z1⟩, st⟩ := Jvm.LawKit.callS X hx hown (mvT hZ w1) (mvT hZ w2) (mvT hZ w3) (mvT hZ w4) hy
    (backOf (W := W) (Q := fun v h L => Qc v h ∧ Fr n0 L) hM hZ w4 w3 hf hl) hg (hsize.trans hml.symm) (lenOf hpd hlen) hs hW (hb hby hd) (fun _ _ => ⟨rfl, eh, hc, hn⟩)
  dsimp only [Pt.U, Pt.locs, Pt.cells, Pt.slots] at X1 l1 y1 z1 st hQ
  subst l1 y1 z1
  exact OFin.run st (k v T1 _ ⟨C, _, X1, N.app hQ.2, rfl⟩ hQ.1)
theorem OAt.callI (X : OAt n0 Z y bytes maxL ret p l e R s m args below meth c T h cells slots) {index : Nat} {y' : MethodName} {bytes' : ByteArray} {maxL' : Nat} (hy1 : y'.name = "<init>") (w1 : (Jvm.Cond.methodLink y.cls index y').before a0 Z = true) (w2 : (Jvm.Cond.instanceMethod y').before a0 Z = true) (w3 : (Jvm.Cond.initialized y'.cls).before a0 Z = true) (w4 : (Jvm.Cond.code y' bytes' maxL' none).before a0 Z = true)
    (hy : y'.cls ≠ "java/lang/invoke/MethodHandle" ∧ y'.cls ≠ "java/lang/invoke/VarHandle") {rm : Room} {Qc : Option Value → Heap → Prop} {a : Addr} {argsL rest : List Value} (hM : OMeets l Z y' [] bytes' maxL' none rm (Value.ref a :: argsL).toArray h n0 Qc)
    (hg : g.method = m) (hsize : g.locals.size = maxL) {ps : List FieldType} {r : Option FieldType} (hpd : parseMethodDescriptor y'.desc = some ⟨ps, r⟩) (hlen : argsL.length = ps.length) (hs : g.stack = argsL.reverse ++ .ref a :: rest) {W : Nat} (hW : 2 * g.monitorRoom + (rest.map fun v => v.category).sum ≤ W) (hd : decode bytes g.pc = .ok (.invokespecial index, 3))
    (hf : rm.frames + 1 ≤ R.frames) (hl : W + (maxL' + 11) + rm.locals ≤ R.locals) (hc : cells + rm.cells ≤ R.cells) (hn : slots + rm.slots ≤ R.slots)
    (k : ∀ v T' h', OAt n0 Z y bytes maxL ret p l e R s m args below meth c T' h' (cells + rm.cells) (slots + rm.slots) → Qc v h' → OFin n0 p e s below Q kk nn T' { g with pc := g.pc + 3, stack := v.toList ++ rest }) : OFin n0 p e s below Q kk nn T g := by
  obtain ⟨C, locs, X, N, eh⟩ := X
  obtain ⟨hx, hZ, hown, -, hby, hml, -⟩ := id C
  obtain ⟨v, _, ⟨T1, L1, k1, n1⟩, -, X1, ⟨Lc, hQ, l1, y1, z1⟩, st⟩ := X.specialBack hx hy1 hown (mvT hZ w1) (mvT hZ w2) (mvT hZ w4) hy
    (backOf (W := W) (Q := fun v h L => Qc v h ∧ Fr n0 L) hM hZ w4 w3 hf hl) hg (hsize.trans hml.symm) (Steps.refl _) (lenOf hpd hlen) hs hW (hb hby hd) (fun _ _ => ⟨rfl, eh, hc, hn⟩)
  dsimp only [Pt.U, Pt.locs, Pt.cells, Pt.slots] at X1 l1 y1 z1 st hQ
  subst l1 y1 z1
  exact OFin.run (fun t k => st.trans k) (k v T1 _ ⟨C, _, X1, N.app hQ.2, rfl⟩ hQ.1)
theorem OAt.callV (X : OAt n0 Z y bytes maxL ret p l e R s m args below meth c T h cells slots) {index : Nat} {y' z' : MethodName} {C0 : String} {bytes' : ByteArray} {maxL' : Nat} {ret' : Option FieldType} (w1 : (Jvm.Cond.methodLink y.cls index y').before a0 Z = true) (w2 : (Jvm.Cond.declares y').before a0 Z = true) (nf : NotFace s y') (w5 : (Jvm.Cond.selects C0 y' z').before a0 Z = true) (w6 : (Jvm.Cond.instanceMethod z').before a0 Z = true) (w3 : (Jvm.Cond.initialized z'.cls).before a0 Z = true) (w4 : (Jvm.Cond.code z' bytes' maxL' ret').before a0 Z = true)
    (hy : y'.cls ≠ "java/lang/invoke/MethodHandle" ∧ y'.cls ≠ "java/lang/invoke/VarHandle") {rm : Room} {Qc : Option Value → Heap → Prop} {a : Addr} (E : Exa Z h a C0) {argsL rest : List Value} (hM : OMeets l Z z' [] bytes' maxL' ret' rm (Value.ref a :: argsL).toArray h n0 Qc)
    (hg : g.method = m) (hsize : g.locals.size = maxL) {ps : List FieldType} {r : Option FieldType} (hpd : parseMethodDescriptor y'.desc = some ⟨ps, r⟩) (hlen : argsL.length = ps.length) (hs : g.stack = argsL.reverse ++ .ref a :: rest) {W : Nat} (hW : 2 * g.monitorRoom + (rest.map fun v => v.category).sum ≤ W) (hd : decode bytes g.pc = .ok (.invokevirtual index, 3))
    (hf : rm.frames + 1 ≤ R.frames) (hl : W + (maxL' + 11) + rm.locals ≤ R.locals) (hc : cells + rm.cells ≤ R.cells) (hn : slots + rm.slots ≤ R.slots)
    (k : ∀ v T' h', OAt n0 Z y bytes maxL ret p l e R s m args below meth c T' h' (cells + rm.cells) (slots + rm.slots) → Qc v h' → OFin n0 p e s below Q kk nn T' { g with pc := g.pc + 3, stack := v.toList ++ rest }) : OFin n0 p e s below Q kk nn T g := by
  obtain ⟨C, locs, X, N, eh⟩ := X
  obtain ⟨hx, hZ, hown, -, hby, hml, -⟩ := id C
  obtain ⟨cq, kq, qa, qb, qc⟩ := isOf hZ eh E
  obtain ⟨v, _, ⟨T1, L1, k1, n1⟩, -, X1, ⟨Lc, hQ, l1, y1, z1⟩, st⟩ := X.virtualBack hx hown (mvT hZ w1) (mvT hZ w2) nf (mvT hZ w5) (mvT hZ w6) hy
    (backOf (W := W) (Q := fun v h L => Qc v h ∧ Fr n0 L) hM hZ w4 w3 hf hl) qa qc hg (hsize.trans hml.symm) (Steps.refl _) (lenOf hpd hlen) hs hW (hb hby hd) (fun _ _ => ⟨rfl, eh, hc, hn⟩)
  dsimp only [Pt.U, Pt.locs, Pt.cells, Pt.slots] at X1 l1 y1 z1 st hQ
  subst l1 y1 z1
  exact OFin.run (fun t k => st.trans k) (k v T1 _ ⟨C, _, X1, N.app hQ.2, rfl⟩ hQ.1)
theorem OAt.notFace (X : OAt n0 Z y bytes maxL ret p l e R s m args below meth c T h cells slots) {C0 : String} {y' z' : MethodName} (w : (Jvm.Cond.selects C0 y' z').before a0 Z = true) (hq : y' = z') : NotFace s y' := by
  obtain ⟨⟨hx, hZ, -⟩, -⟩ := X
  subst hq
  exact notFace_of_selects (args := #[]) (mvT hZ w)
theorem OAt.aload0 (X : OAt n0 Z y bytes maxL ret p l e R s m args below meth c T h cells slots) {a : Addr} {cl : Cell} {ty : FieldType} (A : Arr Z h a cl ty) {j : Int32} {v : Value} (hin : ¬ (j < 0 ∨ cl.slots.size ≤ j.toNatClampNeg)) (hv : cl.slots[j.toNatClampNeg]? = some v) (hg : g.method = m) {rest : List Value} (hs : g.stack = .int j :: .ref a :: rest)
    {i : Instr} (hi : (i = .iaload ∧ ty = .int) ∨ (i = .laload ∧ ty = .long) ∨ (i = .caload ∧ ty = .char) ∨ (i = .baload ∧ ty = .byte) ∨ (i = .aaload ∧ ty.isReference = true)) (hd : decode bytes g.pc = .ok (i, 1))
    (k : OFin n0 p e s below Q kk nn T { g with pc := g.pc + 1, stack := v :: rest }) : OFin n0 p e s below Q kk nn T g := by
  obtain ⟨⟨hx, hZ, hown, -, hby, -⟩, locs, X, N, eh⟩ := X
  have hA := State.isArrayOf_alike hZ.alike A.2.1
  have hc : T.heap[a]? = some cl := by rw [eh]; exact A.1
  rcases hi with ⟨rfl, rfl⟩ | ⟨rfl, rfl⟩ | ⟨rfl, rfl⟩ | ⟨rfl, rfl⟩ | ⟨rfl, ht⟩
  · exact OFin.run (X.iaload hx hc hA A.2.2 hin hv hg hs (hb hby hd)) k
  · exact OFin.run (X.laload hx hc hA A.2.2 hin hv hg hs (hb hby hd)) k
  · exact OFin.run (X.caload hx hc hA A.2.2 hin hv hg hs (hb hby hd)) k
  · exact OFin.run (X.baloadBytes hx hc hA A.2.2 hin hv hg hs (hb hby hd)) k
  · exact OFin.run (X.aaload hx hc hA ht A.2.2 hin hv hg hs (hb hby hd)) k
theorem OAt.alen (X : OAt n0 Z y bytes maxL ret p l e R s m args below meth c T h cells slots) {a : Addr} {cl : Cell} {ty : FieldType} (A : Arr Z h a cl ty) {n : Int32} (hn : cl.slots.size.toInt32 = n) (hg : g.method = m) {rest : List Value} (hs : g.stack = .ref a :: rest) (hd : decode bytes g.pc = .ok (.arraylength, 1))
    (k : OFin n0 p e s below Q kk nn T { g with pc := g.pc + 1, stack := .int n :: rest }) : OFin n0 p e s below Q kk nn T g := by
  obtain ⟨⟨hx, hZ, hown, -, hby, -⟩, locs, X, N, eh⟩ := X
  subst hn
  exact OFin.run (X.arraylength hx (by rw [eh]; exact A.1) (State.isArrayOf_alike hZ.alike A.2.1) hg hs (hb hby hd)) k
theorem OAt.stJ (X : OAt n0 Z y bytes maxL ret p l e R s m args below meth c T h cells slots) {a : Addr} {cl : Cell} (A : Arr Z h a cl .long) {j : Int32} {v : Int64} (hin : ¬ (j < 0 ∨ cl.slots.size ≤ j.toNatClampNeg)) (hnew : n0 ≤ a) (hg : g.method = m) {rest : List Value} (hs : g.stack = .long v :: .int j :: .ref a :: rest) (hd : decode bytes g.pc = .ok (.lastore, 1))
    (k : ∀ T' h', OAt n0 Z y bytes maxL ret p l e R s m args below meth c T' h' cells slots → Wr h h' a j.toNatClampNeg (.long v) → OFin n0 p e s below Q kk nn T' { g with pc := g.pc + 1, stack := rest }) : OFin n0 p e s below Q kk nn T g := by
  obtain ⟨C, locs, X, N, eh⟩ := X
  obtain ⟨hx, hZ, hown, -, hby, -⟩ := id C
  obtain ⟨T', h', X', e', W, st⟩ := Jvm.RoadKit.stJ X hx hZ eh A hin hg hs (hb hby hd)
  exact OFin.run st (k T' h' ⟨C, _, X', Fr.snoc X' N hnew, e'⟩ W)
theorem OAt.stB (X : OAt n0 Z y bytes maxL ret p l e R s m args below meth c T h cells slots) {a : Addr} {cl : Cell} (A : Arr Z h a cl .byte) {j v : Int32} (hin : ¬ (j < 0 ∨ cl.slots.size ≤ j.toNatClampNeg)) (hnew : n0 ≤ a) (hg : g.method = m) {rest : List Value} (hs : g.stack = .int v :: .int j :: .ref a :: rest) (hd : decode bytes g.pc = .ok (.bastore, 1))
    (k : ∀ T' h', OAt n0 Z y bytes maxL ret p l e R s m args below meth c T' h' cells slots → Wr h h' a j.toNatClampNeg (.int (nar .byte v)) → OFin n0 p e s below Q kk nn T' { g with pc := g.pc + 1, stack := rest }) : OFin n0 p e s below Q kk nn T g := by
  obtain ⟨C, locs, X, N, eh⟩ := X
  obtain ⟨hx, hZ, hown, -, hby, -⟩ := id C
  obtain ⟨T', h', X', e', W, st⟩ := Jvm.RoadKit.stB X hx hZ eh A hin hg hs (hb hby hd)
  exact OFin.run st (k T' h' ⟨C, _, X', Fr.snoc X' N hnew, e'⟩ W)
theorem OAt.stC (X : OAt n0 Z y bytes maxL ret p l e R s m args below meth c T h cells slots) {a : Addr} {cl : Cell} (A : Arr Z h a cl .char) {j v : Int32} (hin : ¬ (j < 0 ∨ cl.slots.size ≤ j.toNatClampNeg)) (hnew : n0 ≤ a) (hg : g.method = m) {rest : List Value} (hs : g.stack = .int v :: .int j :: .ref a :: rest) (hd : decode bytes g.pc = .ok (.castore, 1))
    (k : ∀ T' h', OAt n0 Z y bytes maxL ret p l e R s m args below meth c T' h' cells slots → Wr h h' a j.toNatClampNeg (.int (nar .char v)) → OFin n0 p e s below Q kk nn T' { g with pc := g.pc + 1, stack := rest }) : OFin n0 p e s below Q kk nn T g := by
  obtain ⟨C, locs, X, N, eh⟩ := X
  obtain ⟨hx, hZ, hown, -, hby, -⟩ := id C
  obtain ⟨T', h', X', e', W, st⟩ := Jvm.RoadKit.stC X hx hZ eh A hin hg hs (hb hby hd)
  exact OFin.run st (k T' h' ⟨C, _, X', Fr.snoc X' N hnew, e'⟩ W)
theorem OAt.instY (X : OAt n0 Z y bytes maxL ret p l e R s m args below meth c T h cells slots) {K : String} {index : Nat} (w : (Jvm.Cond.classLink y.cls index K).before a0 Z = true) {a : Addr} (F : Ins Z h a K true) (hg : g.method = m) {rest : List Value} (hs : g.stack = .ref a :: rest) (hd : decode bytes g.pc = .ok (.instanceof index, 3))
    (k : ∀ T', OAt n0 Z y bytes maxL ret p l e R s m args below meth c T' h cells slots → OFin n0 p e s below Q kk nn T' { g with pc := g.pc + 3, stack := .int 1 :: rest }) : OFin n0 p e s below Q kk nn T g := by
  obtain ⟨C, locs, X, N, eh⟩ := X
  obtain ⟨hx, hZ, hown, -, hby, -⟩ := id C
  obtain ⟨T', X', e', st⟩ := Jvm.RoadKit.instY X hx hZ hown w eh F hg hs (hb hby hd)
  exact OFin.run st (k T' ⟨C, locs, X', N, e'⟩)
theorem OAt.castY (X : OAt n0 Z y bytes maxL ret p l e R s m args below meth c T h cells slots) {K : String} {index : Nat} (w : (Jvm.Cond.classLink y.cls index K).before a0 Z = true) {a : Addr} (F : Ins Z h a K true) (hg : g.method = m) {rest : List Value} (hs : g.stack = .ref a :: rest) (hd : decode bytes g.pc = .ok (.checkcast index, 3))
    (k : ∀ T', OAt n0 Z y bytes maxL ret p l e R s m args below meth c T' h cells slots → OFin n0 p e s below Q kk nn T' { g with pc := g.pc + 3 }) : OFin n0 p e s below Q kk nn T g := by
  obtain ⟨C, locs, X, N, eh⟩ := X
  obtain ⟨hx, hZ, hown, -, hby, -⟩ := id C
  obtain ⟨T', X', e', st⟩ := Jvm.RoadKit.castY X hx hZ hown w eh F hg hs (hb hby hd)
  exact OFin.run st (k T' ⟨C, locs, X', N, e'⟩)
theorem OAt.instNo (X : OAt n0 Z y bytes maxL ret p l e R s m args below meth c T h cells slots) {K C : String} {index : Nat} (w : (Jvm.Cond.classLink y.cls index K).before a0 Z = true) {a : Addr} (E : Exa Z h a C) (F : ∃ c t, Z.vm.findClass C = some c ∧ Z.vm.findClass K = some t ∧ Z.vm.assignable c t = false) (hg : g.method = m) {rest : List Value} (hs : g.stack = .ref a :: rest) (hd : decode bytes g.pc = .ok (.instanceof index, 3))
    (k : ∀ T', OAt n0 Z y bytes maxL ret p l e R s m args below meth c T' h cells slots → OFin n0 p e s below Q kk nn T' { g with pc := g.pc + 3, stack := .int 0 :: rest }) : OFin n0 p e s below Q kk nn T g := by
  obtain ⟨C, locs, X, N, eh⟩ := X
  obtain ⟨hx, hZ, hown, -, hby, -⟩ := id C
  obtain ⟨T', X', e', st⟩ := Jvm.RoadKit.instNo X hx hZ hown w eh E F hg hs (hb hby hd)
  exact OFin.run st (k T' ⟨C, locs, X', N, e'⟩)
theorem OAt.instNull (X : OAt n0 Z y bytes maxL ret p l e R s m args below meth c T h cells slots) {index : Nat} (hg : g.method = m) {rest : List Value} (hs : g.stack = .null :: rest) (hd : decode bytes g.pc = .ok (.instanceof index, 3))
    (k : OFin n0 p e s below Q kk nn T { g with pc := g.pc + 3, stack := .int 0 :: rest }) : OFin n0 p e s below Q kk nn T g := by
  obtain ⟨⟨hx, hZ, hown, -, hby, -⟩, locs, X, N, eh⟩ := X
  exact OFin.run (X.instanceofNull hx hg hs (hb hby hd)) k
theorem o_nsRoot {O K : String} {n : Nat} (w : (Jvm.Cond.noSuperclass O).before a0 Z = true) (wk : (Jvm.Cond.instantiable K n).before a0 Z = true) (hn : O ≠ K) : NS Z O K := by
  obtain ⟨c, k, h1, h2, h3, -, -⟩ := Cond.noSuperclass_spec w
  obtain ⟨t, kt, g1, -⟩ := Cond.instantiable_spec wk
  have ne := ids_ne h1 g1 hn
  refine ⟨c, t, h1, g1, fun fuel => ?_⟩
  cases fuel with
  | zero => rfl
  | succ f => simp [Vm.isSubclassAux, ne, h2, h3]
theorem o_nsNo {C S K : String} {n : Nat} (w : (Jvm.Cond.superclass C S).before a0 Z = true) (wk : (Jvm.Cond.instantiable K n).before a0 Z = true) (q : NS Z C K) (hn : C ≠ K) : ∃ c t, Z.vm.findClass C = some c ∧ Z.vm.findClass K = some t ∧ Z.vm.assignable c t = false := by
  obtain ⟨c, t, h0, g0, n3⟩ := q
  obtain ⟨p, k, kp, h1, h2, h3, h4, h5, -, h7⟩ := Cond.superclass_spec h0 w
  obtain ⟨t2, k', g1, g2, g3, g4, -⟩ := Cond.instantiable_spec wk
  cases g0.symm.trans g1
  have ne := ids_ne h0 g0 hn
  have g5 : k'.isInterface = false := by simp only [Bool.or_eq_false_iff] at g4; exact g4.1
  refine ⟨c, t, h0, g0, ?_⟩
  show Z.vm.assignableAux (255 + 1) c t = false
  simp [Vm.assignableAux, ne, h2, g2, h5, g3, g5, Vm.isSubclass, n3]
/-- an array of N places; place j holds f j -/
def OArr (Z : State) (h : Heap) (a : Addr) (ty : FieldType) (N : Nat) (f : Nat → Value) : Prop := ∃ c : Cell, Arr Z h a c ty ∧ c.slots.size = N ∧ ∀ j, j < N → c.slots[j]? = some (f j)
theorem OArr.lt {a : Addr} {ty : FieldType} {N : Nat} {f : Nat → Value} (F : OArr Z h a ty N f) : a < h.size := by obtain ⟨c, A, -⟩ := F; exact A.lt
theorem OArr.ext {a : Addr} {ty : FieldType} {N : Nat} {f : Nat → Value} (F : OArr Z h a ty N f) (E : Ext h h') : OArr Z h' a ty N f := by obtain ⟨c, A, r⟩ := F; exact ⟨c, A.ext E, r⟩
theorem OArr.other {a b : Addr} {ty : FieldType} {N sl : Nat} {f : Nat → Value} {v : Value} (F : OArr Z h b ty N f) (W : Wr h h' a sl v) (q : b ≠ a) : OArr Z h' b ty N f := by obtain ⟨c, A, r⟩ := F; exact ⟨c, A.other W q, r⟩
theorem OArr.keep {a : Addr} {ws : List Addr} {ty : FieldType} {N : Nat} {f : Nat → Value} (F : OArr Z h a ty N f) (K : Keep h h' ws) (q : a ∉ ws) : OArr Z h' a ty N f := by obtain ⟨c, A, r⟩ := F; exact ⟨c, ⟨K.2.1 a c A.1 q, A.2⟩, r⟩
theorem OArr.new {a : Addr} {k : ClassId} {ty : FieldType} {z : Int32} (A : Arr Z h a (newA k ty z) ty) : OArr Z h a ty z.toNatClampNeg (fun _ => defaultValue ty) := ⟨_, A, sz_new _ _ _, fun j hj => by simp [newA, hj]⟩
theorem OArr.congr {a : Addr} {ty : FieldType} {N : Nat} {f f' : Nat → Value} (F : OArr Z h a ty N f) (q : ∀ j, j < N → f j = f' j) : OArr Z h a ty N f' := by obtain ⟨c, A, r1, r2⟩ := F; exact ⟨c, A, r1, fun j hj => by rw [r2 j hj, q j hj]⟩
theorem OArr.set {a : Addr} {ty : FieldType} {N i : Nat} {f : Nat → Value} {v : Value} (F : OArr Z h a ty N f) (W : Wr h h' a i v) : OArr Z h' a ty N (fun j => if j = i then v else f j) := by
  obtain ⟨c, A, r1, r2⟩ := F
  refine ⟨c.setSlot i v, A.same W, by rw [sz_set]; exact r1, fun j hj => ?_⟩
  by_cases q : j = i
  · subst q; simp [Cell.setSlot, r1, hj]
  · simp only [q, if_false]
    rw [← r2 j hj]
    exact Array.getElem?_setIfInBounds_ne (Ne.symm q)
theorem o_fitC {a : Addr} {cl : Cell} {ty : FieldType} (A : Arr Z h a cl ty) (q : ∀ (i : Nat) (v : Value), cl.slots[i]? = some v → fits ty v = true) : FitC Z cl := fun i v hv => by
  obtain ⟨hs, k, hk, comp, hkind⟩ := A.2.1
  simp [State.fitsSlot, State.slotType?, hk, hkind, q i v hv]
theorem o_in {N : Nat} {j : Int32} {cl : Cell} (S : cl.slots.size = N) (h0 : 0 ≤ j.toInt) (h1 : j.toInt < N) : ¬ (j < 0 ∨ cl.slots.size ≤ j.toNatClampNeg) := by
  have e : (0 : Int32).toInt = 0 := by decide
  have q : (j.toNatClampNeg : Int) = j.toInt := by show (j.toInt.toNat : Int) = _; omega
  rw [Int32.lt_iff_toInt_lt, S, e]; omega
theorem o_nat {j : Int32} (h0 : 0 ≤ j.toInt) : (j.toNatClampNeg : Int) = j.toInt := by show (j.toInt.toNat : Int) = _; omega
theorem OFin.mono {k2 n2 : Nat} (k : OFin n0 p e s below Q kk nn T g) (h1 : kk ≤ k2) (h2 : nn ≤ n2) : OFin n0 p e s below Q k2 n2 T g := by
  obtain ⟨s₂, o, q1, q2, q3, v, L, q4, q5, q6⟩ := k; exact ⟨s₂, o, q1, q2, q3, v, L, q4, q5, q6.1, q6.2.1, q6.2.2.mono h1 h2⟩
theorem o_static {C n d K : String} (hx : (Jvm.Cond.exactly (.static C n d) K).value args Z none Z [] = some true) (wi : (Jvm.Cond.initialized C).before args Z = true) (wl : (Jvm.Cond.laysStatic C n d).before args Z = true) :
    ∃ a, (Term.static C n d).eval args Z none [] Z = some (.ref a) ∧ Exa Z Z.heap a K ∧ Sta Z Z.heap C n d (.ref a) := by
  obtain ⟨a, ev⟩ := exa_v hx
  exact ⟨a, ev, Exa.start ev hx, Sta.start ev (Or.inr ⟨wi, wl⟩)⟩
theorem o_fieldI {t : Term} {O f dd : String} {k : Int32} {a : Addr} (ev : t.eval args Z none [] Z = some (.ref a)) (hq : (Jvm.Cond.eq (.field t O f dd) (.int k)).value args Z none Z [] = some true) : Fld Z Z.heap a O f dd (.int k) := by
  refine Fld.start ?_
  rw [← fld_at (C := O) (n := f) (dd := dd) ev]
  obtain ⟨u, v, h1, h2, h3, h4⟩ := cmp_v (Or.inl hq)
  have h5 : v = .int k := (Option.some.inj h2).symm
  subst h5
  obtain ⟨z, rfl⟩ := h4
  have := gotT (Cond.eq_ints h1 h2) hq
  rw [h1, this]
end Own
theorem own_ex (n : Nat) (h : 0 < n) : ∃ t q, n = 2 ^ t * (2 * q + 1) := by
  induction n using Nat.strongRecOn with
  | ind n ih =>
    by_cases e : n % 2 = 0
    · obtain ⟨t, q, hq⟩ := ih (n / 2) (by omega) (by omega)
      refine ⟨t + 1, q, ?_⟩
      have : n = 2 * (n / 2) := by omega
      rw [this, hq, Nat.pow_succ, Nat.mul_comm (2 ^ t) 2, Nat.mul_assoc]
    · exact ⟨0, n / 2, by omega⟩
theorem own_bits (t q j : Nat) : (2 ^ t * (2 * q + 1)).testBit j = (if j < t + 1 then decide (j = t) else q.testBit (j - (t + 1))) := by
  have e : 2 ^ t * (2 * q + 1) = 2 ^ (t + 1) * q + 2 ^ t := by rw [Nat.pow_succ, Nat.mul_add, Nat.mul_one, ← Nat.mul_assoc]
  rw [e, Nat.testBit_two_pow_mul_add _ (Nat.pow_lt_pow_right (by decide) (by omega)), Nat.testBit_two_pow]
  split
  · simp [eq_comm]
  · rfl
theorem own_bits1 (t q j : Nat) : (2 ^ t * (2 * q + 1) - 1).testBit j = (if j < t + 1 then decide (j < t) else q.testBit (j - (t + 1))) := by
  have p : 0 < 2 ^ t := Nat.two_pow_pos t
  have e : 2 ^ t * (2 * q + 1) - 1 = 2 ^ (t + 1) * q + (2 ^ t - 1) := by
    have : 2 ^ t * (2 * q + 1) = 2 ^ (t + 1) * q + 2 ^ t := by rw [Nat.pow_succ, Nat.mul_add, Nat.mul_one, ← Nat.mul_assoc]
    omega
  rw [e, Nat.testBit_two_pow_mul_add _ (Nat.lt_of_lt_of_le (Nat.sub_lt p (by decide)) (Nat.pow_le_pow_right (by decide) (by omega))), Nat.testBit_two_pow_sub_one]
theorem own_mask (x : Int32) (t q : Nat) (h : x.toBitVec.toNat = 2 ^ t * (2 * q + 1)) (ht : t < 32) : ((x ^^^ (-1 : Int32)) &&& (x - (1 : Int32))) = Int32.ofNat (2 ^ t - 1) := by
  apply Int32.toBitVec_inj.mp
  apply BitVec.eq_of_toNat_eq
  have hp : 0 < 2 ^ t := Nat.two_pow_pos t
  have hx : 0 < x.toBitVec.toNat := by rw [h]; exact Nat.mul_pos hp (by omega)
  have e1 : (x - (1 : Int32)).toBitVec.toNat = 2 ^ t * (2 * q + 1) - 1 := by
    have : (x - (1 : Int32)).toBitVec = x.toBitVec - 1#32 := rfl
    rw [this, BitVec.toNat_sub_of_le (by rw [BitVec.le_def]; exact hx), h]; rfl
  have e2 : (Int32.ofNat (2 ^ t - 1)).toBitVec.toNat = 2 ^ t - 1 := by
    have hl : 2 ^ t ≤ 2 ^ 31 := Nat.pow_le_pow_right (by decide) (by omega)
    show (BitVec.ofNat 32 (2 ^ t - 1)).toNat = _
    rw [BitVec.toNat_ofNat]; apply Nat.mod_eq_of_lt; omega
  rw [e2]
  apply Nat.eq_of_testBit_eq
  intro j
  have e3 : ((x ^^^ (-1 : Int32)) &&& (x - (1 : Int32))).toBitVec = (x.toBitVec ^^^ BitVec.allOnes 32) &&& (x - (1 : Int32)).toBitVec := rfl
  rw [e3, BitVec.toNat_and, Nat.testBit_and, e1, own_bits1, Nat.testBit_two_pow_sub_one]
  by_cases hj : j < 32
  · have e4 : (x.toBitVec ^^^ BitVec.allOnes 32).toNat.testBit j = !(x.toBitVec.toNat.testBit j) := by
      rw [BitVec.testBit_toNat, BitVec.getLsbD_xor, BitVec.getLsbD_allOnes, BitVec.testBit_toNat]; simp [hj]
    rw [e4, h, own_bits]
    by_cases c : j < t + 1
    · simp only [c, if_true]
      by_cases d : j < t
      · have : j ≠ t := by omega
        simp [d, this]
      · simp [d]
    · have d : ¬ j < t := by omega
      simp [c, d]
  · have d : ¬ j < t := by omega
    have e4 : (x.toBitVec ^^^ BitVec.allOnes 32).toNat.testBit j = false := by
      rw [BitVec.testBit_toNat]; exact BitVec.getLsbD_of_ge _ _ (by omega)
    rw [e4]; simp only [Bool.false_and, decide_eq_false d]

theorem own_lo (x : Int64) : (x.toInt32).toBitVec.toNat = x.toBitVec.toNat % 2 ^ 32 := by
  show (x.toBitVec.signExtend 32).toNat = _
  rw [BitVec.signExtend_eq_setWidth_of_le _ (by decide), BitVec.toNat_setWidth]
theorem own_hi (x : Int64) : (((x.toUInt64 >>> ((32 : Int32) &&& 0x3f).toInt64.toUInt64).toInt64).toInt32).toBitVec.toNat = x.toBitVec.toNat / 2 ^ 32 := by
  rw [own_lo]
  have e : ((x.toUInt64 >>> ((32 : Int32) &&& 0x3f).toInt64.toUInt64).toInt64).toBitVec.toNat = x.toBitVec.toNat / 2 ^ 32 := by
    show (x.toUInt64 >>> ((32 : Int32) &&& 0x3f).toInt64.toUInt64).toNat = _
    rw [UInt64.toNat_shiftRight]
    have : (((32 : Int32) &&& 0x3f).toInt64.toUInt64).toNat % 64 = 32 := by decide
    rw [this, Nat.shiftRight_eq_div_pow]
    rfl
  rw [e]
  have := x.toBitVec.isLt
  apply Nat.mod_eq_of_lt
  omega
/-- the number of trailing zeros t of a word: its bits below t are 0, bit t is 1 -/
theorem own_low (n t q : Nat) (h : n = 2 ^ t * (2 * q + 1)) : n.testBit t = true ∧ ∀ c, c < t → n.testBit c = false := by
  subst h
  refine ⟨by rw [own_bits]; simp, fun c hc => ?_⟩
  rw [own_bits, if_pos (by omega)]
  simp; omega
theorem own_split (n t q : Nat) (h : n = 2 ^ t * (2 * q + 1)) (hn : n < 2 ^ 64) : t < 64 ∧ ((t < 32 ∧ n % 2 ^ 32 ≠ 0 ∧ ∃ q', n % 2 ^ 32 = 2 ^ t * (2 * q' + 1)) ∨ (32 ≤ t ∧ n % 2 ^ 32 = 0 ∧ n / 2 ^ 32 = 2 ^ (t - 32) * (2 * q + 1))) := by
  have hp : 0 < 2 ^ t := Nat.two_pow_pos t
  have ht : t < 64 := by
    apply Nat.lt_of_not_le
    intro c
    have : 2 ^ 64 ≤ 2 ^ t := Nat.pow_le_pow_right (by decide) c
    have : 2 ^ t * 1 ≤ 2 ^ t * (2 * q + 1) := Nat.mul_le_mul_left _ (by omega)
    omega
  refine ⟨ht, ?_⟩
  by_cases c : t < 32
  · refine Or.inl ⟨c, ?_⟩
    have e : n % 2 ^ 32 = 2 ^ t * (2 * (q % 2 ^ (31 - t)) + 1) := by
      have e1 : (2 : Nat) ^ 32 = 2 ^ t * (2 * 2 ^ (31 - t)) := by rw [← Nat.pow_succ', ← Nat.pow_add]; congr 1; omega
      rw [e1, h, Nat.mul_mod_mul_left]
      congr 1
      have := Nat.two_pow_pos (31 - t)
      rw [Nat.add_mod, Nat.mul_mod_mul_left, Nat.mod_eq_of_lt (a := 1) (by omega)]
      apply Nat.mod_eq_of_lt
      have := Nat.mod_lt q this
      omega
    exact ⟨by rw [e]; exact Nat.ne_of_gt (Nat.mul_pos hp (by omega)), _, e⟩
  · refine Or.inr ⟨by omega, ?_⟩
    have e1 : (2 : Nat) ^ t = 2 ^ 32 * 2 ^ (t - 32) := by rw [← Nat.pow_add]; congr 1; omega
    rw [h, e1, Nat.mul_assoc]
    exact ⟨Nat.mul_mod_right _ _, Nat.mul_div_cancel_left _ (by decide)⟩
def bt (w : Int64) (b : Nat) : Bool := w.toBitVec.toNat.testBit b
/-- level i's words say which of the numbers s / 64 ^ i are there -/
def LvOk (S : Nat → Prop) (i N : Nat) (W : Nat → Int64) : Prop := ∀ j, j < N → ∀ b, b < 64 → (bt (W j) b = true ↔ ∃ s, S s ∧ s / 64 ^ i = 64 * j + b)
theorem own_div (s i : Nat) : s / 64 ^ (i + 1) = s / 64 ^ i / 64 := by rw [Nat.pow_succ, Nat.div_div_eq_div_mul]
theorem own_zero (w : Int64) : w = 0 ↔ ∀ b, b < 64 → bt w b = false := by
  constructor
  · rintro rfl b _; simp [bt]
  · intro h
    apply Int64.toBitVec_inj.mp
    apply BitVec.eq_of_toNat_eq
    apply Nat.eq_of_testBit_eq
    intro j
    by_cases hj : j < 64
    · have := h j hj; unfold bt at this; rw [this]; simp
    · rw [BitVec.testBit_toNat, BitVec.testBit_toNat, BitVec.getLsbD_of_ge _ _ (by omega), BitVec.getLsbD_of_ge _ _ (by omega)]
def UpI (S : Nat → Prop) (f i k : Nat) : Prop := ∀ s, S s → (f ≤ s ↔ k ≤ s / 64 ^ i)
theorem own_up0 (S : Nat → Prop) (f : Nat) : UpI S f 0 f := fun s _ => by simp
theorem own_upS {S : Nat → Prop} {f i k N : Nat} {W : Nat → Int64} (U : UpI S f i k) (O : LvOk S i N W) (hk : k / 64 < N) (hz : ∀ b, b < 64 → k % 64 ≤ b → bt (W (k / 64)) b = false) : UpI S f (i + 1) (k / 64 + 1) := fun s hs => by
  rw [U s hs, own_div]
  generalize hu : s / 64 ^ i = u
  constructor
  · intro h
    by_cases c : u / 64 = k / 64
    · exfalso
      have h1 := hz (u % 64) (Nat.mod_lt _ (by decide)) (by omega)
      have h2 := (O (k / 64) hk (u % 64) (Nat.mod_lt _ (by decide))).mpr ⟨s, hs, by omega⟩
      rw [h1] at h2; cases h2
    · omega
  · omega
theorem own_none {S : Nat → Prop} {f i k N : Nat} (U : UpI S f i k) (hN : ∀ s, S s → s / 64 ^ (i + 1) < N) (hk : ¬ k / 64 < N) : ∀ s, S s → ¬ f ≤ s := fun s hs h => by
  have h1 := (U s hs).mp h
  have h2 := hN s hs
  rw [own_div] at h2
  omega
theorem own_noneL {S : Nat → Prop} {f i k : Nat} (U : UpI S f i k) (hN : ∀ s, S s → s / 64 ^ i < 1) (hk : 0 < k) : ∀ s, S s → ¬ f ≤ s := fun s hs h => by
  have h1 := (U s hs).mp h
  have h2 := hN s hs
  omega
def DnI (S : Nat → Prop) (f i k : Nat) : Prop := (∃ s, S s ∧ s / 64 ^ i = k) ∧ (∀ s, S s → s / 64 ^ i = k → f ≤ s) ∧ ∀ s, S s → f ≤ s → k ≤ s / 64 ^ i
theorem own_found {S : Nat → Prop} {f i k N t : Nat} {W : Nat → Int64} (U : UpI S f i k) (O : LvOk S i N W) (hk : k / 64 < N) (ht : t < 64) (h1 : k % 64 ≤ t) (h2 : bt (W (k / 64)) t = true) (h3 : ∀ b, b < t → k % 64 ≤ b → bt (W (k / 64)) b = false) : DnI S f i (k / 64 * 64 + t) := by
  refine ⟨?_, fun s hs e => (U s hs).mpr (by omega), fun s hs h => ?_⟩
  · obtain ⟨s, hs, e⟩ := (O (k / 64) hk t ht).mp h2
    exact ⟨s, hs, by omega⟩
  · have h4 := (U s hs).mp h
    generalize hu : s / 64 ^ i = u at h4
    apply Nat.le_of_not_lt
    intro c
    have h5 := h3 (u % 64) (by omega) (by omega)
    have h6 := (O (k / 64) hk (u % 64) (Nat.mod_lt _ (by decide))).mpr ⟨s, hs, by omega⟩
    rw [h5] at h6; cases h6
theorem own_down {S : Nat → Prop} {f i k N t : Nat} {W : Nat → Int64} (D : DnI S f (i + 1) k) (O : LvOk S i N W) (hk : k < N) (ht : t < 64) (h2 : bt (W k) t = true) (h3 : ∀ b, b < t → bt (W k) b = false) : DnI S f i (64 * k + t) := by
  obtain ⟨-, d2, d3⟩ := D
  refine ⟨?_, fun s hs e => d2 s hs (by rw [own_div]; omega), fun s hs h => ?_⟩
  · obtain ⟨s, hs, e⟩ := (O k hk t ht).mp h2
    exact ⟨s, hs, e⟩
  · have h4 := d3 s hs h
    rw [own_div] at h4
    generalize hu : s / 64 ^ i = u at h4
    apply Nat.le_of_not_lt
    intro c
    have h5 := h3 (u % 64) (by omega)
    have h6 := (O k hk (u % 64) (Nat.mod_lt _ (by decide))).mpr ⟨s, hs, by omega⟩
    rw [h5] at h6; cases h6
theorem own_downNz {S : Nat → Prop} {f i k N : Nat} {W : Nat → Int64} (D : DnI S f (i + 1) k) (O : LvOk S i N W) (hk : k < N) : W k ≠ 0 := fun h => by
  obtain ⟨⟨s, hs, e⟩, -⟩ := D
  have h1 := (own_zero _).mp h (s / 64 ^ i % 64) (Nat.mod_lt _ (by decide))
  have h2 := (O k hk (s / 64 ^ i % 64) (Nat.mod_lt _ (by decide))).mpr ⟨s, hs, by rw [own_div] at e; omega⟩
  rw [h1] at h2; cases h2
theorem own_dn0 {S : Nat → Prop} {f k : Nat} (D : DnI S f 0 k) : S k ∧ f ≤ k ∧ ∀ s, S s → f ≤ s → k ≤ s := by
  obtain ⟨⟨s, hs, e⟩, d2, d3⟩ := D
  simp only [Nat.pow_zero, Nat.div_one] at *
  subst e
  exact ⟨hs, d2 _ hs rfl, d3⟩
/-- adding -/
theorem own_add {S : Nat → Prop} {i N x : Nat} {W : Nat → Int64} {w : Int64} (O : LvOk S i N W) (hw : ∀ b, b < 64 → bt w b = (bt (W (x / 64 ^ (i + 1))) b || decide (b = x / 64 ^ i % 64))) :
    LvOk (fun s => S s ∨ s = x) i N (fun j => if j = x / 64 ^ (i + 1) then w else W j) := fun j hj b hb => by
  have e := own_div x i
  by_cases c : j = x / 64 ^ (i + 1)
  · simp only [c, if_true]
    rw [hw b hb, Bool.or_eq_true, O _ (by rw [← c]; exact hj) b hb, decide_eq_true_eq]
    constructor
    · rintro (⟨s, hs, q⟩ | q)
      · exact ⟨s, Or.inl hs, q⟩
      · exact ⟨x, Or.inr rfl, by rw [e]; omega⟩
    · rintro ⟨s, hs | rfl, q⟩
      · exact Or.inl ⟨s, hs, q⟩
      · exact Or.inr (by rw [e] at q; omega)
  · simp only [c, if_false]
    rw [O j hj b hb]
    constructor
    · rintro ⟨s, hs, q⟩; exact ⟨s, Or.inl hs, q⟩
    · rintro ⟨s, hs | rfl, q⟩
      · exact ⟨s, hs, q⟩
      · exfalso; rw [e] at c; omega
/-- removing, at a level below which nothing of x's word is left -/
theorem own_rem {S : Nat → Prop} {i N x : Nat} {W : Nat → Int64} {w : Int64} (O : LvOk S i N W) (hq : ∀ s, S s → s ≠ x → s / 64 ^ i ≠ x / 64 ^ i) (hw : ∀ b, b < 64 → bt w b = (bt (W (x / 64 ^ (i + 1))) b && decide (b ≠ x / 64 ^ i % 64))) :
    LvOk (fun s => S s ∧ s ≠ x) i N (fun j => if j = x / 64 ^ (i + 1) then w else W j) := fun j hj b hb => by
  have e := own_div x i
  by_cases c : j = x / 64 ^ (i + 1)
  · simp only [c, if_true]
    rw [hw b hb, Bool.and_eq_true, O _ (by rw [← c]; exact hj) b hb, decide_eq_true_eq]
    constructor
    · rintro ⟨⟨s, hs, q⟩, r⟩
      exact ⟨s, ⟨hs, by rintro rfl; rw [e] at q; omega⟩, q⟩
    · rintro ⟨s, ⟨hs, n⟩, q⟩
      have := hq s hs n
      exact ⟨⟨s, hs, q⟩, by rw [e] at q; omega⟩
  · simp only [c, if_false]
    rw [O j hj b hb]
    constructor
    · rintro ⟨s, hs, q⟩; exact ⟨s, ⟨hs, by rintro rfl; rw [e] at c; omega⟩, q⟩
    · rintro ⟨s, ⟨hs, n⟩, q⟩; exact ⟨s, hs, q⟩
/-- a word that is empty behind the removing: nothing left there; one that isn't: the levels above stand -/
theorem own_remZ {S : Nat → Prop} {i N x : Nat} {W : Nat → Int64} (O : LvOk S i N W) (hx : x / 64 ^ (i + 1) < N) (hz : W (x / 64 ^ (i + 1)) = 0) : ∀ s, S s → s / 64 ^ (i + 1) ≠ x / 64 ^ (i + 1) := fun s hs q => by
  have h1 := (own_zero _).mp hz (s / 64 ^ i % 64) (Nat.mod_lt _ (by decide))
  have h2 := (O _ hx (s / 64 ^ i % 64) (Nat.mod_lt _ (by decide))).mpr ⟨s, hs, by rw [← q, own_div]; omega⟩
  rw [h1] at h2; cases h2
theorem own_remN {S : Nat → Prop} {i N x : Nat} {W : Nat → Int64} (O : LvOk (fun s => S s ∧ s ≠ x) i N W) (hx : x / 64 ^ (i + 1) < N) (hz : W (x / 64 ^ (i + 1)) ≠ 0) : ∃ s, (S s ∧ s ≠ x) ∧ s / 64 ^ (i + 1) = x / 64 ^ (i + 1) := by
  apply Classical.byContradiction
  intro c
  apply hz
  rw [own_zero]
  intro b hb
  cases h : bt (W (x / 64 ^ (i + 1))) b with
  | false => rfl
  | true =>
    exfalso
    obtain ⟨s, hs, q⟩ := (O _ hx b hb).mp h
    exact c ⟨s, hs, by rw [own_div, q]; omega⟩
theorem own_remUp {S : Nat → Prop} {i j N x : Nat} {W : Nat → Int64} (O : LvOk S j N W) (hij : i ≤ j) (h : ∃ s, (S s ∧ s ≠ x) ∧ s / 64 ^ i = x / 64 ^ i) : LvOk (fun s => S s ∧ s ≠ x) j N W := fun k hk b hb => by
  rw [O k hk b hb]
  constructor
  · rintro ⟨s, hs, q⟩
    by_cases c : s = x
    · subst c
      obtain ⟨s', h1, h2⟩ := h
      refine ⟨s', h1, ?_⟩
      have e : ∀ u, u / 64 ^ j = u / 64 ^ i / 64 ^ (j - i) := fun u => by rw [Nat.div_div_eq_div_mul, ← Nat.pow_add]; congr 2; omega
      rw [e, h2, ← e]; exact q
    · exact ⟨s, ⟨hs, c⟩, q⟩
  · rintro ⟨s, hs, q⟩; exact ⟨s, hs.1, q⟩

theorem own_i (k : Nat) (hk : k < 2 ^ 31) : (Int32.ofNat k).toInt = k := Int32.toInt_ofNat_of_lt (by omega)
theorem own_iN (k : Nat) (hk : k < 2 ^ 31) : (Int32.ofNat k).toNatClampNeg = k := by show (Int32.ofNat k).toInt.toNat = k; rw [own_i k hk]; rfl
theorem own_and63 (k : Nat) (hk : k < 2 ^ 31) : (Int32.ofNat k) &&& (63 : Int32) = Int32.ofNat (k % 64) := by
  apply Int32.toInt_inj.mp
  rw [c_mask _ _ 6 (by decide) (by decide), own_i k hk, own_i _ (by omega)]
  omega
theorem own_ush6 (k : Nat) (hk : k < 2 ^ 31) : (((Int32.ofNat k).toUInt32 >>> ((6 : Int32) &&& 31).toUInt32).toInt32) = Int32.ofNat (k / 64) := by
  apply Int32.toInt_inj.mp
  rw [c_iushr _ _ 6 (by decide) (by decide), own_i k hk, own_i _ (by omega)]
  omega
theorem own_shl (x : Int64) (k : Nat) (hk : k < 2 ^ 31) : (x <<< (((Int32.ofNat k) &&& (63 : Int32)) &&& 0x3f).toInt64).toBitVec = x.toBitVec <<< (k % 64) := by
  rw [own_and63 k hk]
  have e : (Int32.ofNat (k % 64)).toBitVec.toNat % 64 = k % 64 := by
    show (BitVec.ofNat 32 (k % 64)).toNat % 64 = _
    rw [BitVec.toNat_ofNat]; omega
  obtain ⟨h1, h2⟩ := sm64 (Int32.ofNat (k % 64)) (k % 64) e
  show x.toBitVec <<< ((Int32.ofNat (k % 64) &&& 0x3f).toInt64.toBitVec.smod 64) = _
  rw [h1, BitVec.shiftLeft_eq', smod64 _ h2]
theorem own_bset (w : Int64) (k b : Nat) (hk : k < 2 ^ 31) (hb : b < 64) : bt (w ||| ((1 : Int64) <<< (((Int32.ofNat k) &&& (63 : Int32)) &&& 0x3f).toInt64)) b = (bt w b || decide (b = k % 64)) := by
  unfold bt
  have e : ∀ u v : Int64, (u ||| v).toBitVec = u.toBitVec ||| v.toBitVec := fun _ _ => rfl
  rw [e, own_shl _ _ hk, BitVec.toNat_or, Nat.testBit_or]
  congr 1
  rw [BitVec.testBit_toNat, BitVec.getLsbD_shiftLeft]
  have e1 : (1 : Int64).toBitVec = 1#64 := rfl
  rw [e1, BitVec.getLsbD_one]
  by_cases c : b = k % 64
  · simp [c]; omega
  · by_cases d : b < k % 64
    · simp [c, d]
    · have : b - k % 64 ≠ 0 := by omega
      simp [c, d, this]
theorem own_bclr (w : Int64) (k b : Nat) (hk : k < 2 ^ 31) (hb : b < 64) : bt (w &&& (((1 : Int64) <<< (((Int32.ofNat k) &&& (63 : Int32)) &&& 0x3f).toInt64) ^^^ (-1 : Int64))) b = (bt w b && decide (b ≠ k % 64)) := by
  unfold bt
  have e : ∀ u v : Int64, (u &&& v).toBitVec = u.toBitVec &&& v.toBitVec := fun _ _ => rfl
  have e' : ∀ u v : Int64, (u ^^^ v).toBitVec = u.toBitVec ^^^ v.toBitVec := fun _ _ => rfl
  rw [e, e', own_shl _ _ hk, BitVec.toNat_and, Nat.testBit_and]
  congr 1
  rw [BitVec.testBit_toNat, BitVec.getLsbD_xor, BitVec.getLsbD_shiftLeft]
  have e1 : (1 : Int64).toBitVec = 1#64 := rfl
  have e2 : (-1 : Int64).toBitVec = BitVec.allOnes 64 := rfl
  rw [e1, e2, BitVec.getLsbD_one, BitVec.getLsbD_allOnes]
  by_cases c : b = k % 64
  · simp [c]
  · by_cases d : b < k % 64
    · simp [c, d, hb]
    · have : b - k % 64 ≠ 0 := by omega
      simp [c, d, this, hb]
theorem own_bmsk (w : Int64) (k b : Nat) (hk : k < 2 ^ 31) (hb : b < 64) : bt (w &&& ((-1 : Int64) <<< (((Int32.ofNat k) &&& (63 : Int32)) &&& 0x3f).toInt64)) b = (bt w b && decide (k % 64 ≤ b)) := by
  unfold bt
  have e : ∀ u v : Int64, (u &&& v).toBitVec = u.toBitVec &&& v.toBitVec := fun _ _ => rfl
  rw [e, own_shl _ _ hk, BitVec.toNat_and, Nat.testBit_and]
  congr 1
  rw [BitVec.testBit_toNat, BitVec.getLsbD_shiftLeft]
  have e2 : (-1 : Int64).toBitVec = BitVec.allOnes 64 := rfl
  rw [e2, BitVec.getLsbD_allOnes]
  by_cases d : b < k % 64
  · have : ¬ k % 64 ≤ b := by omega
    simp [d, this]
  · have h1 : k % 64 ≤ b := by omega
    have h2 : b - k % 64 < 64 := by omega
    simp [d, h1, hb, h2]
theorem own_shl6 (k : Nat) (hk : 64 * k < 2 ^ 31) : ((Int32.ofNat k) <<< ((6 : Int32) &&& 31)) = Int32.ofNat (64 * k) := by
  apply Int32.toInt_inj.mp
  have h := c_ishl (Int32.ofNat k) 6 6 (by decide)
  have r := rng32 ((Int32.ofNat k) <<< ((6 : Int32) &&& 31))
  rw [own_i k (by omega)] at h
  rw [own_i (64 * k) hk]
  omega
theorem own_add32 (k t : Nat) (h : k + t < 2 ^ 31) : Int32.ofNat k + Int32.ofNat t = Int32.ofNat (k + t) := by
  apply Int32.toInt_inj.mp
  have h1 := c_iadd (Int32.ofNat k) (Int32.ofNat t)
  have r := rng32 (Int32.ofNat k + Int32.ofNat t)
  rw [own_i k (by omega), own_i t (by omega)] at h1
  rw [own_i _ h]
  omega
theorem own_mask64 (k : Nat) (hk : k < 2 ^ 31) : (Int32.ofNat k) &&& (-64 : Int32) = Int32.ofNat (k / 64 * 64) := by
  apply Int32.toBitVec_inj.mp
  apply BitVec.eq_of_toNat_eq
  have e : (Int32.ofNat k &&& (-64 : Int32)).toBitVec = BitVec.ofNat 32 k &&& (-64#32) := rfl
  have e2 : (Int32.ofNat (k / 64 * 64)).toBitVec = BitVec.ofNat 32 (k / 64 * 64) := rfl
  rw [e, e2, BitVec.toNat_and, BitVec.toNat_ofNat, BitVec.toNat_ofNat, Nat.mod_eq_of_lt (a := k) (by omega), Nat.mod_eq_of_lt (by omega)]
  apply Nat.eq_of_testBit_eq
  intro j
  rw [Nat.testBit_and, show k / 64 * 64 = 2 ^ 6 * (k / 2 ^ 6) from Nat.mul_comm _ _, Nat.testBit_two_pow_mul, Nat.testBit_div_two_pow]
  have e3 : (-64#32).toNat = 2 ^ 6 * (2 ^ 26 - 1) := by decide
  rw [e3, Nat.testBit_two_pow_mul, Nat.testBit_two_pow_sub_one]
  by_cases c : 6 ≤ j
  · by_cases d : j < 32
    · have : j - 6 < 26 := by omega
      simp [c, this]
    · have h1 : k.testBit j = false := Nat.testBit_lt_two_pow (Nat.lt_of_lt_of_le hk (Nat.pow_le_pow_right (by decide) (by omega)))
      simp [c, h1]
  · simp [c]
theorem own_lt32 (a b : Nat) (ha : a < 2 ^ 31) (hb : b < 2 ^ 31) : Int32.ofNat a < Int32.ofNat b ↔ a < b := by
  rw [Int32.lt_iff_toInt_lt, own_i a ha, own_i b hb]; omega
theorem own_eq32 (a b : Nat) (ha : a < 2 ^ 31) (hb : b < 2 ^ 31) : Int32.ofNat a = Int32.ofNat b ↔ a = b := by
  constructor
  · intro h; have := congrArg Int32.toInt h; rw [own_i a ha, own_i b hb] at this; omega
  · rintro rfl; rfl

theorem own_succ (i : Nat) (h : i + 1 < 2 ^ 31) : Int32.ofNat i + (1 : Int32) = Int32.ofNat (i + 1) := own_add32 i 1 h
theorem own_pred (i : Nat) (h : i + 1 < 2 ^ 31) : Int32.ofNat (i + 1) + (-1 : Int32) = Int32.ofNat i := by
  apply Int32.toInt_inj.mp
  have h1 := c_iadd (Int32.ofNat (i + 1)) (-1 : Int32)
  have r := rng32 (Int32.ofNat (i + 1) + (-1 : Int32))
  have e : (-1 : Int32).toInt = -1 := by decide
  rw [own_i _ h, e] at h1
  rw [own_i i (by omega)]
  omega
theorem own_sub1 (i : Nat) (h : i + 1 < 2 ^ 31) : Int32.ofNat (i + 1) - (1 : Int32) = Int32.ofNat i := by
  apply Int32.toInt_inj.mp
  have h1 := c_isub (Int32.ofNat (i + 1)) (1 : Int32)
  have r := rng32 (Int32.ofNat (i + 1) - (1 : Int32))
  have e : (1 : Int32).toInt = 1 := by decide
  rw [own_i _ h, e] at h1
  rw [own_i i (by omega)]
  omega
theorem own_natOf (z : Int32) (h : 0 ≤ z.toInt) : z = Int32.ofNat z.toInt.toNat := by
  apply Int32.toInt_inj.mp
  have r := rng32 z
  rw [own_i _ (by omega)]
  omega
theorem own_len32 (N : Nat) (h : N < 2 ^ 31) : N.toInt32 = Int32.ofNat N := rfl
theorem own_lt64 (x i : Nat) (h : x < 2 ^ 31) : x / 64 ^ i < 2 ^ 31 := Nat.lt_of_le_of_lt (Nat.div_le_self _ _) h
def own_cl (b : Nat) : Nat := (b + 63) / 64
def own_N (n : Nat) : Nat → Nat
  | 0 => own_cl n
  | i + 1 => own_cl (own_N n i)
def own_P (n : Nat) : Nat → Nat
  | 0 => n
  | i + 1 => own_N n i
theorem own_NP (n i : Nat) : own_N n i = own_cl (own_P n i) := by cases i <;> rfl
theorem own_Npos (n : Nat) (h : 0 < n) : ∀ i, 0 < own_N n i
  | 0 => by show 0 < (n + 63) / 64; omega
  | i + 1 => by have := own_Npos n h i; show 0 < (own_N n i + 63) / 64; omega
theorem own_Nstep (n i : Nat) : own_N n (i + 1) = (own_N n i + 63) / 64 := rfl
theorem own_Nle (n : Nat) (h : n ≤ 524288) : ∀ i, own_N n i ≤ 8192
  | 0 => by show (n + 63) / 64 ≤ 8192; omega
  | i + 1 => by have := own_Nle n h i; show (own_N n i + 63) / 64 ≤ 8192; omega
theorem own_N3 (n : Nat) (h0 : 0 < n) (h : n ≤ 524288) : own_N n 3 = 1 := by
  have e0 : own_N n 0 = (n + 63) / 64 := rfl
  have e1 : own_N n 1 = (own_N n 0 + 63) / 64 := rfl
  have e2 : own_N n 2 = (own_N n 1 + 63) / 64 := rfl
  have e3 : own_N n 3 = (own_N n 2 + 63) / 64 := rfl
  have := own_Npos n h0 3
  omega
theorem own_Nlt (n s : Nat) (h : s < n) : ∀ i, s / 64 ^ (i + 1) < own_N n i
  | 0 => by show s / 64 ^ 1 < (n + 63) / 64; omega
  | i + 1 => by have := own_Nlt n s h i; rw [own_div]; show _ < (own_N n i + 63) / 64; omega
theorem own_wf0 (b : Nat) (h0 : 0 < b) (h1 : b < 2 ^ 31) (h : b % 64 = 0) : (if (1 : Int32) < Int32.ofNat (b / 64) + (0 : Int32) then Int32.ofNat (b / 64) + (0 : Int32) else (1 : Int32)) = Int32.ofNat (own_cl b) := by
  have e : Int32.ofNat (b / 64) + (0 : Int32) = Int32.ofNat (b / 64) := own_add32 (b / 64) 0 (by omega)
  have q : own_cl b = b / 64 := by show (b + 63) / 64 = _; omega
  rw [e, q]
  split
  · rfl
  · rename_i c
    have c' : ¬ (1 : Nat) < b / 64 := fun d => c ((own_lt32 1 (b / 64) (by omega) (by omega)).mpr d)
    have : b / 64 = 1 := by omega
    rw [this]; rfl
theorem own_wf1 (b : Nat) (h0 : 0 < b) (h1 : b < 2 ^ 31) (h : ¬ b % 64 = 0) : (if (1 : Int32) < Int32.ofNat (b / 64) + (1 : Int32) then Int32.ofNat (b / 64) + (1 : Int32) else (1 : Int32)) = Int32.ofNat (own_cl b) := by
  have e : Int32.ofNat (b / 64) + (1 : Int32) = Int32.ofNat (b / 64 + 1) := own_succ _ (by omega)
  have q : own_cl b = b / 64 + 1 := by show (b + 63) / 64 = _; omega
  rw [e, q]
  split
  · rfl
  · rename_i c
    have c' : ¬ (1 : Nat) < b / 64 + 1 := fun d => c ((own_lt32 1 (b / 64 + 1) (by omega) (by omega)).mpr d)
    have : b / 64 + 1 = 1 := by omega
    rw [this]; rfl
/-! the set in the heap -/
def OTree (Z : State) (h : Heap) (lv : Addr) (L : Nat) (ad : Nat → Addr) (N : Nat → Nat) (W : Nat → Nat → Int64) : Prop :=
  OArr Z h lv (.array .long) L (fun i => .ref (ad i)) ∧ ∀ i, i < L → OArr Z h (ad i) .long (N i) (fun j => .long (W i j))
def OSet (Z : State) (h : Heap) (n0 : Nat) (a lv : Addr) (L : Nat) (ad : Nat → Addr) (N : Nat → Nat) (W : Nat → Nat → Int64) : Prop :=
  Exa Z h a "com/example/interleave/interleave/NodeSet" ∧ Fld Z h a "com/example/interleave/interleave/NodeSet" "levels" "[[J" (.ref lv) ∧ OTree Z h lv L ad N W ∧ ∀ i, i < L → n0 ≤ ad i ∧ ad i ≠ lv ∧ ad i ≠ a ∧ ∀ j, j < L → i ≠ j → ad i ≠ ad j
def OS (Z : State) (h : Heap) (n0 : Nat) (a lv : Addr) (L : Nat) (ad : Nat → Addr) (N : Nat → Nat) (S : Nat → Prop) : Prop :=
  ∃ W, OSet Z h n0 a lv L ad N W ∧ ∀ i, i < L → LvOk S i (N i) (W i)
def ONum (n L : Nat) (N : Nat → Nat) : Prop := 0 < L ∧ L ≤ 6 ∧ N (L - 1) = 1 ∧ (∀ i, i < L → 0 < N i ∧ N i ≤ 8192) ∧ ∀ i, i < L → ∀ s, s < n → s / 64 ^ (i + 1) < N i
theorem OSet.set {Z : State} {h h' : Heap} {n0 L i j : Nat} {a lv : Addr} {ad : Nat → Addr} {N : Nat → Nat} {W : Nat → Nat → Int64} {w : Int64} (D : OSet Z h n0 a lv L ad N W) (hi : i < L) (X : Wr h h' (ad i) j (.long w)) :
    OSet Z h' n0 a lv L ad N (fun i' j' => if i' = i ∧ j' = j then w else W i' j') := by
  obtain ⟨d1, d2, ⟨d3, d4⟩, d5⟩ := D
  refine ⟨d1.wr X, d2.other X (Or.inl fun q => (d5 i hi).2.2.1 q.symm), ⟨d3.other X fun q => (d5 i hi).2.1 q.symm, fun i' hi' => ?_⟩, d5⟩
  by_cases c : i' = i
  · subst c
    refine ((d4 i' hi').set X).congr fun j' _ => ?_
    by_cases d : j' = j
    · simp [d]
    · simp [d]
  · refine ((d4 i' hi').other X ((d5 i' hi').2.2.2 i hi c)).congr fun j' _ => ?_
    simp [c]
theorem LvOk.congr {S : Nat → Prop} {i N : Nat} {W W' : Nat → Int64} (O : LvOk S i N W) (q : ∀ j, j < N → W j = W' j) : LvOk S i N W' := fun j hj b hb => by rw [← q j hj]; exact O j hj b hb
theorem own_st6 {v0 v1 v2 v3 v4 v5 : Value} {s6 : Slot} {a : Addr} (h : One s6) : storeLocals #[.val v0, .val v1, .val v2, .val v3, .val v4, .val v5, s6] 6 (.ref a) = some #[.val v0, .val v1, .val v2, .val v3, .val v4, .val v5, .val (.ref a)] := by
  rcases h with rfl | ⟨w, rfl, hw⟩
  · rfl
  · cases w <;> first | rfl | (simp [Value.category] at hw)
def OCls (h : Heap) (a : Addr) (k : ClassId) : Prop := ∃ c : Cell, h[a]? = some c ∧ c.cls = k
theorem OCls.ext {h h' : Heap} {a : Addr} {k : ClassId} (F : OCls h a k) (E : Ext h h') : OCls h' a k := by obtain ⟨c, h1, h2⟩ := F; exact ⟨c, E.2 _ _ h1, h2⟩
theorem OCls.wr {h h' : Heap} {a b : Addr} {k : ClassId} {sl : Nat} {v : Value} (F : OCls h a k) (W : Wr h h' b sl v) : OCls h' a k := by
  obtain ⟨c, h1, h2⟩ := F
  obtain ⟨c', e1, e2, -⟩ := wr_at W h1
  exact ⟨c', e1, e2.trans h2⟩
theorem OAt.more {n0 cells slots k2 n2 : Nat} {Z : State} {y : MethodName} {bytes : ByteArray} {maxL : Nat} {ret : Option FieldType} {p : Program} {l : Launch} {e : Env} {R : Room} {s : State} {m : MethodId} {args : Array Value} {below : List Frame} {meth : Method} {c : Code} {T : State} {h : Heap}
    (X : OAt n0 Z y bytes maxL ret p l e R s m args below meth c T h cells slots) (h1 : cells ≤ k2) (h2 : slots ≤ n2) : OAt n0 Z y bytes maxL ret p l e R s m args below meth c T h k2 n2 := by
  obtain ⟨C, locs, X, r⟩ := X
  exact ⟨C, locs, X.more h1 h2, r⟩
theorem own_inN {N k : Nat} {cl : Cell} (S : cl.slots.size = N) (hk : k < N) (hN : N ≤ 8192) : ¬ (Int32.ofNat k < 0 ∨ cl.slots.size ≤ (Int32.ofNat k).toNatClampNeg) := o_in S (by rw [own_i k (by omega)]; omega) (by rw [own_i k (by omega)]; omega)
theorem own_bt0 (b : Nat) : bt (0 : Int64) b = false := by simp [bt]
def OMin (S : Nat → Prop) (f : Nat) (g : Int32) : Prop := (g = -1 ∧ ∀ s, S s → ¬ f ≤ s) ∨ ∃ r, g = Int32.ofNat r ∧ r < 2 ^ 31 ∧ S r ∧ f ≤ r ∧ ∀ s, S s → f ≤ s → r ≤ s
theorem OMin.unique {S : Nat → Prop} {f : Nat} {g g' : Int32} (h : OMin S f g) (h' : OMin S f g') : g = g' := by
  rcases h with ⟨rfl, a⟩ | ⟨r, rfl, -, a1, a2, a3⟩ <;> rcases h' with ⟨rfl, b⟩ | ⟨r', rfl, -, b1, b2, b3⟩
  · rfl
  · exact (a r' b1 b2).elim
  · exact (b r a1 a2).elim
  · have := a3 r' b1 b2
    have := b3 r a1 a2
    congr 1; omega
theorem OMin.congr {S S' : Nat → Prop} {f : Nat} {g : Int32} (h : OMin S f g) (q : ∀ s, S s ↔ S' s) : OMin S' f g := by
  have e : S = S' := funext fun s => propext (q s)
  exact e ▸ h
def own_best (cur i v x : Int32) : Int32 := if i = 0 then cur else if v < x then cur else if cur = -1 then v else if v < cur then v else cur
theorem own_neg1 (v : Nat) (h : v < 2 ^ 31) : ¬ Int32.ofNat v = -1 := fun q => by
  have := congrArg Int32.toInt q
  rw [own_i v h] at this
  have e : (-1 : Int32).toInt = -1 := by decide
  omega
theorem own_bestOK {S : Nat → Prop} {f v : Nat} {cur i : Int32} (hf : f < 2 ^ 31) (hv : v < 2 ^ 31) (h : OMin S f cur) : OMin (fun s => S s ∨ (¬ i = 0 ∧ s = v)) f (own_best cur i (Int32.ofNat v) (Int32.ofNat f)) := by
  unfold own_best
  by_cases c1 : i = 0
  · rw [if_pos c1]
    exact h.congr fun s => ⟨Or.inl, fun q => q.elim id fun e => (e.1 c1).elim⟩
  rw [if_neg c1]
  by_cases c2 : Int32.ofNat v < Int32.ofNat f
  · rw [if_pos c2]
    rw [own_lt32 v f hv hf] at c2
    rcases h with ⟨rfl, a⟩ | ⟨r, rfl, a0, a1, a2, a3⟩
    · refine Or.inl ⟨rfl, fun s q => ?_⟩
      rcases q with q | ⟨-, rfl⟩
      · exact a s q
      · omega
    · refine Or.inr ⟨r, rfl, a0, Or.inl a1, a2, fun s q e => ?_⟩
      rcases q with q | ⟨-, rfl⟩
      · exact a3 s q e
      · omega
  rw [if_neg c2]
  rw [own_lt32 v f hv hf] at c2
  rcases h with ⟨rfl, a⟩ | ⟨r, rfl, a0, a1, a2, a3⟩
  · rw [if_pos rfl]
    refine Or.inr ⟨v, rfl, hv, Or.inr ⟨c1, rfl⟩, by omega, fun s q e => ?_⟩
    rcases q with q | ⟨-, rfl⟩
    · exact (a s q e).elim
    · exact Nat.le_refl _
  · rw [if_neg (own_neg1 r a0)]
    by_cases c3 : Int32.ofNat v < Int32.ofNat r
    · rw [if_pos c3]
      rw [own_lt32 v r hv a0] at c3
      refine Or.inr ⟨v, rfl, hv, Or.inr ⟨c1, rfl⟩, by omega, fun s q e => ?_⟩
      rcases q with q | ⟨-, rfl⟩
      · have := a3 s q e; omega
      · exact Nat.le_refl _
    · rw [if_neg c3]
      rw [own_lt32 v r hv a0] at c3
      refine Or.inr ⟨r, rfl, a0, Or.inl a1, a2, fun s q e => ?_⟩
      rcases q with q | ⟨-, rfl⟩
      · exact a3 s q e
      · omega
def own_ref (iA a iB b iC c x : Int32) : Int32 := own_best (own_best (own_best (-1) iA a x) iB b x) iC c x
theorem own_refOK {a b c d f : Nat} {iA iB iC : Int32} (hf : f < 2 ^ 31) (ha : a < 2 ^ 31) (hb : b < 2 ^ 31) (hc : c < 2 ^ 31) (qa : ¬ iA = 0 ↔ a ≠ d) (qb : ¬ iB = 0 ↔ b ≠ d) (qc : ¬ iC = 0 ↔ c ≠ d) :
    OMin (fun s => (((False ∨ s = a) ∨ s = b) ∨ s = c) ∧ s ≠ d) f (own_ref iA (Int32.ofNat a) iB (Int32.ofNat b) iC (Int32.ofNat c) (Int32.ofNat f)) := by
  have h0 : OMin (fun _ => False) f (-1) := Or.inl ⟨rfl, fun s q => q.elim⟩
  refine (own_bestOK hf hc (own_bestOK hf hb (own_bestOK hf ha h0))).congr fun s => ?_
  rw [qa, qb, qc]
  constructor
  · rintro (((q | ⟨q, rfl⟩) | ⟨q, rfl⟩) | ⟨q, rfl⟩)
    · exact q.elim
    · exact ⟨Or.inl (Or.inl (Or.inr rfl)), q⟩
    · exact ⟨Or.inl (Or.inr rfl), q⟩
    · exact ⟨Or.inr rfl, q⟩
  · rintro ⟨((q | rfl) | rfl) | rfl, r⟩
    · exact q.elim
    · exact Or.inl (Or.inl (Or.inr ⟨r, rfl⟩))
    · exact Or.inl (Or.inr ⟨r, rfl⟩)
    · exact Or.inr ⟨r, rfl⟩
theorem own_n (p : Int32) : ∃ n : Nat, 0 < n ∧ n ≤ 524288 ∧ (1 : Int32) + (p &&& (524287 : Int32)) = Int32.ofNat n := by
  have h1 := c_mask p (524287 : Int32) 19 (by decide) (by decide)
  have h2 := c_iadd (1 : Int32) (p &&& (524287 : Int32))
  have r := rng32 ((1 : Int32) + (p &&& (524287 : Int32)))
  have e : (1 : Int32).toInt = 1 := by decide
  rw [e] at h2
  have h3 : ((2 ^ 19 : Nat) : Int) = 524288 := by decide
  rw [h3] at h1
  exact ⟨((1 : Int32) + (p &&& (524287 : Int32))).toInt.toNat, by omega, by omega, own_natOf _ (by omega)⟩
theorem own_remN0 (z : Int32) (n : Nat) (hz : 0 ≤ z.toInt) (h0 : 0 < n) (h1 : n < 2 ^ 31) : ∃ x : Nat, x < n ∧ z % Int32.ofNat n = Int32.ofNat x := by
  have e2 := (c_iremV z (Int32.ofNat n)).1 hz (by rw [own_i n h1]; omega)
  rw [own_i n h1] at e2
  exact ⟨(z % Int32.ofNat n).toInt.toNat, by omega, own_natOf _ e2.1⟩
theorem own_remI (q : Int32) (n : Nat) (h0 : 0 < n) (h1 : n < 2 ^ 31) : ∃ x : Nat, x < n ∧ (q &&& (2147483647 : Int32)) % Int32.ofNat n = Int32.ofNat x := own_remN0 _ n (c_and q (2147483647 : Int32) (by decide)).1 h0 h1
theorem own_remJ (a : Nat) (q : Int32) (n : Nat) (h0 : 0 < n) (h1 : n ≤ 524288) (ha : a < n) : ∃ x : Nat, x < n ∧ (Int32.ofNat a + (q &&& (127 : Int32))) % Int32.ofNat n = Int32.ofNat x := by
  refine own_remN0 _ n ?_ h0 (by omega)
  have e1 := c_and q (127 : Int32) (by decide)
  have e2 := c_iadd (Int32.ofNat a) (q &&& (127 : Int32))
  have r := rng32 (Int32.ofNat a + (q &&& (127 : Int32)))
  have e3 : (127 : Int32).toInt = 127 := by decide
  rw [own_i a (by omega)] at e2
  omega
theorem own_remK (q : Int32) (n : Nat) (h0 : 0 < n) (h1 : n < 2 ^ 31) : ∃ x : Nat, x < n ∧ ((q.toUInt32 >>> ((2 : Int32) &&& 31).toUInt32).toInt32) % Int32.ofNat n = Int32.ofNat x := by
  refine own_remN0 _ n ?_ h0 h1
  rw [c_iushr _ _ 2 (by decide) (by decide)]
  have := rng32 q
  omega
theorem own_nz (n : Nat) (h0 : 0 < n) (h1 : n < 2 ^ 31) : Int32.ofNat n ≠ 0 := fun q => by
  have := (own_eq32 n 0 h1 (by decide)).mp q
  omega
theorem d4_0 : decode jdk_29_method_65_code 0 = .ok (.iload_n 0, 1) := by decide +kernel
theorem d4_1 : decode jdk_29_method_65_code 1 = .ok (.iload_n 1, 1) := by decide +kernel
theorem d4_2 : decode jdk_29_method_65_code 2 = .ok (.if_icmp .lt 7, 3) := by decide +kernel
theorem d4_9 : decode jdk_29_method_65_code 9 = .ok (.iload_n 1, 1) := by decide +kernel
theorem d4_10 : decode jdk_29_method_65_code 10 = .ok (.ireturn, 1) := by decide +kernel
theorem d4_5 : decode jdk_29_method_65_code 5 = .ok (.iload_n 0, 1) := by decide +kernel
theorem d4_6 : decode jdk_29_method_65_code 6 = .ok (.goto 4, 3) := by decide +kernel
set_option maxRecDepth 65536 in
set_option maxHeartbeats 40000000 in
theorem rm1 (l : Launch) (Z : State) (a0 : Array Value) (hw : ∀ d ∈ tables_1, d.before a0 Z = true) (p0 p1 : Int32) (h0 : Heap) (n0 : Nat)  :
    OMeets l Z (⟨"java/lang/Math", "max", "(II)I"⟩ : MethodName) [] jdk_29_method_65_code 2 (some .int) ({ frames := 0, cells := 0, slots := 0, locals := 0 } : Room) #[(.int p0), (.int p1)] h0 n0 (fun v h => v = some (.int (if p0 < p1 then p1 else p0)) ∧ h0 = h) := by
  refine o_enter (Z := Z) (Jvm.Free.JP.mathPlain rfl (by decide +kernel)) ?_
  intro p e s m below meth c T0 X0
  refine OFin.cast (g' := (mkF m 0 #[.val (.int p0), .val (.int p1)] [])) (by first | (simp [entryFrame, mkF, argsToLocals, Value.category]; done) | rfl) ?_
  refine X0.step (fun hA hx hq t_ k_ => XS.iloadN hA hx rfl (hb hq d4_0) rfl k_) ?_
  show OFin _ _ _ _ _ _ _ _ T0 (mkF m 1 #[.val (.int p0), .val (.int p1)] [(.int p0)])
  refine X0.step (fun hA hx hq t_ k_ => XS.iloadN hA hx rfl (hb hq d4_1) rfl k_) ?_
  show OFin _ _ _ _ _ _ _ _ T0 (mkF m 2 #[.val (.int p0), .val (.int p1)] [(.int p1), (.int p0)])
  by_cases k1 : p0 < p1
  · refine X0.step (fun hA hx hq t_ k_ => XS.icmpYes hA hx rfl (pc0 := 2) (pc' := 9) rfl (hb hq d4_2) rfl (tlt (k1)).1 (by decide) (by decide) k_) ?_
    show OFin _ _ _ _ _ _ _ _ T0 (mkF m 9 #[.val (.int p0), .val (.int p1)] [])
    refine X0.step (fun hA hx hq t_ k_ => XS.iloadN hA hx rfl (hb hq d4_9) rfl k_) ?_
    show OFin _ _ _ _ _ _ _ _ T0 (mkF m 10 #[.val (.int p0), .val (.int p1)] [(.int p1)])
    exact X0.retI d4_10 (by decide) (by decide) (⟨by rw [if_pos k1], rfl⟩)
  · refine X0.step (fun hA hx hq t_ k_ => XS.icmpNo hA hx rfl (hb hq d4_2) rfl (flt (k1)).1 k_) ?_
    show OFin _ _ _ _ _ _ _ _ T0 (mkF m 5 #[.val (.int p0), .val (.int p1)] [])
    refine X0.step (fun hA hx hq t_ k_ => XS.iloadN hA hx rfl (hb hq d4_5) rfl k_) ?_
    show OFin _ _ _ _ _ _ _ _ T0 (mkF m 6 #[.val (.int p0), .val (.int p1)] [(.int p0)])
    refine X0.step (fun hA hx hq t_ k_ => XS.goto hA hx rfl (pc0 := 6) (pc' := 10) rfl (hb hq d4_6) (by decide) (by decide) k_) ?_
    show OFin _ _ _ _ _ _ _ _ T0 (mkF m 10 #[.val (.int p0), .val (.int p1)] [(.int p0)])
    exact X0.retI d4_10 (by decide) (by decide) (⟨by rw [if_neg k1], rfl⟩)
theorem pn_com_example_interleave_interleave_NodeSet : plainName "com/example/interleave/interleave/NodeSet" = true := by first | (simp [plainName, overriddenIn]; done) | decide +kernel
theorem d3_0 : decode prog_43_method_7_code 0 = .ok (.iconst 1, 1) := by decide +kernel
theorem d3_1 : decode prog_43_method_7_code 1 = .ok (.iload_n 0, 1) := by decide +kernel
theorem d3_2 : decode prog_43_method_7_code 2 = .ok (.bipush 6, 2) := by decide +kernel
theorem d3_4 : decode prog_43_method_7_code 4 = .ok (.iushr, 1) := by decide +kernel
theorem d3_5 : decode prog_43_method_7_code 5 = .ok (.iload_n 0, 1) := by decide +kernel
theorem d3_6 : decode prog_43_method_7_code 6 = .ok (.bipush 63, 2) := by decide +kernel
theorem d3_8 : decode prog_43_method_7_code 8 = .ok (.iand, 1) := by decide +kernel
theorem d3_9 : decode prog_43_method_7_code 9 = .ok (.ifCond .ne 7, 3) := by decide +kernel
theorem d3_12 : decode prog_43_method_7_code 12 = .ok (.iconst 0, 1) := by decide +kernel
theorem d3_13 : decode prog_43_method_7_code 13 = .ok (.goto 4, 3) := by decide +kernel
theorem d3_17 : decode prog_43_method_7_code 17 = .ok (.iadd, 1) := by decide +kernel
theorem d3_18 : decode prog_43_method_7_code 18 = .ok (.invokestatic 45, 3) := by decide +kernel
theorem pd_pIIr_I : parseMethodDescriptor "(II)I" = some ⟨[.int, .int], some .int⟩ := by decide +kernel
theorem d3_21 : decode prog_43_method_7_code 21 = .ok (.ireturn, 1) := by decide +kernel
theorem d3_16 : decode prog_43_method_7_code 16 = .ok (.iconst 1, 1) := by decide +kernel
set_option maxRecDepth 65536 in
set_option maxHeartbeats 40000000 in
theorem rm2 (l : Launch) (Z : State) (a0 : Array Value) (hw : ∀ d ∈ tables_1, d.before a0 Z = true) (b : Nat) (h0 : Heap) (n0 : Nat) (hb0 : 0 < b) (hb2 : b < 2 ^ 31) :
    OMeets l Z (⟨"com/example/interleave/interleave/NodeSet", "wordsFor", "(I)I"⟩ : MethodName) [] prog_43_method_7_code 1 (some .int) ({ frames := 1, cells := 0, slots := 0, locals := 13 } : Room) #[(.int (Int32.ofNat b))] h0 n0 (fun v h => v = some (.int (Int32.ofNat (own_cl b))) ∧ h0 = h) := by
  refine o_enter (Z := Z) (plainFor_of_name pn_com_example_interleave_interleave_NodeSet) ?_
  intro p e s m below meth c T0 X0
  refine OFin.cast (g' := (mkF m 0 #[.val (.int (Int32.ofNat b))] [])) (by first | (simp [entryFrame, mkF, argsToLocals, Value.category]; done) | rfl) ?_
  refine X0.step (fun hA hx hq t_ k_ => XS.iconst hA hx rfl (hb hq d3_0) k_) ?_
  show OFin _ _ _ _ _ _ _ _ T0 (mkF m 1 #[.val (.int (Int32.ofNat b))] [(.int (1 : Int32))])
  refine X0.step (fun hA hx hq t_ k_ => XS.iloadN hA hx rfl (hb hq d3_1) rfl k_) ?_
  show OFin _ _ _ _ _ _ _ _ T0 (mkF m 2 #[.val (.int (Int32.ofNat b))] [(.int (Int32.ofNat b)), (.int (1 : Int32))])
  refine X0.step (fun hA hx hq t_ k_ => XS.bipush hA hx rfl (hb hq d3_2) k_) ?_
  show OFin _ _ _ _ _ _ _ _ T0 (mkF m 4 #[.val (.int (Int32.ofNat b))] [(.int (6 : Int32)), (.int (Int32.ofNat b)), (.int (1 : Int32))])
  refine X0.step (fun hA hx hq t_ k_ => XS.iushr hA hx rfl (hb hq d3_4) rfl k_) ?_
  show OFin _ _ _ _ _ _ _ _ T0 (mkF m 5 #[.val (.int (Int32.ofNat b))] [(.int (((Int32.ofNat b).toUInt32 >>> ((6 : Int32) &&& 31).toUInt32).toInt32)), (.int (1 : Int32))])
  rw [own_ush6 b hb2]
  show OFin _ _ _ _ _ _ _ _ T0 (mkF m 5 #[.val (.int (Int32.ofNat b))] [(.int (Int32.ofNat (b / 64))), (.int (1 : Int32))])
  refine X0.step (fun hA hx hq t_ k_ => XS.iloadN hA hx rfl (hb hq d3_5) rfl k_) ?_
  show OFin _ _ _ _ _ _ _ _ T0 (mkF m 6 #[.val (.int (Int32.ofNat b))] [(.int (Int32.ofNat b)), (.int (Int32.ofNat (b / 64))), (.int (1 : Int32))])
  refine X0.step (fun hA hx hq t_ k_ => XS.bipush hA hx rfl (hb hq d3_6) k_) ?_
  show OFin _ _ _ _ _ _ _ _ T0 (mkF m 8 #[.val (.int (Int32.ofNat b))] [(.int (63 : Int32)), (.int (Int32.ofNat b)), (.int (Int32.ofNat (b / 64))), (.int (1 : Int32))])
  refine X0.step (fun hA hx hq t_ k_ => XS.iand hA hx rfl (hb hq d3_8) rfl k_) ?_
  show OFin _ _ _ _ _ _ _ _ T0 (mkF m 9 #[.val (.int (Int32.ofNat b))] [(.int ((Int32.ofNat b) &&& (63 : Int32))), (.int (Int32.ofNat (b / 64))), (.int (1 : Int32))])
  rw [own_and63 b hb2]
  show OFin _ _ _ _ _ _ _ _ T0 (mkF m 9 #[.val (.int (Int32.ofNat b))] [(.int (Int32.ofNat (b % 64))), (.int (Int32.ofNat (b / 64))), (.int (1 : Int32))])
  by_cases k1 : (Int32.ofNat (b % 64)) = (0 : Int32)
  · refine X0.step (fun hA hx hq t_ k_ => XS.ifNo hA hx rfl (hb hq d3_9) rfl ((if0 _ _).trans (teq (k1)).2) k_) ?_
    show OFin _ _ _ _ _ _ _ _ T0 (mkF m 12 #[.val (.int (Int32.ofNat b))] [(.int (Int32.ofNat (b / 64))), (.int (1 : Int32))])
    refine X0.step (fun hA hx hq t_ k_ => XS.iconst hA hx rfl (hb hq d3_12) k_) ?_
    show OFin _ _ _ _ _ _ _ _ T0 (mkF m 13 #[.val (.int (Int32.ofNat b))] [(.int (0 : Int32)), (.int (Int32.ofNat (b / 64))), (.int (1 : Int32))])
    refine X0.step (fun hA hx hq t_ k_ => XS.goto hA hx rfl (pc0 := 13) (pc' := 17) rfl (hb hq d3_13) (by decide) (by decide) k_) ?_
    show OFin _ _ _ _ _ _ _ _ T0 (mkF m 17 #[.val (.int (Int32.ofNat b))] [(.int (0 : Int32)), (.int (Int32.ofNat (b / 64))), (.int (1 : Int32))])
    refine X0.step (fun hA hx hq t_ k_ => XS.iadd hA hx rfl (hb hq d3_17) rfl k_) ?_
    show OFin _ _ _ _ _ _ _ _ T0 (mkF m 18 #[.val (.int (Int32.ofNat b))] [(.int ((Int32.ofNat (b / 64)) + (0 : Int32))), (.int (1 : Int32))])
    refine X0.callS (y' := (⟨"java/lang/Math", "max", "(II)I"⟩ : MethodName)) (hw _ (List.mem_of_getElem? (i := 14) rfl)) (hw _ (List.mem_of_getElem? (i := 15) rfl)) (hw _ (List.mem_of_getElem? (i := 16) rfl)) (hw _ (List.mem_of_getElem? (i := 17) rfl)) (by decide) (argsL := [(.int (1 : Int32)), (.int ((Int32.ofNat (b / 64)) + (0 : Int32)))]) (rest := []) (rm1 l Z a0 hw (1 : Int32) ((Int32.ofNat (b / 64)) + (0 : Int32)) h0 n0) (g := (mkF m 18 #[.val (.int (Int32.ofNat b))] [(.int ((Int32.ofNat (b / 64)) + (0 : Int32))), (.int (1 : Int32))])) rfl rfl pd_pIIr_I rfl rfl (W := 0) (by show 2 * 0 + _ ≤ _; exact Nat.le_of_eq rfl) d3_18 (by decide) (by decide) (by decide) (by decide) ?_
    intro v1 T1 h1 X1 q1
    obtain ⟨rfl, rfl⟩ := q1
    show OFin _ _ _ _ _ _ _ _ T1 (mkF m 21 #[.val (.int (Int32.ofNat b))] [(.int (if (1 : Int32) < ((Int32.ofNat (b / 64)) + (0 : Int32)) then ((Int32.ofNat (b / 64)) + (0 : Int32)) else (1 : Int32)))])
    have kk : b % 64 = 0 := (own_eq32 (b % 64) 0 (by omega) (by decide)).mp k1
    exact X1.retI d3_21 (by decide) (by decide) (⟨by rw [own_wf0 b hb0 hb2 kk], rfl⟩)
  · refine X0.step (fun hA hx hq t_ k_ => XS.ifYes hA hx rfl (pc0 := 9) (pc' := 16) rfl (hb hq d3_9) rfl ((if0 _ _).trans (feq (k1)).2) (by decide) (by decide) k_) ?_
    show OFin _ _ _ _ _ _ _ _ T0 (mkF m 16 #[.val (.int (Int32.ofNat b))] [(.int (Int32.ofNat (b / 64))), (.int (1 : Int32))])
    refine X0.step (fun hA hx hq t_ k_ => XS.iconst hA hx rfl (hb hq d3_16) k_) ?_
    show OFin _ _ _ _ _ _ _ _ T0 (mkF m 17 #[.val (.int (Int32.ofNat b))] [(.int (1 : Int32)), (.int (Int32.ofNat (b / 64))), (.int (1 : Int32))])
    refine X0.step (fun hA hx hq t_ k_ => XS.iadd hA hx rfl (hb hq d3_17) rfl k_) ?_
    show OFin _ _ _ _ _ _ _ _ T0 (mkF m 18 #[.val (.int (Int32.ofNat b))] [(.int ((Int32.ofNat (b / 64)) + (1 : Int32))), (.int (1 : Int32))])
    refine X0.callS (y' := (⟨"java/lang/Math", "max", "(II)I"⟩ : MethodName)) (hw _ (List.mem_of_getElem? (i := 14) rfl)) (hw _ (List.mem_of_getElem? (i := 15) rfl)) (hw _ (List.mem_of_getElem? (i := 16) rfl)) (hw _ (List.mem_of_getElem? (i := 17) rfl)) (by decide) (argsL := [(.int (1 : Int32)), (.int ((Int32.ofNat (b / 64)) + (1 : Int32)))]) (rest := []) (rm1 l Z a0 hw (1 : Int32) ((Int32.ofNat (b / 64)) + (1 : Int32)) h0 n0) (g := (mkF m 18 #[.val (.int (Int32.ofNat b))] [(.int ((Int32.ofNat (b / 64)) + (1 : Int32))), (.int (1 : Int32))])) rfl rfl pd_pIIr_I rfl rfl (W := 0) (by show 2 * 0 + _ ≤ _; exact Nat.le_of_eq rfl) d3_18 (by decide) (by decide) (by decide) (by decide) ?_
    intro v2 T2 h2 X2 q2
    obtain ⟨rfl, rfl⟩ := q2
    show OFin _ _ _ _ _ _ _ _ T2 (mkF m 21 #[.val (.int (Int32.ofNat b))] [(.int (if (1 : Int32) < ((Int32.ofNat (b / 64)) + (1 : Int32)) then ((Int32.ofNat (b / 64)) + (1 : Int32)) else (1 : Int32)))])
    have kk : ¬ b % 64 = 0 := fun q => k1 (by rw [q]; rfl)
    exact X2.retI d3_21 (by decide) (by decide) (⟨by rw [own_wf1 b hb0 hb2 kk], rfl⟩)
theorem d1_27 : decode prog_43_method_1_code 27 = .ok (.aload_n 0, 1) := by decide +kernel
theorem d1_28 : decode prog_43_method_1_code 28 = .ok (.iload_n 2, 1) := by decide +kernel
theorem d1_29 : decode prog_43_method_1_code 29 = .ok (.anewarray 13, 3) := by decide +kernel
theorem d1_32 : decode prog_43_method_1_code 32 = .ok (.putfield 15, 3) := by decide +kernel
theorem d1_35 : decode prog_43_method_1_code 35 = .ok (.iload_n 1, 1) := by decide +kernel
theorem d1_36 : decode prog_43_method_1_code 36 = .ok (.istore_n 3, 1) := by decide +kernel
theorem d1_37 : decode prog_43_method_1_code 37 = .ok (.iconst 0, 1) := by decide +kernel
theorem d1_38 : decode prog_43_method_1_code 38 = .ok (.istore 4, 2) := by decide +kernel
theorem d1_40 : decode prog_43_method_1_code 40 = .ok (.iload 4, 2) := by decide +kernel
theorem d1_42 : decode prog_43_method_1_code 42 = .ok (.iload_n 2, 1) := by decide +kernel
theorem d1_43 : decode prog_43_method_1_code 43 = .ok (.if_icmp .ge 31, 3) := by decide +kernel
theorem d1_74 : decode prog_43_method_1_code 74 = .ok (.return_, 1) := by decide +kernel
theorem d1_46 : decode prog_43_method_1_code 46 = .ok (.aload_n 0, 1) := by decide +kernel
theorem d1_47 : decode prog_43_method_1_code 47 = .ok (.getfield 15, 3) := by decide +kernel
theorem d1_50 : decode prog_43_method_1_code 50 = .ok (.iload 4, 2) := by decide +kernel
theorem d1_52 : decode prog_43_method_1_code 52 = .ok (.iload_n 3, 1) := by decide +kernel
theorem d1_53 : decode prog_43_method_1_code 53 = .ok (.invokestatic 9, 3) := by decide +kernel
theorem pd_pIr_I : parseMethodDescriptor "(I)I" = some ⟨[.int], some .int⟩ := by decide +kernel
theorem d1_56 : decode prog_43_method_1_code 56 = .ok (.newarray .long, 2) := by decide +kernel
theorem d1_58 : decode prog_43_method_1_code 58 = .ok (.aastore, 1) := by decide +kernel
theorem d1_59 : decode prog_43_method_1_code 59 = .ok (.aload_n 0, 1) := by decide +kernel
theorem d1_60 : decode prog_43_method_1_code 60 = .ok (.getfield 15, 3) := by decide +kernel
theorem d1_63 : decode prog_43_method_1_code 63 = .ok (.iload 4, 2) := by decide +kernel
theorem d1_65 : decode prog_43_method_1_code 65 = .ok (.aaload, 1) := by decide +kernel
theorem d1_66 : decode prog_43_method_1_code 66 = .ok (.arraylength, 1) := by decide +kernel
theorem d1_67 : decode prog_43_method_1_code 67 = .ok (.istore_n 3, 1) := by decide +kernel
theorem d1_68 : decode prog_43_method_1_code 68 = .ok (.iinc 4 1, 3) := by decide +kernel
theorem d1_71 : decode prog_43_method_1_code 71 = .ok (.goto (-31), 3) := by decide +kernel
theorem d1_11 : decode prog_43_method_1_code 11 = .ok (.iload_n 3, 1) := by decide +kernel
theorem d1_12 : decode prog_43_method_1_code 12 = .ok (.iconst 1, 1) := by decide +kernel
theorem d1_13 : decode prog_43_method_1_code 13 = .ok (.if_icmp .le 14, 3) := by decide +kernel
theorem d1_16 : decode prog_43_method_1_code 16 = .ok (.iinc 2 1, 3) := by decide +kernel
theorem d1_19 : decode prog_43_method_1_code 19 = .ok (.iload_n 3, 1) := by decide +kernel
theorem d1_20 : decode prog_43_method_1_code 20 = .ok (.invokestatic 9, 3) := by decide +kernel
theorem d1_23 : decode prog_43_method_1_code 23 = .ok (.istore_n 3, 1) := by decide +kernel
theorem d1_24 : decode prog_43_method_1_code 24 = .ok (.goto (-13), 3) := by decide +kernel
theorem d1_0 : decode prog_43_method_1_code 0 = .ok (.aload_n 0, 1) := by decide +kernel
theorem d1_1 : decode prog_43_method_1_code 1 = .ok (.invokespecial 3, 3) := by decide +kernel
theorem d1_4 : decode prog_43_method_1_code 4 = .ok (.iconst 1, 1) := by decide +kernel
theorem d1_5 : decode prog_43_method_1_code 5 = .ok (.istore_n 2, 1) := by decide +kernel
theorem d1_6 : decode prog_43_method_1_code 6 = .ok (.iload_n 1, 1) := by decide +kernel
theorem d1_7 : decode prog_43_method_1_code 7 = .ok (.invokestatic 9, 3) := by decide +kernel
theorem d1_10 : decode prog_43_method_1_code 10 = .ok (.istore_n 3, 1) := by decide +kernel
set_option maxRecDepth 65536 in
set_option maxHeartbeats 40000000 in
theorem rm3 (l : Launch) (Z : State) (a0 : Array Value) (hw : ∀ d ∈ tables_1, d.before a0 Z = true) (a1 : Addr) (n : Nat) (h0 : Heap) (n0 : Nat) (F : Fld Z h0 a1 "com/example/interleave/interleave/NodeSet" "levels" "[[J" .null) (E : Exa Z h0 a1 "com/example/interleave/interleave/NodeSet") (hnew : n0 ≤ a1) (hp : 0 < n) (hn : n ≤ 524288) (Z0 : n0 ≤ h0.size) :
    OMeets l Z (⟨"com/example/interleave/interleave/NodeSet", "<init>", "(I)V"⟩ : MethodName) [] prog_43_method_1_code 5 none ({ frames := 2, cells := 7, slots := 16390, locals := 27 } : Room) #[(.ref a1), (.int (Int32.ofNat n))] h0 n0 (fun v h => v = none ∧ Keep h0 h [a1] ∧ ∃ lv L ad N, OS Z h n0 a1 lv L ad N (fun _ => False) ∧ ONum n L N) := by
  refine o_enter (Z := Z) (plainFor_of_name pn_com_example_interleave_interleave_NodeSet) ?_
  intro p e s m below meth c T0 X0
  refine OFin.cast (g' := (mkF m 0 #[.val (.ref a1), .val (.int (Int32.ofNat n)), .unset, .unset, .unset] [])) (by first | (simp [entryFrame, mkF, argsToLocals, Value.category]; done) | rfl) ?_
  have hn5 : n ≤ 524288 := by omega
  have hN0 : own_N n 0 ≤ 8192 := by show (n + 63) / 64 ≤ 8192; omega
  have part2 : ∀ (L : Nat) (w3 : Int32) (T : State), 0 < L → L ≤ 4 → own_N n (L - 1) = 1 → (∀ j, j + 1 < L → 1 < own_N n j) → OAt n0 Z (⟨"com/example/interleave/interleave/NodeSet", "<init>", "(I)V"⟩ : MethodName) prog_43_method_1_code 5 none p l e ({ frames := 2, cells := 7, slots := 16390, locals := 27 } : Room) s m #[(.ref a1), (.int (Int32.ofNat n))] below meth c T h0 0 0 → OFin n0 p e s below (fun v h => v = none ∧ Keep h0 h [a1] ∧ ∃ lv L ad N, OS Z h n0 a1 lv L ad N (fun _ => False) ∧ ONum n L N) ({ frames := 2, cells := 7, slots := 16390, locals := 27 } : Room).cells ({ frames := 2, cells := 7, slots := 16390, locals := 27 } : Room).slots T (mkF m 27 #[.val (.ref a1), .val (.int (Int32.ofNat n)), .val (.int (Int32.ofNat L)), .val (.int w3), .unset] []) := by
    intro L w3 T hL0 hL4 hL1 hLj X
    refine X.step (fun hA hx hq t_ k_ => XS.aloadN hA hx rfl (hb hq d1_27) rfl rfl k_) ?_
    show OFin _ _ _ _ _ _ _ _ T (mkF m 28 #[.val (.ref a1), .val (.int (Int32.ofNat n)), .val (.int (Int32.ofNat L)), .val (.int w3), .unset] [(.ref a1)])
    refine X.step (fun hA hx hq t_ k_ => XS.iloadN hA hx rfl (hb hq d1_28) rfl k_) ?_
    show OFin _ _ _ _ _ _ _ _ T (mkF m 29 #[.val (.ref a1), .val (.int (Int32.ofNat n)), .val (.int (Int32.ofNat L)), .val (.int w3), .unset] [(.int (Int32.ofNat L)), (.ref a1)])
    refine X.newRA (C := "[J") (ty := .long) (by first | rfl | decide) (hw _ (List.mem_of_getElem? (i := 18) rfl)) (hw _ (List.mem_of_getElem? (i := 19) rfl)) (g := (mkF m 29 #[.val (.ref a1), .val (.int (Int32.ofNat n)), .val (.int (Int32.ofNat L)), .val (.int w3), .unset] [(.int (Int32.ofNat L)), (.ref a1)])) rfl d1_29 rfl (by rw [Int32.lt_iff_toInt_lt, own_i L (by omega)]; have : (0 : Int32).toInt = 0 := (by decide); omega) (cap := 6) (by rw [own_iN L (by omega)]; omega) (by decide) (by decide) (by decide) (ad := "[[J") (by first | rfl | decide) ?_
    intro T1 h1 cA lv glv X1 E1 A1 G1 OV
    show OFin _ _ _ _ _ _ _ _ T1 (mkF m 32 #[.val (.ref a1), .val (.int (Int32.ofNat n)), .val (.int (Int32.ofNat L)), .val (.int w3), .unset] [(.ref lv), (.ref a1)])
    refine X1.putF (hw _ (List.mem_of_getElem? (i := 20) rfl)) (F.ext E1) (E.ext E1) (Or.inr ⟨(hw _ (List.mem_of_getElem? (i := 21) rfl)), rfl, rfl⟩) (hw _ (List.mem_of_getElem? (i := 3) rfl)) (ty := (.array (.array .long))) (by decide) rfl rfl hnew (g := (mkF m 32 #[.val (.ref a1), .val (.int (Int32.ofNat n)), .val (.int (Int32.ofNat L)), .val (.int w3), .unset] [(.ref lv), (.ref a1)])) rfl rfl d1_32 ?_
    intro T6 h6 X6 W6
    show OFin _ _ _ _ _ _ _ _ T6 (mkF m 35 #[.val (.ref a1), .val (.int (Int32.ofNat n)), .val (.int (Int32.ofNat L)), .val (.int w3), .unset] [])
    have nlv : lv ≠ a1 := by rw [glv]; exact Nat.ne_of_gt E.lt
    have V0 : OArr Z h6 lv (.array .long) L (fun _ => .null) := by
      have q := (OArr.new A1).other W6 nlv
      rw [own_iN L (by omega)] at q
      exact q
    have C0 : OCls h6 lv cA := (OCls.wr ⟨_, A1.1, rfl⟩ W6)
    have K0 : Keep h0 h6 [a1] := ((Keep.refl h0 [a1]).ext E1).wr W6 (Or.inl (List.mem_of_getElem? (i := 0) rfl))
    have F0 := (F.ext E1).same W6
    have E0 := (E.ext E1).wr W6
    have hlv : h0.size ≤ lv := Nat.le_of_eq glv.symm
    refine X6.step (fun hA hx hq t_ k_ => XS.iloadN hA hx rfl (hb hq d1_35) rfl k_) ?_
    show OFin _ _ _ _ _ _ _ _ T6 (mkF m 36 #[.val (.ref a1), .val (.int (Int32.ofNat n)), .val (.int (Int32.ofNat L)), .val (.int w3), .unset] [(.int (Int32.ofNat n))])
    refine X6.step (fun hA hx hq t_ k_ => XS.istoreN hA hx rfl (hb hq d1_36) rfl (l' := #[.val (.ref a1), .val (.int (Int32.ofNat n)), .val (.int (Int32.ofNat L)), .val (.int (Int32.ofNat n)), .unset]) rfl k_) ?_
    show OFin _ _ _ _ _ _ _ _ T6 (mkF m 37 #[.val (.ref a1), .val (.int (Int32.ofNat n)), .val (.int (Int32.ofNat L)), .val (.int (Int32.ofNat n)), .unset] [])
    refine X6.step (fun hA hx hq t_ k_ => XS.iconst hA hx rfl (hb hq d1_37) k_) ?_
    show OFin _ _ _ _ _ _ _ _ T6 (mkF m 38 #[.val (.ref a1), .val (.int (Int32.ofNat n)), .val (.int (Int32.ofNat L)), .val (.int (Int32.ofNat n)), .unset] [(.int (0 : Int32))])
    refine X6.step (fun hA hx hq t_ k_ => XS.istore hA hx rfl (hb hq d1_38) rfl (l' := #[.val (.ref a1), .val (.int (Int32.ofNat n)), .val (.int (Int32.ofNat L)), .val (.int (Int32.ofNat n)), .val (.int (0 : Int32))]) rfl k_) ?_
    show OFin _ _ _ _ _ _ _ _ T6 (mkF m 40 #[.val (.ref a1), .val (.int (Int32.ofNat n)), .val (.int (Int32.ofNat L)), .val (.int (Int32.ofNat n)), .val (.int (0 : Int32))] [])
    have loop : ∀ (k i sl : Nat) (ad : Nat → Addr) (T : State) (h : Heap), i + k = L → (i < L → sl + 2 * own_N n i ≤ 6 + 2 * own_N n 0) → sl ≤ 6 + 2 * own_N n 0 → OAt n0 Z (⟨"com/example/interleave/interleave/NodeSet", "<init>", "(I)V"⟩ : MethodName) prog_43_method_1_code 5 none p l e ({ frames := 2, cells := 7, slots := 16390, locals := 27 } : Room) s m #[(.ref a1), (.int (Int32.ofNat n))] below meth c T h (1 + i) sl → (Exa Z h a1 "com/example/interleave/interleave/NodeSet" ∧ Fld Z h a1 "com/example/interleave/interleave/NodeSet" "levels" "[[J" (.ref lv) ∧ OArr Z h lv (.array .long) L (fun j => if j < i then .ref (ad j) else .null) ∧ OCls h lv cA ∧ Keep h0 h [a1] ∧ ∀ j, j < i → OArr Z h (ad j) .long (own_N n j) (fun _ => .long 0) ∧ n0 ≤ ad j ∧ ad j ≠ lv ∧ ad j ≠ a1 ∧ ∀ j2, j2 < i → j ≠ j2 → ad j ≠ ad j2) → OFin n0 p e s below (fun v h => v = none ∧ Keep h0 h [a1] ∧ ∃ lv L ad N, OS Z h n0 a1 lv L ad N (fun _ => False) ∧ ONum n L N) ({ frames := 2, cells := 7, slots := 16390, locals := 27 } : Room).cells ({ frames := 2, cells := 7, slots := 16390, locals := 27 } : Room).slots T (mkF m 40 #[.val (.ref a1), .val (.int (Int32.ofNat n)), .val (.int (Int32.ofNat L)), .val (.int (Int32.ofNat (own_P n i))), .val (.int (Int32.ofNat i))] []) := by
      intro k
      induction k with
      | zero =>
        intro i sl ad T h hik hs1 hs2 X I
        have hiL : i = L := by omega
        obtain ⟨i1, i2, i3, i4, i5, i6⟩ := I
        refine X.step (fun hA hx hq t_ k_ => XS.iload hA hx rfl (hb hq d1_40) rfl k_) ?_
        show OFin _ _ _ _ _ _ _ _ T (mkF m 42 #[.val (.ref a1), .val (.int (Int32.ofNat n)), .val (.int (Int32.ofNat L)), .val (.int (Int32.ofNat (own_P n i))), .val (.int (Int32.ofNat i))] [(.int (Int32.ofNat i))])
        refine X.step (fun hA hx hq t_ k_ => XS.iloadN hA hx rfl (hb hq d1_42) rfl k_) ?_
        show OFin _ _ _ _ _ _ _ _ T (mkF m 43 #[.val (.ref a1), .val (.int (Int32.ofNat n)), .val (.int (Int32.ofNat L)), .val (.int (Int32.ofNat (own_P n i))), .val (.int (Int32.ofNat i))] [(.int (Int32.ofNat L)), (.int (Int32.ofNat i))])
        refine X.step (fun hA hx hq t_ k_ => XS.icmpYes hA hx rfl (pc0 := 43) (pc' := 74) rfl (hb hq d1_43) rfl (flt (fun c => by rw [own_lt32 i L (by omega) (by omega)] at c; omega)).2.1 (by decide) (by decide) k_) ?_
        show OFin _ _ _ _ _ _ _ _ T (mkF m 74 #[.val (.ref a1), .val (.int (Int32.ofNat n)), .val (.int (Int32.ofNat L)), .val (.int (Int32.ofNat (own_P n i))), .val (.int (Int32.ofNat i))] [])
        exact X.retV d1_74 (by show 1 + i ≤ 7; omega) (by show sl ≤ 16390; omega) (⟨rfl, i5, lv, L, ad, own_N n, ⟨fun _ _ => 0, ⟨i1, i2, ⟨i3.congr fun j hj => if_pos (by omega), fun j hj => (i6 j (by omega)).1⟩, fun j hj => ⟨(i6 j (by omega)).2.1, (i6 j (by omega)).2.2.1, (i6 j (by omega)).2.2.2.1, fun j2 q => (i6 j (by omega)).2.2.2.2 j2 (by omega)⟩⟩, fun j hj k hk b hb => ⟨fun c => (by rw [own_bt0] at c; cases c), fun ⟨s, c, _⟩ => c.elim⟩⟩, ⟨hL0, by omega, hL1, fun j hj => ⟨own_Npos n hp j, own_Nle n hn5 j⟩, fun j hj s hs => own_Nlt n s hs j⟩⟩)
      | succ k ih =>
        intro i sl ad T h hik hs1 hs2 X I
        have hlt : i < L := by omega
        obtain ⟨i1, i2, i3, i4, i5, i6⟩ := I
        have hs3 := hs1 hlt
        have hNp := own_Npos n hp i
        have hNl := own_Nle n hn5 i
        have hN00 := own_Nle n hn5 0
        have hPp : 0 < own_P n i ∧ own_P n i < 2 ^ 31 := by
          cases i with
          | zero => exact ⟨hp, by show n < _; omega⟩
          | succ j => have h1 := own_Npos n hp j; have h2 := own_Nle n hn5 j; exact ⟨h1, by show own_N n j < _; omega⟩
        refine X.step (fun hA hx hq t_ k_ => XS.iload hA hx rfl (hb hq d1_40) rfl k_) ?_
        show OFin _ _ _ _ _ _ _ _ T (mkF m 42 #[.val (.ref a1), .val (.int (Int32.ofNat n)), .val (.int (Int32.ofNat L)), .val (.int (Int32.ofNat (own_P n i))), .val (.int (Int32.ofNat i))] [(.int (Int32.ofNat i))])
        refine X.step (fun hA hx hq t_ k_ => XS.iloadN hA hx rfl (hb hq d1_42) rfl k_) ?_
        show OFin _ _ _ _ _ _ _ _ T (mkF m 43 #[.val (.ref a1), .val (.int (Int32.ofNat n)), .val (.int (Int32.ofNat L)), .val (.int (Int32.ofNat (own_P n i))), .val (.int (Int32.ofNat i))] [(.int (Int32.ofNat L)), (.int (Int32.ofNat i))])
        refine X.step (fun hA hx hq t_ k_ => XS.icmpNo hA hx rfl (hb hq d1_43) rfl (tlt ((own_lt32 i L (by omega) (by omega)).mpr hlt)).2.1 k_) ?_
        show OFin _ _ _ _ _ _ _ _ T (mkF m 46 #[.val (.ref a1), .val (.int (Int32.ofNat n)), .val (.int (Int32.ofNat L)), .val (.int (Int32.ofNat (own_P n i))), .val (.int (Int32.ofNat i))] [])
        refine X.step (fun hA hx hq t_ k_ => XS.aloadN hA hx rfl (hb hq d1_46) rfl rfl k_) ?_
        show OFin _ _ _ _ _ _ _ _ T (mkF m 47 #[.val (.ref a1), .val (.int (Int32.ofNat n)), .val (.int (Int32.ofNat L)), .val (.int (Int32.ofNat (own_P n i))), .val (.int (Int32.ofNat i))] [(.ref a1)])
        refine X.getF (hw _ (List.mem_of_getElem? (i := 20) rfl)) i2 (g := (mkF m 47 #[.val (.ref a1), .val (.int (Int32.ofNat n)), .val (.int (Int32.ofNat L)), .val (.int (Int32.ofNat (own_P n i))), .val (.int (Int32.ofNat i))] [(.ref a1)])) rfl rfl d1_47 ?_
        intro T7 X7
        show OFin _ _ _ _ _ _ _ _ T7 (mkF m 50 #[.val (.ref a1), .val (.int (Int32.ofNat n)), .val (.int (Int32.ofNat L)), .val (.int (Int32.ofNat (own_P n i))), .val (.int (Int32.ofNat i))] [(.ref lv)])
        refine X7.step (fun hA hx hq t_ k_ => XS.iload hA hx rfl (hb hq d1_50) rfl k_) ?_
        show OFin _ _ _ _ _ _ _ _ T7 (mkF m 52 #[.val (.ref a1), .val (.int (Int32.ofNat n)), .val (.int (Int32.ofNat L)), .val (.int (Int32.ofNat (own_P n i))), .val (.int (Int32.ofNat i))] [(.int (Int32.ofNat i)), (.ref lv)])
        refine X7.step (fun hA hx hq t_ k_ => XS.iloadN hA hx rfl (hb hq d1_52) rfl k_) ?_
        show OFin _ _ _ _ _ _ _ _ T7 (mkF m 53 #[.val (.ref a1), .val (.int (Int32.ofNat n)), .val (.int (Int32.ofNat L)), .val (.int (Int32.ofNat (own_P n i))), .val (.int (Int32.ofNat i))] [(.int (Int32.ofNat (own_P n i))), (.int (Int32.ofNat i)), (.ref lv)])
        refine X7.callS (y' := (⟨"com/example/interleave/interleave/NodeSet", "wordsFor", "(I)I"⟩ : MethodName)) (hw _ (List.mem_of_getElem? (i := 11) rfl)) (hw _ (List.mem_of_getElem? (i := 12) rfl)) (hw _ (List.mem_of_getElem? (i := 4) rfl)) (hw _ (List.mem_of_getElem? (i := 13) rfl)) (by decide) (argsL := [(.int (Int32.ofNat (own_P n i)))]) (rest := [(.int (Int32.ofNat i)), (.ref lv)]) (rm2 l Z a0 hw (own_P n i) h n0 hPp.1 hPp.2) (g := (mkF m 53 #[.val (.ref a1), .val (.int (Int32.ofNat n)), .val (.int (Int32.ofNat L)), .val (.int (Int32.ofNat (own_P n i))), .val (.int (Int32.ofNat i))] [(.int (Int32.ofNat (own_P n i))), (.int (Int32.ofNat i)), (.ref lv)])) rfl rfl pd_pIr_I rfl rfl (W := 2) (by show 2 * 0 + _ ≤ _; exact Nat.le_of_eq rfl) d1_53 (by decide) (by decide) (by show 1 + i + 0 ≤ 7; omega) (by show sl + 0 ≤ 16390; omega) ?_
        intro v8 T8 h8 X8 q8
        obtain ⟨rfl, rfl⟩ := q8
        rw [← own_NP n i]
        show OFin _ _ _ _ _ _ _ _ T8 (mkF m 56 #[.val (.ref a1), .val (.int (Int32.ofNat n)), .val (.int (Int32.ofNat L)), .val (.int (Int32.ofNat (own_P n i))), .val (.int (Int32.ofNat i))] [(.int (Int32.ofNat (own_N n i))), (.int (Int32.ofNat i)), (.ref lv)])
        refine X8.newP (hw _ (List.mem_of_getElem? (i := 22) rfl)) (g := (mkF m 56 #[.val (.ref a1), .val (.int (Int32.ofNat n)), .val (.int (Int32.ofNat L)), .val (.int (Int32.ofNat (own_P n i))), .val (.int (Int32.ofNat i))] [(.int (Int32.ofNat (own_N n i))), (.int (Int32.ofNat i)), (.ref lv)])) rfl d1_56 rfl (by rw [Int32.lt_iff_toInt_lt, own_i _ (by omega)]; have : (0 : Int32).toInt = 0 := (by decide); omega) (cap := (own_N n i)) (Nat.le_of_eq (own_iN _ (by omega))) (by omega) (by show 1 + i + 0 + 1 ≤ 7; omega) (by show sl + 0 + own_N n i ≤ 16390; omega) (ad := "[J") (by first | rfl | decide) ?_
        intro T9 h9 k9 b9 gb9 X9 E9 A9 G9
        show OFin _ _ _ _ _ _ _ _ T9 (mkF m 58 #[.val (.ref a1), .val (.int (Int32.ofNat n)), .val (.int (Int32.ofNat L)), .val (.int (Int32.ofNat (own_P n i))), .val (.int (Int32.ofNat i))] [(.ref b9), (.int (Int32.ofNat i)), (.ref lv)])
        obtain ⟨cv, Av, Sv, Hv⟩ := i3.ext E9
        obtain ⟨c4, j1, j2⟩ := i4.ext E9
        have hcv : cv.cls = cA := by rw [Option.some.inj (Av.1.symm.trans j1)]; exact j2
        have nb1 : ∀ a, a < h.size → b9 ≠ a := fun a q => by rw [gb9]; exact Nat.ne_of_gt q
        refine X9.stR Av (o_in Sv (by rw [own_i i (by omega)]; omega) (by rw [own_i i (by omega)]; omega)) rfl (Sto.ofVA Av hcv OV (Ins.self G9)) (Nat.le_trans Z0 hlv) (g := (mkF m 58 #[.val (.ref a1), .val (.int (Int32.ofNat n)), .val (.int (Int32.ofNat L)), .val (.int (Int32.ofNat (own_P n i))), .val (.int (Int32.ofNat i))] [(.ref b9), (.int (Int32.ofNat i)), (.ref lv)])) rfl rfl d1_58 ?_
        intro T10 h10 X10 W10
        show OFin _ _ _ _ _ _ _ _ T10 (mkF m 59 #[.val (.ref a1), .val (.int (Int32.ofNat n)), .val (.int (Int32.ofNat L)), .val (.int (Int32.ofNat (own_P n i))), .val (.int (Int32.ofNat i))] [])
        rw [own_iN i (by omega)] at W10
        have n1 : b9 ≠ lv := nb1 _ i3.lt
        have n2 : b9 ≠ a1 := nb1 _ i1.lt
        have V1 := (i3.ext E9).set W10
        have i2' := (i2.ext E9).other W10 (Or.inl (Ne.symm nlv))
        have i1' := (i1.ext E9).wr W10
        have U1 : OArr Z h10 b9 .long (own_N n i) (fun _ => .long 0) := by
          have q := (OArr.new A9).other W10 n1
          rw [own_iN _ (by omega)] at q
          exact q
        refine X10.step (fun hA hx hq t_ k_ => XS.aloadN hA hx rfl (hb hq d1_59) rfl rfl k_) ?_
        show OFin _ _ _ _ _ _ _ _ T10 (mkF m 60 #[.val (.ref a1), .val (.int (Int32.ofNat n)), .val (.int (Int32.ofNat L)), .val (.int (Int32.ofNat (own_P n i))), .val (.int (Int32.ofNat i))] [(.ref a1)])
        refine X10.getF (hw _ (List.mem_of_getElem? (i := 20) rfl)) i2' (g := (mkF m 60 #[.val (.ref a1), .val (.int (Int32.ofNat n)), .val (.int (Int32.ofNat L)), .val (.int (Int32.ofNat (own_P n i))), .val (.int (Int32.ofNat i))] [(.ref a1)])) rfl rfl d1_60 ?_
        intro T11 X11
        show OFin _ _ _ _ _ _ _ _ T11 (mkF m 63 #[.val (.ref a1), .val (.int (Int32.ofNat n)), .val (.int (Int32.ofNat L)), .val (.int (Int32.ofNat (own_P n i))), .val (.int (Int32.ofNat i))] [(.ref lv)])
        refine X11.step (fun hA hx hq t_ k_ => XS.iload hA hx rfl (hb hq d1_63) rfl k_) ?_
        show OFin _ _ _ _ _ _ _ _ T11 (mkF m 65 #[.val (.ref a1), .val (.int (Int32.ofNat n)), .val (.int (Int32.ofNat L)), .val (.int (Int32.ofNat (own_P n i))), .val (.int (Int32.ofNat i))] [(.int (Int32.ofNat i)), (.ref lv)])
        obtain ⟨cw, Aw, Sw, Hw⟩ := id V1
        refine X11.aload0 Aw (v := (.ref b9)) (o_in Sw (by rw [own_i i (by omega)]; omega) (by rw [own_i i (by omega)]; omega)) (by rw [own_iN i (by omega), Hw i hlt]; simp) (g := (mkF m 65 #[.val (.ref a1), .val (.int (Int32.ofNat n)), .val (.int (Int32.ofNat L)), .val (.int (Int32.ofNat (own_P n i))), .val (.int (Int32.ofNat i))] [(.int (Int32.ofNat i)), (.ref lv)])) rfl rfl (Or.inr (Or.inr (Or.inr (Or.inr (⟨rfl, rfl⟩))))) d1_65 ?_
        show OFin _ _ _ _ _ _ _ _ T11 (mkF m 66 #[.val (.ref a1), .val (.int (Int32.ofNat n)), .val (.int (Int32.ofNat L)), .val (.int (Int32.ofNat (own_P n i))), .val (.int (Int32.ofNat i))] [(.ref b9)])
        obtain ⟨cu, Au, Su, Hu⟩ := id U1
        refine X11.alen Au (n := (Int32.ofNat (own_N n i))) (by rw [Su]) (g := (mkF m 66 #[.val (.ref a1), .val (.int (Int32.ofNat n)), .val (.int (Int32.ofNat L)), .val (.int (Int32.ofNat (own_P n i))), .val (.int (Int32.ofNat i))] [(.ref b9)])) rfl rfl d1_66 ?_
        show OFin _ _ _ _ _ _ _ _ T11 (mkF m 67 #[.val (.ref a1), .val (.int (Int32.ofNat n)), .val (.int (Int32.ofNat L)), .val (.int (Int32.ofNat (own_P n i))), .val (.int (Int32.ofNat i))] [(.int (Int32.ofNat (own_N n i)))])
        refine X11.step (fun hA hx hq t_ k_ => XS.istoreN hA hx rfl (hb hq d1_67) rfl (l' := #[.val (.ref a1), .val (.int (Int32.ofNat n)), .val (.int (Int32.ofNat L)), .val (.int (Int32.ofNat (own_N n i))), .val (.int (Int32.ofNat i))]) rfl k_) ?_
        show OFin _ _ _ _ _ _ _ _ T11 (mkF m 68 #[.val (.ref a1), .val (.int (Int32.ofNat n)), .val (.int (Int32.ofNat L)), .val (.int (Int32.ofNat (own_N n i))), .val (.int (Int32.ofNat i))] [])
        refine X11.step (fun hA hx hq t_ k_ => XS.iinc hA hx rfl (hb hq d1_68) rfl (l' := #[.val (.ref a1), .val (.int (Int32.ofNat n)), .val (.int (Int32.ofNat L)), .val (.int (Int32.ofNat (own_N n i))), .val (.int ((Int32.ofNat i) + (1 : Int32)))]) rfl k_) ?_
        show OFin _ _ _ _ _ _ _ _ T11 (mkF m 71 #[.val (.ref a1), .val (.int (Int32.ofNat n)), .val (.int (Int32.ofNat L)), .val (.int (Int32.ofNat (own_N n i))), .val (.int ((Int32.ofNat i) + (1 : Int32)))] [])
        rw [own_succ i (by omega)]
        show OFin _ _ _ _ _ _ _ _ T11 (mkF m 71 #[.val (.ref a1), .val (.int (Int32.ofNat n)), .val (.int (Int32.ofNat L)), .val (.int (Int32.ofNat (own_N n i))), .val (.int (Int32.ofNat (i + 1)))] [])
        refine X11.step (fun hA hx hq t_ k_ => XS.goto hA hx rfl (pc0 := 71) (pc' := 40) rfl (hb hq d1_71) (by decide) (by decide) k_) ?_
        show OFin _ _ _ _ _ _ _ _ T11 (mkF m 40 #[.val (.ref a1), .val (.int (Int32.ofNat n)), .val (.int (Int32.ofNat L)), .val (.int (Int32.ofNat (own_N n i))), .val (.int (Int32.ofNat (i + 1)))] [])
        refine ih (i + 1) (sl + own_N n i) (fun j => if j = i then b9 else ad j) T11 h10 (by omega) (fun q => ?_) (by omega) (X11.more (by show 1 + i + 0 + 1 ≤ 1 + (i + 1); omega) (by show sl + 0 + own_N n i ≤ sl + own_N n i; omega)) ⟨i1', i2', V1.congr fun j hj => ?_, (i4.ext E9).wr W10, (i5.ext E9).wr W10 (Or.inr hlv), fun j hj => ?_⟩
        · have := hLj i q
          rw [own_Nstep]; omega
        · by_cases c : j = i
          · have c2 : j < i + 1 := by omega
            simp only [c, if_true]
            rw [if_pos (by omega)]
          · by_cases d : j < i
            · have d2 : j < i + 1 := by omega
              simp only [c, d, d2, if_true, if_false]
            · have d2 : ¬ j < i + 1 := by omega
              simp only [c, d, d2, if_false]
        · by_cases c : j = i
          · subst c
            simp only [if_true]
            refine ⟨U1, by rw [gb9]; exact Nat.le_trans Z0 i5.1, n1, n2, fun j2 hj2 ne => ?_⟩
            have c2 : j2 ≠ j := Ne.symm ne
            simp only [c2, if_false]
            exact nb1 _ (i6 j2 (by omega)).1.lt
          · have hj' : j < i := by omega
            obtain ⟨k1, k2, k3, k4, k5⟩ := i6 j hj'
            simp only [c, if_false]
            refine ⟨(k1.ext E9).other W10 k3, k2, k3, k4, fun j2 hj2 ne => ?_⟩
            by_cases c2 : j2 = i
            · simp only [c2, if_true]
              exact Ne.symm (nb1 _ k1.lt)
            · simp only [c2, if_false]
              exact k5 j2 (by omega) ne
    exact loop L 0 6 (fun _ => 0) T6 h6 (by omega) (fun _ => by have := own_Npos n hp 0; omega) (by omega) (X6.more (by decide) (by decide)) ⟨E0, F0, V0.congr fun j hj => by simp, C0, K0, fun j hj => by omega⟩
  have loop1 : ∀ (k i : Nat) (T : State), i + k = 3 → (∀ j, j < i → 1 < own_N n j) → OAt n0 Z (⟨"com/example/interleave/interleave/NodeSet", "<init>", "(I)V"⟩ : MethodName) prog_43_method_1_code 5 none p l e ({ frames := 2, cells := 7, slots := 16390, locals := 27 } : Room) s m #[(.ref a1), (.int (Int32.ofNat n))] below meth c T h0 0 0 → OFin n0 p e s below (fun v h => v = none ∧ Keep h0 h [a1] ∧ ∃ lv L ad N, OS Z h n0 a1 lv L ad N (fun _ => False) ∧ ONum n L N) ({ frames := 2, cells := 7, slots := 16390, locals := 27 } : Room).cells ({ frames := 2, cells := 7, slots := 16390, locals := 27 } : Room).slots T (mkF m 11 #[.val (.ref a1), .val (.int (Int32.ofNat n)), .val (.int (Int32.ofNat (i + 1))), .val (.int (Int32.ofNat (own_N n i))), .unset] []) := by
    intro k
    induction k with
    | zero =>
      intro i T hik hj X
      obtain rfl : i = 3 := by omega
      refine X.step (fun hA hx hq t_ k_ => XS.iloadN hA hx rfl (hb hq d1_11) rfl k_) ?_
      show OFin _ _ _ _ _ _ _ _ T (mkF m 12 #[.val (.ref a1), .val (.int (Int32.ofNat n)), .val (.int (Int32.ofNat (3 + 1))), .val (.int (Int32.ofNat (own_N n 3))), .unset] [(.int (Int32.ofNat (own_N n 3)))])
      refine X.step (fun hA hx hq t_ k_ => XS.iconst hA hx rfl (hb hq d1_12) k_) ?_
      show OFin _ _ _ _ _ _ _ _ T (mkF m 13 #[.val (.ref a1), .val (.int (Int32.ofNat n)), .val (.int (Int32.ofNat (3 + 1))), .val (.int (Int32.ofNat (own_N n 3))), .unset] [(.int (1 : Int32)), (.int (Int32.ofNat (own_N n 3)))])
      refine X.step (fun hA hx hq t_ k_ => XS.icmpYes hA hx rfl (pc0 := 13) (pc' := 27) rfl (hb hq d1_13) rfl (flt (fun c => by have c' : Int32.ofNat 1 < (Int32.ofNat (own_N n 3)) := c; rw [own_N3 n hp hn5, own_lt32 1 1 (by decide) (by decide)] at c'; omega)).2.2.2 (by decide) (by decide) k_) ?_
      show OFin _ _ _ _ _ _ _ _ T (mkF m 27 #[.val (.ref a1), .val (.int (Int32.ofNat n)), .val (.int (Int32.ofNat (3 + 1))), .val (.int (Int32.ofNat (own_N n 3))), .unset] [])
      exact part2 4 _ T (by omega) (by omega) (own_N3 n hp hn5) (fun j q => hj j (by omega)) X
    | succ k ih =>
      intro i T hik hj X
      have hNp := own_Npos n hp i
      have hNl := own_Nle n hn5 i
      by_cases c1 : own_N n i = 1
      · refine X.step (fun hA hx hq t_ k_ => XS.iloadN hA hx rfl (hb hq d1_11) rfl k_) ?_
        show OFin _ _ _ _ _ _ _ _ T (mkF m 12 #[.val (.ref a1), .val (.int (Int32.ofNat n)), .val (.int (Int32.ofNat (i + 1))), .val (.int (Int32.ofNat (own_N n i))), .unset] [(.int (Int32.ofNat (own_N n i)))])
        refine X.step (fun hA hx hq t_ k_ => XS.iconst hA hx rfl (hb hq d1_12) k_) ?_
        show OFin _ _ _ _ _ _ _ _ T (mkF m 13 #[.val (.ref a1), .val (.int (Int32.ofNat n)), .val (.int (Int32.ofNat (i + 1))), .val (.int (Int32.ofNat (own_N n i))), .unset] [(.int (1 : Int32)), (.int (Int32.ofNat (own_N n i)))])
        refine X.step (fun hA hx hq t_ k_ => XS.icmpYes hA hx rfl (pc0 := 13) (pc' := 27) rfl (hb hq d1_13) rfl (flt (fun c => by have c' : Int32.ofNat 1 < (Int32.ofNat (own_N n i)) := c; rw [c1, own_lt32 1 1 (by decide) (by decide)] at c'; omega)).2.2.2 (by decide) (by decide) k_) ?_
        show OFin _ _ _ _ _ _ _ _ T (mkF m 27 #[.val (.ref a1), .val (.int (Int32.ofNat n)), .val (.int (Int32.ofNat (i + 1))), .val (.int (Int32.ofNat (own_N n i))), .unset] [])
        exact part2 (i + 1) _ T (by omega) (by omega) c1 (fun j q => hj j (by omega)) X
      · refine X.step (fun hA hx hq t_ k_ => XS.iloadN hA hx rfl (hb hq d1_11) rfl k_) ?_
        show OFin _ _ _ _ _ _ _ _ T (mkF m 12 #[.val (.ref a1), .val (.int (Int32.ofNat n)), .val (.int (Int32.ofNat (i + 1))), .val (.int (Int32.ofNat (own_N n i))), .unset] [(.int (Int32.ofNat (own_N n i)))])
        refine X.step (fun hA hx hq t_ k_ => XS.iconst hA hx rfl (hb hq d1_12) k_) ?_
        show OFin _ _ _ _ _ _ _ _ T (mkF m 13 #[.val (.ref a1), .val (.int (Int32.ofNat n)), .val (.int (Int32.ofNat (i + 1))), .val (.int (Int32.ofNat (own_N n i))), .unset] [(.int (1 : Int32)), (.int (Int32.ofNat (own_N n i)))])
        refine X.step (fun hA hx hq t_ k_ => XS.icmpNo hA hx rfl (hb hq d1_13) rfl (tlt ((own_lt32 1 _ (by decide) (by omega)).mpr (show 1 < own_N n i by omega))).2.2.2 k_) ?_
        show OFin _ _ _ _ _ _ _ _ T (mkF m 16 #[.val (.ref a1), .val (.int (Int32.ofNat n)), .val (.int (Int32.ofNat (i + 1))), .val (.int (Int32.ofNat (own_N n i))), .unset] [])
        refine X.step (fun hA hx hq t_ k_ => XS.iinc hA hx rfl (hb hq d1_16) rfl (l' := #[.val (.ref a1), .val (.int (Int32.ofNat n)), .val (.int ((Int32.ofNat (i + 1)) + (1 : Int32))), .val (.int (Int32.ofNat (own_N n i))), .unset]) rfl k_) ?_
        show OFin _ _ _ _ _ _ _ _ T (mkF m 19 #[.val (.ref a1), .val (.int (Int32.ofNat n)), .val (.int ((Int32.ofNat (i + 1)) + (1 : Int32))), .val (.int (Int32.ofNat (own_N n i))), .unset] [])
        rw [own_succ (i + 1) (by omega)]
        show OFin _ _ _ _ _ _ _ _ T (mkF m 19 #[.val (.ref a1), .val (.int (Int32.ofNat n)), .val (.int (Int32.ofNat (i + 1 + 1))), .val (.int (Int32.ofNat (own_N n i))), .unset] [])
        refine X.step (fun hA hx hq t_ k_ => XS.iloadN hA hx rfl (hb hq d1_19) rfl k_) ?_
        show OFin _ _ _ _ _ _ _ _ T (mkF m 20 #[.val (.ref a1), .val (.int (Int32.ofNat n)), .val (.int (Int32.ofNat (i + 1 + 1))), .val (.int (Int32.ofNat (own_N n i))), .unset] [(.int (Int32.ofNat (own_N n i)))])
        refine X.callS (y' := (⟨"com/example/interleave/interleave/NodeSet", "wordsFor", "(I)I"⟩ : MethodName)) (hw _ (List.mem_of_getElem? (i := 11) rfl)) (hw _ (List.mem_of_getElem? (i := 12) rfl)) (hw _ (List.mem_of_getElem? (i := 4) rfl)) (hw _ (List.mem_of_getElem? (i := 13) rfl)) (by decide) (argsL := [(.int (Int32.ofNat (own_N n i)))]) (rest := []) (rm2 l Z a0 hw (own_N n i) h0 n0 hNp (by omega)) (g := (mkF m 20 #[.val (.ref a1), .val (.int (Int32.ofNat n)), .val (.int (Int32.ofNat (i + 1 + 1))), .val (.int (Int32.ofNat (own_N n i))), .unset] [(.int (Int32.ofNat (own_N n i)))])) rfl rfl pd_pIr_I rfl rfl (W := 0) (by show 2 * 0 + _ ≤ _; exact Nat.le_of_eq rfl) d1_20 (by decide) (by decide) (by decide) (by decide) ?_
        intro v12 T12 h12 X12 q12
        obtain ⟨rfl, rfl⟩ := q12
        show OFin _ _ _ _ _ _ _ _ T12 (mkF m 23 #[.val (.ref a1), .val (.int (Int32.ofNat n)), .val (.int (Int32.ofNat (i + 1 + 1))), .val (.int (Int32.ofNat (own_N n i))), .unset] [(.int (Int32.ofNat (own_N n (i + 1))))])
        refine X12.step (fun hA hx hq t_ k_ => XS.istoreN hA hx rfl (hb hq d1_23) rfl (l' := #[.val (.ref a1), .val (.int (Int32.ofNat n)), .val (.int (Int32.ofNat (i + 1 + 1))), .val (.int (Int32.ofNat (own_N n (i + 1)))), .unset]) rfl k_) ?_
        show OFin _ _ _ _ _ _ _ _ T12 (mkF m 24 #[.val (.ref a1), .val (.int (Int32.ofNat n)), .val (.int (Int32.ofNat (i + 1 + 1))), .val (.int (Int32.ofNat (own_N n (i + 1)))), .unset] [])
        refine X12.step (fun hA hx hq t_ k_ => XS.goto hA hx rfl (pc0 := 24) (pc' := 11) rfl (hb hq d1_24) (by decide) (by decide) k_) ?_
        show OFin _ _ _ _ _ _ _ _ T12 (mkF m 11 #[.val (.ref a1), .val (.int (Int32.ofNat n)), .val (.int (Int32.ofNat (i + 1 + 1))), .val (.int (Int32.ofNat (own_N n (i + 1)))), .unset] [])
        exact ih (i + 1) T12 (by omega) (fun j q => by by_cases d : j = i; (subst d; omega); exact hj j (by omega)) X12
  refine X0.step (fun hA hx hq t_ k_ => XS.aloadN hA hx rfl (hb hq d1_0) rfl rfl k_) ?_
  show OFin _ _ _ _ _ _ _ _ T0 (mkF m 1 #[.val (.ref a1), .val (.int (Int32.ofNat n)), .unset, .unset, .unset] [(.ref a1)])
  refine X0.initO (hw _ (List.mem_of_getElem? (i := 8) rfl)) (hw _ (List.mem_of_getElem? (i := 9) rfl)) (hw _ (List.mem_of_getElem? (i := 10) rfl)) (g := (mkF m 1 #[.val (.ref a1), .val (.int (Int32.ofNat n)), .unset, .unset, .unset] [(.ref a1)])) rfl rfl rfl d1_1 (by decide) (W := 0) (by show 2 * 0 + _ ≤ _; exact Nat.le_of_eq rfl) (by decide) ?_
  intro T13 X13
  show OFin _ _ _ _ _ _ _ _ T13 (mkF m 4 #[.val (.ref a1), .val (.int (Int32.ofNat n)), .unset, .unset, .unset] [])
  refine X13.step (fun hA hx hq t_ k_ => XS.iconst hA hx rfl (hb hq d1_4) k_) ?_
  show OFin _ _ _ _ _ _ _ _ T13 (mkF m 5 #[.val (.ref a1), .val (.int (Int32.ofNat n)), .unset, .unset, .unset] [(.int (1 : Int32))])
  refine X13.step (fun hA hx hq t_ k_ => XS.istoreN hA hx rfl (hb hq d1_5) rfl (l' := #[.val (.ref a1), .val (.int (Int32.ofNat n)), .val (.int (1 : Int32)), .unset, .unset]) rfl k_) ?_
  show OFin _ _ _ _ _ _ _ _ T13 (mkF m 6 #[.val (.ref a1), .val (.int (Int32.ofNat n)), .val (.int (1 : Int32)), .unset, .unset] [])
  refine X13.step (fun hA hx hq t_ k_ => XS.iloadN hA hx rfl (hb hq d1_6) rfl k_) ?_
  show OFin _ _ _ _ _ _ _ _ T13 (mkF m 7 #[.val (.ref a1), .val (.int (Int32.ofNat n)), .val (.int (1 : Int32)), .unset, .unset] [(.int (Int32.ofNat n))])
  refine X13.callS (y' := (⟨"com/example/interleave/interleave/NodeSet", "wordsFor", "(I)I"⟩ : MethodName)) (hw _ (List.mem_of_getElem? (i := 11) rfl)) (hw _ (List.mem_of_getElem? (i := 12) rfl)) (hw _ (List.mem_of_getElem? (i := 4) rfl)) (hw _ (List.mem_of_getElem? (i := 13) rfl)) (by decide) (argsL := [(.int (Int32.ofNat n))]) (rest := []) (rm2 l Z a0 hw n h0 n0 hp (by omega)) (g := (mkF m 7 #[.val (.ref a1), .val (.int (Int32.ofNat n)), .val (.int (1 : Int32)), .unset, .unset] [(.int (Int32.ofNat n))])) rfl rfl pd_pIr_I rfl rfl (W := 0) (by show 2 * 0 + _ ≤ _; exact Nat.le_of_eq rfl) d1_7 (by decide) (by decide) (by decide) (by decide) ?_
  intro v14 T14 h14 X14 q14
  obtain ⟨rfl, rfl⟩ := q14
  show OFin _ _ _ _ _ _ _ _ T14 (mkF m 10 #[.val (.ref a1), .val (.int (Int32.ofNat n)), .val (.int (1 : Int32)), .unset, .unset] [(.int (Int32.ofNat (own_N n 0)))])
  refine X14.step (fun hA hx hq t_ k_ => XS.istoreN hA hx rfl (hb hq d1_10) rfl (l' := #[.val (.ref a1), .val (.int (Int32.ofNat n)), .val (.int (1 : Int32)), .val (.int (Int32.ofNat (own_N n 0))), .unset]) rfl k_) ?_
  show OFin _ _ _ _ _ _ _ _ T14 (mkF m 11 #[.val (.ref a1), .val (.int (Int32.ofNat n)), .val (.int (1 : Int32)), .val (.int (Int32.ofNat (own_N n 0))), .unset] [])
  exact loop1 3 0 T14 rfl (fun j q => by omega) X14
theorem d5_14 : decode prog_43_method_2_code 14 = .ok (.iload 5, 2) := by decide +kernel
theorem d5_16 : decode prog_43_method_2_code 16 = .ok (.iload 4, 2) := by decide +kernel
theorem d5_18 : decode prog_43_method_2_code 18 = .ok (.if_icmp .ge 36, 3) := by decide +kernel
theorem d5_54 : decode prog_43_method_2_code 54 = .ok (.return_, 1) := by decide +kernel
theorem d5_21 : decode prog_43_method_2_code 21 = .ok (.aload_n 3, 1) := by decide +kernel
theorem d5_22 : decode prog_43_method_2_code 22 = .ok (.iload 5, 2) := by decide +kernel
theorem d5_24 : decode prog_43_method_2_code 24 = .ok (.aaload, 1) := by decide +kernel
theorem d5_25 : decode prog_43_method_2_code 25 = .ok (.astore 6, 2) := by decide +kernel
theorem d5_27 : decode prog_43_method_2_code 27 = .ok (.aload 6, 2) := by decide +kernel
theorem d5_29 : decode prog_43_method_2_code 29 = .ok (.iload_n 2, 1) := by decide +kernel
theorem d5_30 : decode prog_43_method_2_code 30 = .ok (.bipush 6, 2) := by decide +kernel
theorem d5_32 : decode prog_43_method_2_code 32 = .ok (.iushr, 1) := by decide +kernel
theorem d5_33 : decode prog_43_method_2_code 33 = .ok (.dup2, 1) := by decide +kernel
theorem d5_34 : decode prog_43_method_2_code 34 = .ok (.laload, 1) := by decide +kernel
theorem d5_35 : decode prog_43_method_2_code 35 = .ok (.lconst 1, 1) := by decide +kernel
theorem d5_36 : decode prog_43_method_2_code 36 = .ok (.iload_n 2, 1) := by decide +kernel
theorem d5_37 : decode prog_43_method_2_code 37 = .ok (.bipush 63, 2) := by decide +kernel
theorem d5_39 : decode prog_43_method_2_code 39 = .ok (.iand, 1) := by decide +kernel
theorem d5_40 : decode prog_43_method_2_code 40 = .ok (.lshl, 1) := by decide +kernel
theorem d5_41 : decode prog_43_method_2_code 41 = .ok (.lor, 1) := by decide +kernel
theorem d5_42 : decode prog_43_method_2_code 42 = .ok (.lastore, 1) := by decide +kernel
theorem d5_43 : decode prog_43_method_2_code 43 = .ok (.iload_n 2, 1) := by decide +kernel
theorem d5_44 : decode prog_43_method_2_code 44 = .ok (.bipush 6, 2) := by decide +kernel
theorem d5_46 : decode prog_43_method_2_code 46 = .ok (.iushr, 1) := by decide +kernel
theorem d5_47 : decode prog_43_method_2_code 47 = .ok (.istore_n 2, 1) := by decide +kernel
theorem d5_48 : decode prog_43_method_2_code 48 = .ok (.iinc 5 1, 3) := by decide +kernel
theorem d5_51 : decode prog_43_method_2_code 51 = .ok (.goto (-37), 3) := by decide +kernel
theorem d5_0 : decode prog_43_method_2_code 0 = .ok (.iload_n 1, 1) := by decide +kernel
theorem d5_1 : decode prog_43_method_2_code 1 = .ok (.istore_n 2, 1) := by decide +kernel
theorem d5_2 : decode prog_43_method_2_code 2 = .ok (.aload_n 0, 1) := by decide +kernel
theorem d5_3 : decode prog_43_method_2_code 3 = .ok (.getfield 15, 3) := by decide +kernel
theorem d5_6 : decode prog_43_method_2_code 6 = .ok (.astore_n 3, 1) := by decide +kernel
theorem d5_7 : decode prog_43_method_2_code 7 = .ok (.aload_n 3, 1) := by decide +kernel
theorem d5_8 : decode prog_43_method_2_code 8 = .ok (.arraylength, 1) := by decide +kernel
theorem d5_9 : decode prog_43_method_2_code 9 = .ok (.istore 4, 2) := by decide +kernel
theorem d5_11 : decode prog_43_method_2_code 11 = .ok (.iconst 0, 1) := by decide +kernel
theorem d5_12 : decode prog_43_method_2_code 12 = .ok (.istore 5, 2) := by decide +kernel
set_option maxRecDepth 65536 in
set_option maxHeartbeats 40000000 in
theorem rm4 (l : Launch) (Z : State) (a0 : Array Value) (hw : ∀ d ∈ tables_1, d.before a0 Z = true) (a1 lv : Addr) (L : Nat) (ad : Nat → Addr) (N : Nat → Nat) (S : Nat → Prop) (n x : Nat) (h0 : Heap) (n0 : Nat) (D : OS Z h0 n0 a1 lv L ad N S) (hN : ONum n L N) (hS : ∀ s, S s → s < n) (hn : n ≤ 524288) (hx : x < n) :
    OMeets l Z (⟨"com/example/interleave/interleave/NodeSet", "add", "(I)V"⟩ : MethodName) [] prog_43_method_2_code 7 none ({ frames := 0, cells := 0, slots := 0, locals := 0 } : Room) #[(.ref a1), (.int (Int32.ofNat x))] h0 n0 (fun v h => v = none ∧ OS Z h n0 a1 lv L ad N (fun s => S s ∨ s = x)) := by
  refine o_enter (Z := Z) (plainFor_of_name pn_com_example_interleave_interleave_NodeSet) ?_
  intro p e s m below meth c T0 X0
  refine OFin.cast (g' := (mkF m 0 #[.val (.ref a1), .val (.int (Int32.ofNat x)), .unset, .unset, .unset, .unset, .unset] [])) (by first | (simp [entryFrame, mkF, argsToLocals, Value.category]; done) | rfl) ?_
  obtain ⟨W0, D0, O0⟩ := D
  obtain ⟨hL0, hL6, hL1, hNb, hNx⟩ := id hN
  have loop : ∀ (k i : Nat) (T : State) (h : Heap) (s6 : Slot), i + k = L → One s6 → OAt n0 Z (⟨"com/example/interleave/interleave/NodeSet", "add", "(I)V"⟩ : MethodName) prog_43_method_2_code 7 none p l e ({ frames := 0, cells := 0, slots := 0, locals := 0 } : Room) s m #[(.ref a1), (.int (Int32.ofNat x))] below meth c T h 0 0 → (∃ W, OSet Z h n0 a1 lv L ad N W ∧ (∀ i', i' < i → LvOk (fun s => S s ∨ s = x) i' (N i') (W i')) ∧ (∀ i', i ≤ i' → i' < L → LvOk S i' (N i') (W i'))) → OFin n0 p e s below (fun v h => v = none ∧ OS Z h n0 a1 lv L ad N (fun s => S s ∨ s = x)) ({ frames := 0, cells := 0, slots := 0, locals := 0 } : Room).cells ({ frames := 0, cells := 0, slots := 0, locals := 0 } : Room).slots T (mkF m 14 #[.val (.ref a1), .val (.int (Int32.ofNat x)), .val (.int (Int32.ofNat (x / 64 ^ i))), .val (.ref lv), .val (.int (Int32.ofNat L)), .val (.int (Int32.ofNat i)), s6] []) := by
    intro k
    induction k with
    | zero =>
      intro i T h s6 hik h6 X ⟨W, D, lo, hi⟩
      have hiL : i = L := by omega
      refine X.step (fun hA hx hq t_ k_ => XS.iload hA hx rfl (hb hq d5_14) rfl k_) ?_
      show OFin _ _ _ _ _ _ _ _ T (mkF m 16 #[.val (.ref a1), .val (.int (Int32.ofNat x)), .val (.int (Int32.ofNat (x / 64 ^ i))), .val (.ref lv), .val (.int (Int32.ofNat L)), .val (.int (Int32.ofNat i)), s6] [(.int (Int32.ofNat i))])
      refine X.step (fun hA hx hq t_ k_ => XS.iload hA hx rfl (hb hq d5_16) rfl k_) ?_
      show OFin _ _ _ _ _ _ _ _ T (mkF m 18 #[.val (.ref a1), .val (.int (Int32.ofNat x)), .val (.int (Int32.ofNat (x / 64 ^ i))), .val (.ref lv), .val (.int (Int32.ofNat L)), .val (.int (Int32.ofNat i)), s6] [(.int (Int32.ofNat L)), (.int (Int32.ofNat i))])
      refine X.step (fun hA hx hq t_ k_ => XS.icmpYes hA hx rfl (pc0 := 18) (pc' := 54) rfl (hb hq d5_18) rfl (flt (fun c => by rw [own_lt32 i L (by omega) (by omega)] at c; omega)).2.1 (by decide) (by decide) k_) ?_
      show OFin _ _ _ _ _ _ _ _ T (mkF m 54 #[.val (.ref a1), .val (.int (Int32.ofNat x)), .val (.int (Int32.ofNat (x / 64 ^ i))), .val (.ref lv), .val (.int (Int32.ofNat L)), .val (.int (Int32.ofNat i)), s6] [])
      exact X.retV d5_54 (by decide) (by decide) (⟨rfl, W, D, fun i2 q => lo i2 (by omega)⟩)
    | succ k ih =>
      intro i T h s6 hik h6 X ⟨W, D, lo, hi⟩
      have hlt : i < L := by omega
      obtain ⟨De, Df, ⟨Dl, Da⟩, Dn⟩ := id D
      obtain ⟨cv, Av, Sv, Hv⟩ := id Dl
      obtain ⟨ci, Ai, Si, Hi⟩ := id (Da i hlt)
      have hxi : x / 64 ^ i < 2 ^ 31 := own_lt64 x i (by omega)
      have hxj : x / 64 ^ (i + 1) < N i := hNx i hlt x hx
      have hNi := hNb i hlt
      refine X.step (fun hA hx hq t_ k_ => XS.iload hA hx rfl (hb hq d5_14) rfl k_) ?_
      show OFin _ _ _ _ _ _ _ _ T (mkF m 16 #[.val (.ref a1), .val (.int (Int32.ofNat x)), .val (.int (Int32.ofNat (x / 64 ^ i))), .val (.ref lv), .val (.int (Int32.ofNat L)), .val (.int (Int32.ofNat i)), s6] [(.int (Int32.ofNat i))])
      refine X.step (fun hA hx hq t_ k_ => XS.iload hA hx rfl (hb hq d5_16) rfl k_) ?_
      show OFin _ _ _ _ _ _ _ _ T (mkF m 18 #[.val (.ref a1), .val (.int (Int32.ofNat x)), .val (.int (Int32.ofNat (x / 64 ^ i))), .val (.ref lv), .val (.int (Int32.ofNat L)), .val (.int (Int32.ofNat i)), s6] [(.int (Int32.ofNat L)), (.int (Int32.ofNat i))])
      refine X.step (fun hA hx hq t_ k_ => XS.icmpNo hA hx rfl (hb hq d5_18) rfl (tlt ((own_lt32 i L (by omega) (by omega)).mpr hlt)).2.1 k_) ?_
      show OFin _ _ _ _ _ _ _ _ T (mkF m 21 #[.val (.ref a1), .val (.int (Int32.ofNat x)), .val (.int (Int32.ofNat (x / 64 ^ i))), .val (.ref lv), .val (.int (Int32.ofNat L)), .val (.int (Int32.ofNat i)), s6] [])
      refine X.step (fun hA hx hq t_ k_ => XS.aloadN hA hx rfl (hb hq d5_21) rfl rfl k_) ?_
      show OFin _ _ _ _ _ _ _ _ T (mkF m 22 #[.val (.ref a1), .val (.int (Int32.ofNat x)), .val (.int (Int32.ofNat (x / 64 ^ i))), .val (.ref lv), .val (.int (Int32.ofNat L)), .val (.int (Int32.ofNat i)), s6] [(.ref lv)])
      refine X.step (fun hA hx hq t_ k_ => XS.iload hA hx rfl (hb hq d5_22) rfl k_) ?_
      show OFin _ _ _ _ _ _ _ _ T (mkF m 24 #[.val (.ref a1), .val (.int (Int32.ofNat x)), .val (.int (Int32.ofNat (x / 64 ^ i))), .val (.ref lv), .val (.int (Int32.ofNat L)), .val (.int (Int32.ofNat i)), s6] [(.int (Int32.ofNat i)), (.ref lv)])
      refine X.aload0 Av (v := (.ref (ad i))) (o_in Sv (by rw [own_i i (by omega)]; omega) (by rw [own_i i (by omega)]; omega)) (by rw [own_iN i (by omega)]; exact Hv i hlt) (g := (mkF m 24 #[.val (.ref a1), .val (.int (Int32.ofNat x)), .val (.int (Int32.ofNat (x / 64 ^ i))), .val (.ref lv), .val (.int (Int32.ofNat L)), .val (.int (Int32.ofNat i)), s6] [(.int (Int32.ofNat i)), (.ref lv)])) rfl rfl (Or.inr (Or.inr (Or.inr (Or.inr (⟨rfl, rfl⟩))))) d5_24 ?_
      show OFin _ _ _ _ _ _ _ _ T (mkF m 25 #[.val (.ref a1), .val (.int (Int32.ofNat x)), .val (.int (Int32.ofNat (x / 64 ^ i))), .val (.ref lv), .val (.int (Int32.ofNat L)), .val (.int (Int32.ofNat i)), s6] [(.ref (ad i))])
      refine X.step (fun hA hx hq t_ k_ => XS.astore hA hx rfl (hb hq d5_25) rfl rfl (l' := #[.val (.ref a1), .val (.int (Int32.ofNat x)), .val (.int (Int32.ofNat (x / 64 ^ i))), .val (.ref lv), .val (.int (Int32.ofNat L)), .val (.int (Int32.ofNat i)), .val (.ref (ad i))]) (own_st6 h6) k_) ?_
      show OFin _ _ _ _ _ _ _ _ T (mkF m 27 #[.val (.ref a1), .val (.int (Int32.ofNat x)), .val (.int (Int32.ofNat (x / 64 ^ i))), .val (.ref lv), .val (.int (Int32.ofNat L)), .val (.int (Int32.ofNat i)), .val (.ref (ad i))] [])
      refine X.step (fun hA hx hq t_ k_ => XS.aload hA hx rfl (hb hq d5_27) rfl rfl k_) ?_
      show OFin _ _ _ _ _ _ _ _ T (mkF m 29 #[.val (.ref a1), .val (.int (Int32.ofNat x)), .val (.int (Int32.ofNat (x / 64 ^ i))), .val (.ref lv), .val (.int (Int32.ofNat L)), .val (.int (Int32.ofNat i)), .val (.ref (ad i))] [(.ref (ad i))])
      refine X.step (fun hA hx hq t_ k_ => XS.iloadN hA hx rfl (hb hq d5_29) rfl k_) ?_
      show OFin _ _ _ _ _ _ _ _ T (mkF m 30 #[.val (.ref a1), .val (.int (Int32.ofNat x)), .val (.int (Int32.ofNat (x / 64 ^ i))), .val (.ref lv), .val (.int (Int32.ofNat L)), .val (.int (Int32.ofNat i)), .val (.ref (ad i))] [(.int (Int32.ofNat (x / 64 ^ i))), (.ref (ad i))])
      refine X.step (fun hA hx hq t_ k_ => XS.bipush hA hx rfl (hb hq d5_30) k_) ?_
      show OFin _ _ _ _ _ _ _ _ T (mkF m 32 #[.val (.ref a1), .val (.int (Int32.ofNat x)), .val (.int (Int32.ofNat (x / 64 ^ i))), .val (.ref lv), .val (.int (Int32.ofNat L)), .val (.int (Int32.ofNat i)), .val (.ref (ad i))] [(.int (6 : Int32)), (.int (Int32.ofNat (x / 64 ^ i))), (.ref (ad i))])
      refine X.step (fun hA hx hq t_ k_ => XS.iushr hA hx rfl (hb hq d5_32) rfl k_) ?_
      show OFin _ _ _ _ _ _ _ _ T (mkF m 33 #[.val (.ref a1), .val (.int (Int32.ofNat x)), .val (.int (Int32.ofNat (x / 64 ^ i))), .val (.ref lv), .val (.int (Int32.ofNat L)), .val (.int (Int32.ofNat i)), .val (.ref (ad i))] [(.int (((Int32.ofNat (x / 64 ^ i)).toUInt32 >>> ((6 : Int32) &&& 31).toUInt32).toInt32)), (.ref (ad i))])
      rw [own_ush6 _ hxi, ← own_div]
      show OFin _ _ _ _ _ _ _ _ T (mkF m 33 #[.val (.ref a1), .val (.int (Int32.ofNat x)), .val (.int (Int32.ofNat (x / 64 ^ i))), .val (.ref lv), .val (.int (Int32.ofNat L)), .val (.int (Int32.ofNat i)), .val (.ref (ad i))] [(.int (Int32.ofNat (x / 64 ^ (i + 1)))), (.ref (ad i))])
      refine X.step (fun hA hx hq t_ k_ => Jvm.Free.XT.dup2 hA hx rfl (hb hq d5_33) rfl rfl rfl k_) ?_
      show OFin _ _ _ _ _ _ _ _ T (mkF m 34 #[.val (.ref a1), .val (.int (Int32.ofNat x)), .val (.int (Int32.ofNat (x / 64 ^ i))), .val (.ref lv), .val (.int (Int32.ofNat L)), .val (.int (Int32.ofNat i)), .val (.ref (ad i))] [(.int (Int32.ofNat (x / 64 ^ (i + 1)))), (.ref (ad i)), (.int (Int32.ofNat (x / 64 ^ (i + 1)))), (.ref (ad i))])
      refine X.aload0 Ai (v := (.long (W i (x / 64 ^ (i + 1))))) (own_inN Si hxj hNi.2) (by rw [own_iN _ (by omega)]; exact Hi _ hxj) (g := (mkF m 34 #[.val (.ref a1), .val (.int (Int32.ofNat x)), .val (.int (Int32.ofNat (x / 64 ^ i))), .val (.ref lv), .val (.int (Int32.ofNat L)), .val (.int (Int32.ofNat i)), .val (.ref (ad i))] [(.int (Int32.ofNat (x / 64 ^ (i + 1)))), (.ref (ad i)), (.int (Int32.ofNat (x / 64 ^ (i + 1)))), (.ref (ad i))])) rfl rfl (Or.inr (Or.inl ⟨rfl, rfl⟩)) d5_34 ?_
      show OFin _ _ _ _ _ _ _ _ T (mkF m 35 #[.val (.ref a1), .val (.int (Int32.ofNat x)), .val (.int (Int32.ofNat (x / 64 ^ i))), .val (.ref lv), .val (.int (Int32.ofNat L)), .val (.int (Int32.ofNat i)), .val (.ref (ad i))] [(.long (W i (x / 64 ^ (i + 1)))), (.int (Int32.ofNat (x / 64 ^ (i + 1)))), (.ref (ad i))])
      refine X.step (fun hA hx hq t_ k_ => XS.lconst hA hx rfl (hb hq d5_35) k_) ?_
      show OFin _ _ _ _ _ _ _ _ T (mkF m 36 #[.val (.ref a1), .val (.int (Int32.ofNat x)), .val (.int (Int32.ofNat (x / 64 ^ i))), .val (.ref lv), .val (.int (Int32.ofNat L)), .val (.int (Int32.ofNat i)), .val (.ref (ad i))] [(.long (1 : Int64)), (.long (W i (x / 64 ^ (i + 1)))), (.int (Int32.ofNat (x / 64 ^ (i + 1)))), (.ref (ad i))])
      refine X.step (fun hA hx hq t_ k_ => XS.iloadN hA hx rfl (hb hq d5_36) rfl k_) ?_
      show OFin _ _ _ _ _ _ _ _ T (mkF m 37 #[.val (.ref a1), .val (.int (Int32.ofNat x)), .val (.int (Int32.ofNat (x / 64 ^ i))), .val (.ref lv), .val (.int (Int32.ofNat L)), .val (.int (Int32.ofNat i)), .val (.ref (ad i))] [(.int (Int32.ofNat (x / 64 ^ i))), (.long (1 : Int64)), (.long (W i (x / 64 ^ (i + 1)))), (.int (Int32.ofNat (x / 64 ^ (i + 1)))), (.ref (ad i))])
      refine X.step (fun hA hx hq t_ k_ => XS.bipush hA hx rfl (hb hq d5_37) k_) ?_
      show OFin _ _ _ _ _ _ _ _ T (mkF m 39 #[.val (.ref a1), .val (.int (Int32.ofNat x)), .val (.int (Int32.ofNat (x / 64 ^ i))), .val (.ref lv), .val (.int (Int32.ofNat L)), .val (.int (Int32.ofNat i)), .val (.ref (ad i))] [(.int (63 : Int32)), (.int (Int32.ofNat (x / 64 ^ i))), (.long (1 : Int64)), (.long (W i (x / 64 ^ (i + 1)))), (.int (Int32.ofNat (x / 64 ^ (i + 1)))), (.ref (ad i))])
      refine X.step (fun hA hx hq t_ k_ => XS.iand hA hx rfl (hb hq d5_39) rfl k_) ?_
      show OFin _ _ _ _ _ _ _ _ T (mkF m 40 #[.val (.ref a1), .val (.int (Int32.ofNat x)), .val (.int (Int32.ofNat (x / 64 ^ i))), .val (.ref lv), .val (.int (Int32.ofNat L)), .val (.int (Int32.ofNat i)), .val (.ref (ad i))] [(.int ((Int32.ofNat (x / 64 ^ i)) &&& (63 : Int32))), (.long (1 : Int64)), (.long (W i (x / 64 ^ (i + 1)))), (.int (Int32.ofNat (x / 64 ^ (i + 1)))), (.ref (ad i))])
      refine X.step (fun hA hx hq t_ k_ => XS.lshl hA hx rfl (hb hq d5_40) rfl k_) ?_
      show OFin _ _ _ _ _ _ _ _ T (mkF m 41 #[.val (.ref a1), .val (.int (Int32.ofNat x)), .val (.int (Int32.ofNat (x / 64 ^ i))), .val (.ref lv), .val (.int (Int32.ofNat L)), .val (.int (Int32.ofNat i)), .val (.ref (ad i))] [(.long ((1 : Int64) <<< (((Int32.ofNat (x / 64 ^ i)) &&& (63 : Int32)) &&& 0x3f).toInt64)), (.long (W i (x / 64 ^ (i + 1)))), (.int (Int32.ofNat (x / 64 ^ (i + 1)))), (.ref (ad i))])
      refine X.step (fun hA hx hq t_ k_ => XS.lor hA hx rfl (hb hq d5_41) rfl k_) ?_
      show OFin _ _ _ _ _ _ _ _ T (mkF m 42 #[.val (.ref a1), .val (.int (Int32.ofNat x)), .val (.int (Int32.ofNat (x / 64 ^ i))), .val (.ref lv), .val (.int (Int32.ofNat L)), .val (.int (Int32.ofNat i)), .val (.ref (ad i))] [(.long ((W i (x / 64 ^ (i + 1))) ||| ((1 : Int64) <<< (((Int32.ofNat (x / 64 ^ i)) &&& (63 : Int32)) &&& 0x3f).toInt64))), (.int (Int32.ofNat (x / 64 ^ (i + 1)))), (.ref (ad i))])
      refine X.stJ Ai (own_inN Si hxj hNi.2) ((Dn i hlt).1) (g := (mkF m 42 #[.val (.ref a1), .val (.int (Int32.ofNat x)), .val (.int (Int32.ofNat (x / 64 ^ i))), .val (.ref lv), .val (.int (Int32.ofNat L)), .val (.int (Int32.ofNat i)), .val (.ref (ad i))] [(.long ((W i (x / 64 ^ (i + 1))) ||| ((1 : Int64) <<< (((Int32.ofNat (x / 64 ^ i)) &&& (63 : Int32)) &&& 0x3f).toInt64))), (.int (Int32.ofNat (x / 64 ^ (i + 1)))), (.ref (ad i))])) rfl rfl d5_42 ?_
      intro T1 h1 X1 W1
      show OFin _ _ _ _ _ _ _ _ T1 (mkF m 43 #[.val (.ref a1), .val (.int (Int32.ofNat x)), .val (.int (Int32.ofNat (x / 64 ^ i))), .val (.ref lv), .val (.int (Int32.ofNat L)), .val (.int (Int32.ofNat i)), .val (.ref (ad i))] [])
      rw [own_iN _ (by omega)] at W1
      have D2 := D.set hlt W1
      have hw2 := fun b hb => own_bset (W i (x / 64 ^ (i + 1))) (x / 64 ^ i) b hxi hb
      have mid := own_add (hi i (Nat.le_refl _) hlt) hw2
      have lo2 : ∀ i', i' < i + 1 → LvOk (fun s => S s ∨ s = x) i' (N i') ((fun i' j' => if i' = i ∧ j' = x / 64 ^ (i + 1) then ((W i (x / 64 ^ (i + 1))) ||| ((1 : Int64) <<< (((Int32.ofNat (x / 64 ^ i)) &&& (63 : Int32)) &&& 0x3f).toInt64)) else W i' j') i') := fun i' hi' => by
        by_cases c : i' = i
        · subst c
          refine mid.congr fun j hj => ?_
          by_cases d : j = x / 64 ^ (i' + 1)
          · simp [d]
          · simp [d]
        · refine (lo i' (by omega)).congr fun j hj => ?_
          simp [c]
      have hi2 : ∀ i', i + 1 ≤ i' → i' < L → LvOk S i' (N i') ((fun i' j' => if i' = i ∧ j' = x / 64 ^ (i + 1) then ((W i (x / 64 ^ (i + 1))) ||| ((1 : Int64) <<< (((Int32.ofNat (x / 64 ^ i)) &&& (63 : Int32)) &&& 0x3f).toInt64)) else W i' j') i') := fun i' h1 h2 => by
        refine (hi i' (by omega) h2).congr fun j hj => ?_
        have c : i' ≠ i := by omega
        simp [c]
      refine X1.step (fun hA hx hq t_ k_ => XS.iloadN hA hx rfl (hb hq d5_43) rfl k_) ?_
      show OFin _ _ _ _ _ _ _ _ T1 (mkF m 44 #[.val (.ref a1), .val (.int (Int32.ofNat x)), .val (.int (Int32.ofNat (x / 64 ^ i))), .val (.ref lv), .val (.int (Int32.ofNat L)), .val (.int (Int32.ofNat i)), .val (.ref (ad i))] [(.int (Int32.ofNat (x / 64 ^ i)))])
      refine X1.step (fun hA hx hq t_ k_ => XS.bipush hA hx rfl (hb hq d5_44) k_) ?_
      show OFin _ _ _ _ _ _ _ _ T1 (mkF m 46 #[.val (.ref a1), .val (.int (Int32.ofNat x)), .val (.int (Int32.ofNat (x / 64 ^ i))), .val (.ref lv), .val (.int (Int32.ofNat L)), .val (.int (Int32.ofNat i)), .val (.ref (ad i))] [(.int (6 : Int32)), (.int (Int32.ofNat (x / 64 ^ i)))])
      refine X1.step (fun hA hx hq t_ k_ => XS.iushr hA hx rfl (hb hq d5_46) rfl k_) ?_
      show OFin _ _ _ _ _ _ _ _ T1 (mkF m 47 #[.val (.ref a1), .val (.int (Int32.ofNat x)), .val (.int (Int32.ofNat (x / 64 ^ i))), .val (.ref lv), .val (.int (Int32.ofNat L)), .val (.int (Int32.ofNat i)), .val (.ref (ad i))] [(.int (((Int32.ofNat (x / 64 ^ i)).toUInt32 >>> ((6 : Int32) &&& 31).toUInt32).toInt32))])
      rw [own_ush6 _ hxi, ← own_div]
      show OFin _ _ _ _ _ _ _ _ T1 (mkF m 47 #[.val (.ref a1), .val (.int (Int32.ofNat x)), .val (.int (Int32.ofNat (x / 64 ^ i))), .val (.ref lv), .val (.int (Int32.ofNat L)), .val (.int (Int32.ofNat i)), .val (.ref (ad i))] [(.int (Int32.ofNat (x / 64 ^ (i + 1))))])
      refine X1.step (fun hA hx hq t_ k_ => XS.istoreN hA hx rfl (hb hq d5_47) rfl (l' := #[.val (.ref a1), .val (.int (Int32.ofNat x)), .val (.int (Int32.ofNat (x / 64 ^ (i + 1)))), .val (.ref lv), .val (.int (Int32.ofNat L)), .val (.int (Int32.ofNat i)), .val (.ref (ad i))]) rfl k_) ?_
      show OFin _ _ _ _ _ _ _ _ T1 (mkF m 48 #[.val (.ref a1), .val (.int (Int32.ofNat x)), .val (.int (Int32.ofNat (x / 64 ^ (i + 1)))), .val (.ref lv), .val (.int (Int32.ofNat L)), .val (.int (Int32.ofNat i)), .val (.ref (ad i))] [])
      refine X1.step (fun hA hx hq t_ k_ => XS.iinc hA hx rfl (hb hq d5_48) rfl (l' := #[.val (.ref a1), .val (.int (Int32.ofNat x)), .val (.int (Int32.ofNat (x / 64 ^ (i + 1)))), .val (.ref lv), .val (.int (Int32.ofNat L)), .val (.int ((Int32.ofNat i) + (1 : Int32))), .val (.ref (ad i))]) rfl k_) ?_
      show OFin _ _ _ _ _ _ _ _ T1 (mkF m 51 #[.val (.ref a1), .val (.int (Int32.ofNat x)), .val (.int (Int32.ofNat (x / 64 ^ (i + 1)))), .val (.ref lv), .val (.int (Int32.ofNat L)), .val (.int ((Int32.ofNat i) + (1 : Int32))), .val (.ref (ad i))] [])
      rw [own_succ i (by omega)]
      show OFin _ _ _ _ _ _ _ _ T1 (mkF m 51 #[.val (.ref a1), .val (.int (Int32.ofNat x)), .val (.int (Int32.ofNat (x / 64 ^ (i + 1)))), .val (.ref lv), .val (.int (Int32.ofNat L)), .val (.int (Int32.ofNat (i + 1))), .val (.ref (ad i))] [])
      refine X1.step (fun hA hx hq t_ k_ => XS.goto hA hx rfl (pc0 := 51) (pc' := 14) rfl (hb hq d5_51) (by decide) (by decide) k_) ?_
      show OFin _ _ _ _ _ _ _ _ T1 (mkF m 14 #[.val (.ref a1), .val (.int (Int32.ofNat x)), .val (.int (Int32.ofNat (x / 64 ^ (i + 1)))), .val (.ref lv), .val (.int (Int32.ofNat L)), .val (.int (Int32.ofNat (i + 1))), .val (.ref (ad i))] [])
      exact ih (i + 1) T1 h1 _ (by omega) (One.val rfl) X1 ⟨_, D2, lo2, hi2⟩
  obtain ⟨E1, F1, ⟨V1, -⟩, -⟩ := id D0
  obtain ⟨c1, A1, S1, H1⟩ := id V1
  refine X0.step (fun hA hx hq t_ k_ => XS.iloadN hA hx rfl (hb hq d5_0) rfl k_) ?_
  show OFin _ _ _ _ _ _ _ _ T0 (mkF m 1 #[.val (.ref a1), .val (.int (Int32.ofNat x)), .unset, .unset, .unset, .unset, .unset] [(.int (Int32.ofNat x))])
  refine X0.step (fun hA hx hq t_ k_ => XS.istoreN hA hx rfl (hb hq d5_1) rfl (l' := #[.val (.ref a1), .val (.int (Int32.ofNat x)), .val (.int (Int32.ofNat x)), .unset, .unset, .unset, .unset]) rfl k_) ?_
  show OFin _ _ _ _ _ _ _ _ T0 (mkF m 2 #[.val (.ref a1), .val (.int (Int32.ofNat x)), .val (.int (Int32.ofNat x)), .unset, .unset, .unset, .unset] [])
  refine X0.step (fun hA hx hq t_ k_ => XS.aloadN hA hx rfl (hb hq d5_2) rfl rfl k_) ?_
  show OFin _ _ _ _ _ _ _ _ T0 (mkF m 3 #[.val (.ref a1), .val (.int (Int32.ofNat x)), .val (.int (Int32.ofNat x)), .unset, .unset, .unset, .unset] [(.ref a1)])
  refine X0.getF (hw _ (List.mem_of_getElem? (i := 20) rfl)) F1 (g := (mkF m 3 #[.val (.ref a1), .val (.int (Int32.ofNat x)), .val (.int (Int32.ofNat x)), .unset, .unset, .unset, .unset] [(.ref a1)])) rfl rfl d5_3 ?_
  intro T2 X2
  show OFin _ _ _ _ _ _ _ _ T2 (mkF m 6 #[.val (.ref a1), .val (.int (Int32.ofNat x)), .val (.int (Int32.ofNat x)), .unset, .unset, .unset, .unset] [(.ref lv)])
  refine X2.step (fun hA hx hq t_ k_ => XS.astoreN hA hx rfl (hb hq d5_6) rfl rfl (l' := #[.val (.ref a1), .val (.int (Int32.ofNat x)), .val (.int (Int32.ofNat x)), .val (.ref lv), .unset, .unset, .unset]) rfl k_) ?_
  show OFin _ _ _ _ _ _ _ _ T2 (mkF m 7 #[.val (.ref a1), .val (.int (Int32.ofNat x)), .val (.int (Int32.ofNat x)), .val (.ref lv), .unset, .unset, .unset] [])
  refine X2.step (fun hA hx hq t_ k_ => XS.aloadN hA hx rfl (hb hq d5_7) rfl rfl k_) ?_
  show OFin _ _ _ _ _ _ _ _ T2 (mkF m 8 #[.val (.ref a1), .val (.int (Int32.ofNat x)), .val (.int (Int32.ofNat x)), .val (.ref lv), .unset, .unset, .unset] [(.ref lv)])
  refine X2.alen A1 (n := (Int32.ofNat L)) (by rw [S1]) (g := (mkF m 8 #[.val (.ref a1), .val (.int (Int32.ofNat x)), .val (.int (Int32.ofNat x)), .val (.ref lv), .unset, .unset, .unset] [(.ref lv)])) rfl rfl d5_8 ?_
  show OFin _ _ _ _ _ _ _ _ T2 (mkF m 9 #[.val (.ref a1), .val (.int (Int32.ofNat x)), .val (.int (Int32.ofNat x)), .val (.ref lv), .unset, .unset, .unset] [(.int (Int32.ofNat L))])
  refine X2.step (fun hA hx hq t_ k_ => XS.istore hA hx rfl (hb hq d5_9) rfl (l' := #[.val (.ref a1), .val (.int (Int32.ofNat x)), .val (.int (Int32.ofNat x)), .val (.ref lv), .val (.int (Int32.ofNat L)), .unset, .unset]) rfl k_) ?_
  show OFin _ _ _ _ _ _ _ _ T2 (mkF m 11 #[.val (.ref a1), .val (.int (Int32.ofNat x)), .val (.int (Int32.ofNat x)), .val (.ref lv), .val (.int (Int32.ofNat L)), .unset, .unset] [])
  refine X2.step (fun hA hx hq t_ k_ => XS.iconst hA hx rfl (hb hq d5_11) k_) ?_
  show OFin _ _ _ _ _ _ _ _ T2 (mkF m 12 #[.val (.ref a1), .val (.int (Int32.ofNat x)), .val (.int (Int32.ofNat x)), .val (.ref lv), .val (.int (Int32.ofNat L)), .unset, .unset] [(.int (0 : Int32))])
  refine X2.step (fun hA hx hq t_ k_ => XS.istore hA hx rfl (hb hq d5_12) rfl (l' := #[.val (.ref a1), .val (.int (Int32.ofNat x)), .val (.int (Int32.ofNat x)), .val (.ref lv), .val (.int (Int32.ofNat L)), .val (.int (0 : Int32)), .unset]) rfl k_) ?_
  show OFin _ _ _ _ _ _ _ _ T2 (mkF m 14 #[.val (.ref a1), .val (.int (Int32.ofNat x)), .val (.int (Int32.ofNat x)), .val (.ref lv), .val (.int (Int32.ofNat L)), .val (.int (0 : Int32)), .unset] [])
  have fin := loop L 0 T2 h0 .unset (by omega) One.u X2 ⟨W0, D0, fun i' q => by omega, fun i' _ q => O0 i' q⟩
  rw [Nat.pow_zero, Nat.div_one] at fin
  exact fin
theorem d6_14 : decode prog_43_method_4_code 14 = .ok (.iload 5, 2) := by decide +kernel
theorem d6_16 : decode prog_43_method_4_code 16 = .ok (.iload 4, 2) := by decide +kernel
theorem d6_18 : decode prog_43_method_4_code 18 = .ok (.if_icmp .ge 55, 3) := by decide +kernel
theorem d6_73 : decode prog_43_method_4_code 73 = .ok (.return_, 1) := by decide +kernel
theorem d6_21 : decode prog_43_method_4_code 21 = .ok (.aload_n 3, 1) := by decide +kernel
theorem d6_22 : decode prog_43_method_4_code 22 = .ok (.iload 5, 2) := by decide +kernel
theorem d6_24 : decode prog_43_method_4_code 24 = .ok (.aaload, 1) := by decide +kernel
theorem d6_25 : decode prog_43_method_4_code 25 = .ok (.astore 6, 2) := by decide +kernel
theorem d6_27 : decode prog_43_method_4_code 27 = .ok (.aload 6, 2) := by decide +kernel
theorem d6_29 : decode prog_43_method_4_code 29 = .ok (.iload_n 2, 1) := by decide +kernel
theorem d6_30 : decode prog_43_method_4_code 30 = .ok (.bipush 6, 2) := by decide +kernel
theorem d6_32 : decode prog_43_method_4_code 32 = .ok (.iushr, 1) := by decide +kernel
theorem d6_33 : decode prog_43_method_4_code 33 = .ok (.dup2, 1) := by decide +kernel
theorem d6_34 : decode prog_43_method_4_code 34 = .ok (.laload, 1) := by decide +kernel
theorem d6_35 : decode prog_43_method_4_code 35 = .ok (.lconst 1, 1) := by decide +kernel
theorem d6_36 : decode prog_43_method_4_code 36 = .ok (.iload_n 2, 1) := by decide +kernel
theorem d6_37 : decode prog_43_method_4_code 37 = .ok (.bipush 63, 2) := by decide +kernel
theorem d6_39 : decode prog_43_method_4_code 39 = .ok (.iand, 1) := by decide +kernel
theorem d6_40 : decode prog_43_method_4_code 40 = .ok (.lshl, 1) := by decide +kernel
theorem d6_41 : decode prog_43_method_4_code 41 = .ok (.ldc2_w 19, 3) := by decide +kernel
theorem d6_44 : decode prog_43_method_4_code 44 = .ok (.lxor, 1) := by decide +kernel
theorem d6_45 : decode prog_43_method_4_code 45 = .ok (.land, 1) := by decide +kernel
theorem d6_46 : decode prog_43_method_4_code 46 = .ok (.lastore, 1) := by decide +kernel
theorem d6_47 : decode prog_43_method_4_code 47 = .ok (.aload 6, 2) := by decide +kernel
theorem d6_49 : decode prog_43_method_4_code 49 = .ok (.iload_n 2, 1) := by decide +kernel
theorem d6_50 : decode prog_43_method_4_code 50 = .ok (.bipush 6, 2) := by decide +kernel
theorem d6_52 : decode prog_43_method_4_code 52 = .ok (.iushr, 1) := by decide +kernel
theorem d6_53 : decode prog_43_method_4_code 53 = .ok (.laload, 1) := by decide +kernel
theorem d6_54 : decode prog_43_method_4_code 54 = .ok (.lconst 0, 1) := by decide +kernel
theorem d6_55 : decode prog_43_method_4_code 55 = .ok (.lcmp, 1) := by decide +kernel
theorem d6_56 : decode prog_43_method_4_code 56 = .ok (.ifCond .eq 6, 3) := by decide +kernel
theorem d6_62 : decode prog_43_method_4_code 62 = .ok (.iload_n 2, 1) := by decide +kernel
theorem d6_63 : decode prog_43_method_4_code 63 = .ok (.bipush 6, 2) := by decide +kernel
theorem d6_65 : decode prog_43_method_4_code 65 = .ok (.iushr, 1) := by decide +kernel
theorem d6_66 : decode prog_43_method_4_code 66 = .ok (.istore_n 2, 1) := by decide +kernel
theorem d6_67 : decode prog_43_method_4_code 67 = .ok (.iinc 5 1, 3) := by decide +kernel
theorem d6_70 : decode prog_43_method_4_code 70 = .ok (.goto (-56), 3) := by decide +kernel
theorem d6_59 : decode prog_43_method_4_code 59 = .ok (.goto 14, 3) := by decide +kernel
theorem d6_0 : decode prog_43_method_4_code 0 = .ok (.iload_n 1, 1) := by decide +kernel
theorem d6_1 : decode prog_43_method_4_code 1 = .ok (.istore_n 2, 1) := by decide +kernel
theorem d6_2 : decode prog_43_method_4_code 2 = .ok (.aload_n 0, 1) := by decide +kernel
theorem d6_3 : decode prog_43_method_4_code 3 = .ok (.getfield 15, 3) := by decide +kernel
theorem d6_6 : decode prog_43_method_4_code 6 = .ok (.astore_n 3, 1) := by decide +kernel
theorem d6_7 : decode prog_43_method_4_code 7 = .ok (.aload_n 3, 1) := by decide +kernel
theorem d6_8 : decode prog_43_method_4_code 8 = .ok (.arraylength, 1) := by decide +kernel
theorem d6_9 : decode prog_43_method_4_code 9 = .ok (.istore 4, 2) := by decide +kernel
theorem d6_11 : decode prog_43_method_4_code 11 = .ok (.iconst 0, 1) := by decide +kernel
theorem d6_12 : decode prog_43_method_4_code 12 = .ok (.istore 5, 2) := by decide +kernel
set_option maxRecDepth 65536 in
set_option maxHeartbeats 40000000 in
theorem rm5 (l : Launch) (Z : State) (a0 : Array Value) (hw : ∀ d ∈ tables_1, d.before a0 Z = true) (a1 lv : Addr) (L : Nat) (ad : Nat → Addr) (N : Nat → Nat) (S : Nat → Prop) (n x : Nat) (h0 : Heap) (n0 : Nat) (D : OS Z h0 n0 a1 lv L ad N S) (hN : ONum n L N) (hS : ∀ s, S s → s < n) (hn : n ≤ 524288) (hx : x < n) :
    OMeets l Z (⟨"com/example/interleave/interleave/NodeSet", "remove", "(I)V"⟩ : MethodName) [] prog_43_method_4_code 7 none ({ frames := 0, cells := 0, slots := 0, locals := 0 } : Room) #[(.ref a1), (.int (Int32.ofNat x))] h0 n0 (fun v h => v = none ∧ OS Z h n0 a1 lv L ad N (fun s => S s ∧ s ≠ x)) := by
  refine o_enter (Z := Z) (plainFor_of_name pn_com_example_interleave_interleave_NodeSet) ?_
  intro p e s m below meth c T0 X0
  refine OFin.cast (g' := (mkF m 0 #[.val (.ref a1), .val (.int (Int32.ofNat x)), .unset, .unset, .unset, .unset, .unset] [])) (by first | (simp [entryFrame, mkF, argsToLocals, Value.category]; done) | rfl) ?_
  obtain ⟨W0, D0, O0⟩ := D
  obtain ⟨hL0, hL6, hL1, hNb, hNx⟩ := id hN
  have loop : ∀ (k i : Nat) (T : State) (h : Heap) (s6 : Slot), i + k = L → One s6 → OAt n0 Z (⟨"com/example/interleave/interleave/NodeSet", "remove", "(I)V"⟩ : MethodName) prog_43_method_4_code 7 none p l e ({ frames := 0, cells := 0, slots := 0, locals := 0 } : Room) s m #[(.ref a1), (.int (Int32.ofNat x))] below meth c T h 0 0 → (∃ W, OSet Z h n0 a1 lv L ad N W ∧ (∀ i', i' < i → LvOk (fun s => S s ∧ s ≠ x) i' (N i') (W i')) ∧ (∀ i', i ≤ i' → i' < L → LvOk S i' (N i') (W i')) ∧ (∀ s, S s → s ≠ x → s / 64 ^ i ≠ x / 64 ^ i)) → OFin n0 p e s below (fun v h => v = none ∧ OS Z h n0 a1 lv L ad N (fun s => S s ∧ s ≠ x)) ({ frames := 0, cells := 0, slots := 0, locals := 0 } : Room).cells ({ frames := 0, cells := 0, slots := 0, locals := 0 } : Room).slots T (mkF m 14 #[.val (.ref a1), .val (.int (Int32.ofNat x)), .val (.int (Int32.ofNat (x / 64 ^ i))), .val (.ref lv), .val (.int (Int32.ofNat L)), .val (.int (Int32.ofNat i)), s6] []) := by
    intro k
    induction k with
    | zero =>
      intro i T h s6 hik h6 X ⟨W, D, lo, hi⟩
      have hiL : i = L := by omega
      refine X.step (fun hA hx hq t_ k_ => XS.iload hA hx rfl (hb hq d6_14) rfl k_) ?_
      show OFin _ _ _ _ _ _ _ _ T (mkF m 16 #[.val (.ref a1), .val (.int (Int32.ofNat x)), .val (.int (Int32.ofNat (x / 64 ^ i))), .val (.ref lv), .val (.int (Int32.ofNat L)), .val (.int (Int32.ofNat i)), s6] [(.int (Int32.ofNat i))])
      refine X.step (fun hA hx hq t_ k_ => XS.iload hA hx rfl (hb hq d6_16) rfl k_) ?_
      show OFin _ _ _ _ _ _ _ _ T (mkF m 18 #[.val (.ref a1), .val (.int (Int32.ofNat x)), .val (.int (Int32.ofNat (x / 64 ^ i))), .val (.ref lv), .val (.int (Int32.ofNat L)), .val (.int (Int32.ofNat i)), s6] [(.int (Int32.ofNat L)), (.int (Int32.ofNat i))])
      refine X.step (fun hA hx hq t_ k_ => XS.icmpYes hA hx rfl (pc0 := 18) (pc' := 73) rfl (hb hq d6_18) rfl (flt (fun c => by rw [own_lt32 i L (by omega) (by omega)] at c; omega)).2.1 (by decide) (by decide) k_) ?_
      show OFin _ _ _ _ _ _ _ _ T (mkF m 73 #[.val (.ref a1), .val (.int (Int32.ofNat x)), .val (.int (Int32.ofNat (x / 64 ^ i))), .val (.ref lv), .val (.int (Int32.ofNat L)), .val (.int (Int32.ofNat i)), s6] [])
      exact X.retV d6_73 (by decide) (by decide) (⟨rfl, W, D, fun i2 q => lo i2 (by omega)⟩)
    | succ k ih =>
      intro i T h s6 hik h6 X ⟨W, D, lo, hi, hy⟩
      have hlt : i < L := by omega
      obtain ⟨De, Df, ⟨Dl, Da⟩, Dn⟩ := id D
      obtain ⟨cv, Av, Sv, Hv⟩ := id Dl
      obtain ⟨ci, Ai, Si, Hi⟩ := id (Da i hlt)
      have hxi : x / 64 ^ i < 2 ^ 31 := own_lt64 x i (by omega)
      have hxj : x / 64 ^ (i + 1) < N i := hNx i hlt x hx
      have hNi := hNb i hlt
      refine X.step (fun hA hx hq t_ k_ => XS.iload hA hx rfl (hb hq d6_14) rfl k_) ?_
      show OFin _ _ _ _ _ _ _ _ T (mkF m 16 #[.val (.ref a1), .val (.int (Int32.ofNat x)), .val (.int (Int32.ofNat (x / 64 ^ i))), .val (.ref lv), .val (.int (Int32.ofNat L)), .val (.int (Int32.ofNat i)), s6] [(.int (Int32.ofNat i))])
      refine X.step (fun hA hx hq t_ k_ => XS.iload hA hx rfl (hb hq d6_16) rfl k_) ?_
      show OFin _ _ _ _ _ _ _ _ T (mkF m 18 #[.val (.ref a1), .val (.int (Int32.ofNat x)), .val (.int (Int32.ofNat (x / 64 ^ i))), .val (.ref lv), .val (.int (Int32.ofNat L)), .val (.int (Int32.ofNat i)), s6] [(.int (Int32.ofNat L)), (.int (Int32.ofNat i))])
      refine X.step (fun hA hx hq t_ k_ => XS.icmpNo hA hx rfl (hb hq d6_18) rfl (tlt ((own_lt32 i L (by omega) (by omega)).mpr hlt)).2.1 k_) ?_
      show OFin _ _ _ _ _ _ _ _ T (mkF m 21 #[.val (.ref a1), .val (.int (Int32.ofNat x)), .val (.int (Int32.ofNat (x / 64 ^ i))), .val (.ref lv), .val (.int (Int32.ofNat L)), .val (.int (Int32.ofNat i)), s6] [])
      refine X.step (fun hA hx hq t_ k_ => XS.aloadN hA hx rfl (hb hq d6_21) rfl rfl k_) ?_
      show OFin _ _ _ _ _ _ _ _ T (mkF m 22 #[.val (.ref a1), .val (.int (Int32.ofNat x)), .val (.int (Int32.ofNat (x / 64 ^ i))), .val (.ref lv), .val (.int (Int32.ofNat L)), .val (.int (Int32.ofNat i)), s6] [(.ref lv)])
      refine X.step (fun hA hx hq t_ k_ => XS.iload hA hx rfl (hb hq d6_22) rfl k_) ?_
      show OFin _ _ _ _ _ _ _ _ T (mkF m 24 #[.val (.ref a1), .val (.int (Int32.ofNat x)), .val (.int (Int32.ofNat (x / 64 ^ i))), .val (.ref lv), .val (.int (Int32.ofNat L)), .val (.int (Int32.ofNat i)), s6] [(.int (Int32.ofNat i)), (.ref lv)])
      refine X.aload0 Av (v := (.ref (ad i))) (o_in Sv (by rw [own_i i (by omega)]; omega) (by rw [own_i i (by omega)]; omega)) (by rw [own_iN i (by omega)]; exact Hv i hlt) (g := (mkF m 24 #[.val (.ref a1), .val (.int (Int32.ofNat x)), .val (.int (Int32.ofNat (x / 64 ^ i))), .val (.ref lv), .val (.int (Int32.ofNat L)), .val (.int (Int32.ofNat i)), s6] [(.int (Int32.ofNat i)), (.ref lv)])) rfl rfl (Or.inr (Or.inr (Or.inr (Or.inr (⟨rfl, rfl⟩))))) d6_24 ?_
      show OFin _ _ _ _ _ _ _ _ T (mkF m 25 #[.val (.ref a1), .val (.int (Int32.ofNat x)), .val (.int (Int32.ofNat (x / 64 ^ i))), .val (.ref lv), .val (.int (Int32.ofNat L)), .val (.int (Int32.ofNat i)), s6] [(.ref (ad i))])
      refine X.step (fun hA hx hq t_ k_ => XS.astore hA hx rfl (hb hq d6_25) rfl rfl (l' := #[.val (.ref a1), .val (.int (Int32.ofNat x)), .val (.int (Int32.ofNat (x / 64 ^ i))), .val (.ref lv), .val (.int (Int32.ofNat L)), .val (.int (Int32.ofNat i)), .val (.ref (ad i))]) (own_st6 h6) k_) ?_
      show OFin _ _ _ _ _ _ _ _ T (mkF m 27 #[.val (.ref a1), .val (.int (Int32.ofNat x)), .val (.int (Int32.ofNat (x / 64 ^ i))), .val (.ref lv), .val (.int (Int32.ofNat L)), .val (.int (Int32.ofNat i)), .val (.ref (ad i))] [])
      refine X.step (fun hA hx hq t_ k_ => XS.aload hA hx rfl (hb hq d6_27) rfl rfl k_) ?_
      show OFin _ _ _ _ _ _ _ _ T (mkF m 29 #[.val (.ref a1), .val (.int (Int32.ofNat x)), .val (.int (Int32.ofNat (x / 64 ^ i))), .val (.ref lv), .val (.int (Int32.ofNat L)), .val (.int (Int32.ofNat i)), .val (.ref (ad i))] [(.ref (ad i))])
      refine X.step (fun hA hx hq t_ k_ => XS.iloadN hA hx rfl (hb hq d6_29) rfl k_) ?_
      show OFin _ _ _ _ _ _ _ _ T (mkF m 30 #[.val (.ref a1), .val (.int (Int32.ofNat x)), .val (.int (Int32.ofNat (x / 64 ^ i))), .val (.ref lv), .val (.int (Int32.ofNat L)), .val (.int (Int32.ofNat i)), .val (.ref (ad i))] [(.int (Int32.ofNat (x / 64 ^ i))), (.ref (ad i))])
      refine X.step (fun hA hx hq t_ k_ => XS.bipush hA hx rfl (hb hq d6_30) k_) ?_
      show OFin _ _ _ _ _ _ _ _ T (mkF m 32 #[.val (.ref a1), .val (.int (Int32.ofNat x)), .val (.int (Int32.ofNat (x / 64 ^ i))), .val (.ref lv), .val (.int (Int32.ofNat L)), .val (.int (Int32.ofNat i)), .val (.ref (ad i))] [(.int (6 : Int32)), (.int (Int32.ofNat (x / 64 ^ i))), (.ref (ad i))])
      refine X.step (fun hA hx hq t_ k_ => XS.iushr hA hx rfl (hb hq d6_32) rfl k_) ?_
      show OFin _ _ _ _ _ _ _ _ T (mkF m 33 #[.val (.ref a1), .val (.int (Int32.ofNat x)), .val (.int (Int32.ofNat (x / 64 ^ i))), .val (.ref lv), .val (.int (Int32.ofNat L)), .val (.int (Int32.ofNat i)), .val (.ref (ad i))] [(.int (((Int32.ofNat (x / 64 ^ i)).toUInt32 >>> ((6 : Int32) &&& 31).toUInt32).toInt32)), (.ref (ad i))])
      rw [own_ush6 _ hxi, ← own_div]
      show OFin _ _ _ _ _ _ _ _ T (mkF m 33 #[.val (.ref a1), .val (.int (Int32.ofNat x)), .val (.int (Int32.ofNat (x / 64 ^ i))), .val (.ref lv), .val (.int (Int32.ofNat L)), .val (.int (Int32.ofNat i)), .val (.ref (ad i))] [(.int (Int32.ofNat (x / 64 ^ (i + 1)))), (.ref (ad i))])
      refine X.step (fun hA hx hq t_ k_ => Jvm.Free.XT.dup2 hA hx rfl (hb hq d6_33) rfl rfl rfl k_) ?_
      show OFin _ _ _ _ _ _ _ _ T (mkF m 34 #[.val (.ref a1), .val (.int (Int32.ofNat x)), .val (.int (Int32.ofNat (x / 64 ^ i))), .val (.ref lv), .val (.int (Int32.ofNat L)), .val (.int (Int32.ofNat i)), .val (.ref (ad i))] [(.int (Int32.ofNat (x / 64 ^ (i + 1)))), (.ref (ad i)), (.int (Int32.ofNat (x / 64 ^ (i + 1)))), (.ref (ad i))])
      refine X.aload0 Ai (v := (.long (W i (x / 64 ^ (i + 1))))) (own_inN Si hxj hNi.2) (by rw [own_iN _ (by omega)]; exact Hi _ hxj) (g := (mkF m 34 #[.val (.ref a1), .val (.int (Int32.ofNat x)), .val (.int (Int32.ofNat (x / 64 ^ i))), .val (.ref lv), .val (.int (Int32.ofNat L)), .val (.int (Int32.ofNat i)), .val (.ref (ad i))] [(.int (Int32.ofNat (x / 64 ^ (i + 1)))), (.ref (ad i)), (.int (Int32.ofNat (x / 64 ^ (i + 1)))), (.ref (ad i))])) rfl rfl (Or.inr (Or.inl ⟨rfl, rfl⟩)) d6_34 ?_
      show OFin _ _ _ _ _ _ _ _ T (mkF m 35 #[.val (.ref a1), .val (.int (Int32.ofNat x)), .val (.int (Int32.ofNat (x / 64 ^ i))), .val (.ref lv), .val (.int (Int32.ofNat L)), .val (.int (Int32.ofNat i)), .val (.ref (ad i))] [(.long (W i (x / 64 ^ (i + 1)))), (.int (Int32.ofNat (x / 64 ^ (i + 1)))), (.ref (ad i))])
      refine X.step (fun hA hx hq t_ k_ => XS.lconst hA hx rfl (hb hq d6_35) k_) ?_
      show OFin _ _ _ _ _ _ _ _ T (mkF m 36 #[.val (.ref a1), .val (.int (Int32.ofNat x)), .val (.int (Int32.ofNat (x / 64 ^ i))), .val (.ref lv), .val (.int (Int32.ofNat L)), .val (.int (Int32.ofNat i)), .val (.ref (ad i))] [(.long (1 : Int64)), (.long (W i (x / 64 ^ (i + 1)))), (.int (Int32.ofNat (x / 64 ^ (i + 1)))), (.ref (ad i))])
      refine X.step (fun hA hx hq t_ k_ => XS.iloadN hA hx rfl (hb hq d6_36) rfl k_) ?_
      show OFin _ _ _ _ _ _ _ _ T (mkF m 37 #[.val (.ref a1), .val (.int (Int32.ofNat x)), .val (.int (Int32.ofNat (x / 64 ^ i))), .val (.ref lv), .val (.int (Int32.ofNat L)), .val (.int (Int32.ofNat i)), .val (.ref (ad i))] [(.int (Int32.ofNat (x / 64 ^ i))), (.long (1 : Int64)), (.long (W i (x / 64 ^ (i + 1)))), (.int (Int32.ofNat (x / 64 ^ (i + 1)))), (.ref (ad i))])
      refine X.step (fun hA hx hq t_ k_ => XS.bipush hA hx rfl (hb hq d6_37) k_) ?_
      show OFin _ _ _ _ _ _ _ _ T (mkF m 39 #[.val (.ref a1), .val (.int (Int32.ofNat x)), .val (.int (Int32.ofNat (x / 64 ^ i))), .val (.ref lv), .val (.int (Int32.ofNat L)), .val (.int (Int32.ofNat i)), .val (.ref (ad i))] [(.int (63 : Int32)), (.int (Int32.ofNat (x / 64 ^ i))), (.long (1 : Int64)), (.long (W i (x / 64 ^ (i + 1)))), (.int (Int32.ofNat (x / 64 ^ (i + 1)))), (.ref (ad i))])
      refine X.step (fun hA hx hq t_ k_ => XS.iand hA hx rfl (hb hq d6_39) rfl k_) ?_
      show OFin _ _ _ _ _ _ _ _ T (mkF m 40 #[.val (.ref a1), .val (.int (Int32.ofNat x)), .val (.int (Int32.ofNat (x / 64 ^ i))), .val (.ref lv), .val (.int (Int32.ofNat L)), .val (.int (Int32.ofNat i)), .val (.ref (ad i))] [(.int ((Int32.ofNat (x / 64 ^ i)) &&& (63 : Int32))), (.long (1 : Int64)), (.long (W i (x / 64 ^ (i + 1)))), (.int (Int32.ofNat (x / 64 ^ (i + 1)))), (.ref (ad i))])
      refine X.step (fun hA hx hq t_ k_ => XS.lshl hA hx rfl (hb hq d6_40) rfl k_) ?_
      show OFin _ _ _ _ _ _ _ _ T (mkF m 41 #[.val (.ref a1), .val (.int (Int32.ofNat x)), .val (.int (Int32.ofNat (x / 64 ^ i))), .val (.ref lv), .val (.int (Int32.ofNat L)), .val (.int (Int32.ofNat i)), .val (.ref (ad i))] [(.long ((1 : Int64) <<< (((Int32.ofNat (x / 64 ^ i)) &&& (63 : Int32)) &&& 0x3f).toInt64)), (.long (W i (x / 64 ^ (i + 1)))), (.int (Int32.ofNat (x / 64 ^ (i + 1)))), (.ref (ad i))])
      refine X.ldcL (hw _ (List.mem_of_getElem? (i := 34) rfl)) (g := (mkF m 41 #[.val (.ref a1), .val (.int (Int32.ofNat x)), .val (.int (Int32.ofNat (x / 64 ^ i))), .val (.ref lv), .val (.int (Int32.ofNat L)), .val (.int (Int32.ofNat i)), .val (.ref (ad i))] [(.long ((1 : Int64) <<< (((Int32.ofNat (x / 64 ^ i)) &&& (63 : Int32)) &&& 0x3f).toInt64)), (.long (W i (x / 64 ^ (i + 1)))), (.int (Int32.ofNat (x / 64 ^ (i + 1)))), (.ref (ad i))])) rfl d6_41 ?_
      show OFin _ _ _ _ _ _ _ _ T (mkF m 44 #[.val (.ref a1), .val (.int (Int32.ofNat x)), .val (.int (Int32.ofNat (x / 64 ^ i))), .val (.ref lv), .val (.int (Int32.ofNat L)), .val (.int (Int32.ofNat i)), .val (.ref (ad i))] [(.long (-1 : Int64)), (.long ((1 : Int64) <<< (((Int32.ofNat (x / 64 ^ i)) &&& (63 : Int32)) &&& 0x3f).toInt64)), (.long (W i (x / 64 ^ (i + 1)))), (.int (Int32.ofNat (x / 64 ^ (i + 1)))), (.ref (ad i))])
      refine X.step (fun hA hx hq t_ k_ => XS.lxor hA hx rfl (hb hq d6_44) rfl k_) ?_
      show OFin _ _ _ _ _ _ _ _ T (mkF m 45 #[.val (.ref a1), .val (.int (Int32.ofNat x)), .val (.int (Int32.ofNat (x / 64 ^ i))), .val (.ref lv), .val (.int (Int32.ofNat L)), .val (.int (Int32.ofNat i)), .val (.ref (ad i))] [(.long (((1 : Int64) <<< (((Int32.ofNat (x / 64 ^ i)) &&& (63 : Int32)) &&& 0x3f).toInt64) ^^^ (-1 : Int64))), (.long (W i (x / 64 ^ (i + 1)))), (.int (Int32.ofNat (x / 64 ^ (i + 1)))), (.ref (ad i))])
      refine X.step (fun hA hx hq t_ k_ => XS.land hA hx rfl (hb hq d6_45) rfl k_) ?_
      show OFin _ _ _ _ _ _ _ _ T (mkF m 46 #[.val (.ref a1), .val (.int (Int32.ofNat x)), .val (.int (Int32.ofNat (x / 64 ^ i))), .val (.ref lv), .val (.int (Int32.ofNat L)), .val (.int (Int32.ofNat i)), .val (.ref (ad i))] [(.long ((W i (x / 64 ^ (i + 1))) &&& (((1 : Int64) <<< (((Int32.ofNat (x / 64 ^ i)) &&& (63 : Int32)) &&& 0x3f).toInt64) ^^^ (-1 : Int64)))), (.int (Int32.ofNat (x / 64 ^ (i + 1)))), (.ref (ad i))])
      refine X.stJ Ai (own_inN Si hxj hNi.2) ((Dn i hlt).1) (g := (mkF m 46 #[.val (.ref a1), .val (.int (Int32.ofNat x)), .val (.int (Int32.ofNat (x / 64 ^ i))), .val (.ref lv), .val (.int (Int32.ofNat L)), .val (.int (Int32.ofNat i)), .val (.ref (ad i))] [(.long ((W i (x / 64 ^ (i + 1))) &&& (((1 : Int64) <<< (((Int32.ofNat (x / 64 ^ i)) &&& (63 : Int32)) &&& 0x3f).toInt64) ^^^ (-1 : Int64)))), (.int (Int32.ofNat (x / 64 ^ (i + 1)))), (.ref (ad i))])) rfl rfl d6_46 ?_
      intro T1 h1 X1 W1
      show OFin _ _ _ _ _ _ _ _ T1 (mkF m 47 #[.val (.ref a1), .val (.int (Int32.ofNat x)), .val (.int (Int32.ofNat (x / 64 ^ i))), .val (.ref lv), .val (.int (Int32.ofNat L)), .val (.int (Int32.ofNat i)), .val (.ref (ad i))] [])
      rw [own_iN _ (by omega)] at W1
      have D2 := D.set hlt W1
      have hw2 := fun b hb => own_bclr (W i (x / 64 ^ (i + 1))) (x / 64 ^ i) b hxi hb
      have mid := own_rem (hi i (Nat.le_refl _) hlt) hy hw2
      have lo2 : ∀ i', i' < i + 1 → LvOk (fun s => S s ∧ s ≠ x) i' (N i') ((fun i' j' => if i' = i ∧ j' = x / 64 ^ (i + 1) then ((W i (x / 64 ^ (i + 1))) &&& (((1 : Int64) <<< (((Int32.ofNat (x / 64 ^ i)) &&& (63 : Int32)) &&& 0x3f).toInt64) ^^^ (-1 : Int64))) else W i' j') i') := fun i' hi' => by
        by_cases c : i' = i
        · subst c
          refine mid.congr fun j hj => ?_
          by_cases d : j = x / 64 ^ (i' + 1)
          · simp [d]
          · simp [d]
        · refine (lo i' (by omega)).congr fun j hj => ?_
          simp [c]
      have hi2 : ∀ i', i + 1 ≤ i' → i' < L → LvOk S i' (N i') ((fun i' j' => if i' = i ∧ j' = x / 64 ^ (i + 1) then ((W i (x / 64 ^ (i + 1))) &&& (((1 : Int64) <<< (((Int32.ofNat (x / 64 ^ i)) &&& (63 : Int32)) &&& 0x3f).toInt64) ^^^ (-1 : Int64))) else W i' j') i') := fun i' h1 h2 => by
        refine (hi i' (by omega) h2).congr fun j hj => ?_
        have c : i' ≠ i := by omega
        simp [c]
      refine X1.step (fun hA hx hq t_ k_ => XS.aload hA hx rfl (hb hq d6_47) rfl rfl k_) ?_
      show OFin _ _ _ _ _ _ _ _ T1 (mkF m 49 #[.val (.ref a1), .val (.int (Int32.ofNat x)), .val (.int (Int32.ofNat (x / 64 ^ i))), .val (.ref lv), .val (.int (Int32.ofNat L)), .val (.int (Int32.ofNat i)), .val (.ref (ad i))] [(.ref (ad i))])
      refine X1.step (fun hA hx hq t_ k_ => XS.iloadN hA hx rfl (hb hq d6_49) rfl k_) ?_
      show OFin _ _ _ _ _ _ _ _ T1 (mkF m 50 #[.val (.ref a1), .val (.int (Int32.ofNat x)), .val (.int (Int32.ofNat (x / 64 ^ i))), .val (.ref lv), .val (.int (Int32.ofNat L)), .val (.int (Int32.ofNat i)), .val (.ref (ad i))] [(.int (Int32.ofNat (x / 64 ^ i))), (.ref (ad i))])
      refine X1.step (fun hA hx hq t_ k_ => XS.bipush hA hx rfl (hb hq d6_50) k_) ?_
      show OFin _ _ _ _ _ _ _ _ T1 (mkF m 52 #[.val (.ref a1), .val (.int (Int32.ofNat x)), .val (.int (Int32.ofNat (x / 64 ^ i))), .val (.ref lv), .val (.int (Int32.ofNat L)), .val (.int (Int32.ofNat i)), .val (.ref (ad i))] [(.int (6 : Int32)), (.int (Int32.ofNat (x / 64 ^ i))), (.ref (ad i))])
      refine X1.step (fun hA hx hq t_ k_ => XS.iushr hA hx rfl (hb hq d6_52) rfl k_) ?_
      show OFin _ _ _ _ _ _ _ _ T1 (mkF m 53 #[.val (.ref a1), .val (.int (Int32.ofNat x)), .val (.int (Int32.ofNat (x / 64 ^ i))), .val (.ref lv), .val (.int (Int32.ofNat L)), .val (.int (Int32.ofNat i)), .val (.ref (ad i))] [(.int (((Int32.ofNat (x / 64 ^ i)).toUInt32 >>> ((6 : Int32) &&& 31).toUInt32).toInt32)), (.ref (ad i))])
      rw [own_ush6 _ hxi, ← own_div]
      show OFin _ _ _ _ _ _ _ _ T1 (mkF m 53 #[.val (.ref a1), .val (.int (Int32.ofNat x)), .val (.int (Int32.ofNat (x / 64 ^ i))), .val (.ref lv), .val (.int (Int32.ofNat L)), .val (.int (Int32.ofNat i)), .val (.ref (ad i))] [(.int (Int32.ofNat (x / 64 ^ (i + 1)))), (.ref (ad i))])
      obtain ⟨-, -, ⟨-, Da2⟩, -⟩ := id D2
      obtain ⟨cj, Aj, Sj, Hj⟩ := id (Da2 i hlt)
      refine X1.aload0 Aj (v := (.long ((W i (x / 64 ^ (i + 1))) &&& (((1 : Int64) <<< (((Int32.ofNat (x / 64 ^ i)) &&& (63 : Int32)) &&& 0x3f).toInt64) ^^^ (-1 : Int64))))) (own_inN Sj hxj hNi.2) (by rw [own_iN _ (by omega), Hj _ hxj]; simp) (g := (mkF m 53 #[.val (.ref a1), .val (.int (Int32.ofNat x)), .val (.int (Int32.ofNat (x / 64 ^ i))), .val (.ref lv), .val (.int (Int32.ofNat L)), .val (.int (Int32.ofNat i)), .val (.ref (ad i))] [(.int (Int32.ofNat (x / 64 ^ (i + 1)))), (.ref (ad i))])) rfl rfl (Or.inr (Or.inl ⟨rfl, rfl⟩)) d6_53 ?_
      show OFin _ _ _ _ _ _ _ _ T1 (mkF m 54 #[.val (.ref a1), .val (.int (Int32.ofNat x)), .val (.int (Int32.ofNat (x / 64 ^ i))), .val (.ref lv), .val (.int (Int32.ofNat L)), .val (.int (Int32.ofNat i)), .val (.ref (ad i))] [(.long ((W i (x / 64 ^ (i + 1))) &&& (((1 : Int64) <<< (((Int32.ofNat (x / 64 ^ i)) &&& (63 : Int32)) &&& 0x3f).toInt64) ^^^ (-1 : Int64))))])
      refine X1.step (fun hA hx hq t_ k_ => XS.lconst hA hx rfl (hb hq d6_54) k_) ?_
      show OFin _ _ _ _ _ _ _ _ T1 (mkF m 55 #[.val (.ref a1), .val (.int (Int32.ofNat x)), .val (.int (Int32.ofNat (x / 64 ^ i))), .val (.ref lv), .val (.int (Int32.ofNat L)), .val (.int (Int32.ofNat i)), .val (.ref (ad i))] [(.long (0 : Int64)), (.long ((W i (x / 64 ^ (i + 1))) &&& (((1 : Int64) <<< (((Int32.ofNat (x / 64 ^ i)) &&& (63 : Int32)) &&& 0x3f).toInt64) ^^^ (-1 : Int64))))])
      refine X1.step (fun hA hx hq t_ k_ => XS.lcmp hA hx rfl (hb hq d6_55) rfl k_) ?_
      show OFin _ _ _ _ _ _ _ _ T1 (mkF m 56 #[.val (.ref a1), .val (.int (Int32.ofNat x)), .val (.int (Int32.ofNat (x / 64 ^ i))), .val (.ref lv), .val (.int (Int32.ofNat L)), .val (.int (Int32.ofNat i)), .val (.ref (ad i))] [(.int (lcmpW ((W i (x / 64 ^ (i + 1))) &&& (((1 : Int64) <<< (((Int32.ofNat (x / 64 ^ i)) &&& (63 : Int32)) &&& 0x3f).toInt64) ^^^ (-1 : Int64))) (0 : Int64)))])
      by_cases kz : (lcmpW ((W i (x / 64 ^ (i + 1))) &&& (((1 : Int64) <<< (((Int32.ofNat (x / 64 ^ i)) &&& (63 : Int32)) &&& 0x3f).toInt64) ^^^ (-1 : Int64))) (0 : Int64)) = (0 : Int32)
      · refine X1.step (fun hA hx hq t_ k_ => XS.ifYes hA hx rfl (pc0 := 56) (pc' := 62) rfl (hb hq d6_56) rfl ((if0 _ _).trans (teq (kz)).1) (by decide) (by decide) k_) ?_
        show OFin _ _ _ _ _ _ _ _ T1 (mkF m 62 #[.val (.ref a1), .val (.int (Int32.ofNat x)), .val (.int (Int32.ofNat (x / 64 ^ i))), .val (.ref lv), .val (.int (Int32.ofNat L)), .val (.int (Int32.ofNat i)), .val (.ref (ad i))] [])
        have wz := (lw_eq _ _).mp kz
        have up : ∀ s, S s → s ≠ x → s / 64 ^ (i + 1) ≠ x / 64 ^ (i + 1) := fun s h1 h2 => own_remZ mid hxj (by simp only [if_true]; exact wz) s ⟨h1, h2⟩
        refine X1.step (fun hA hx hq t_ k_ => XS.iloadN hA hx rfl (hb hq d6_62) rfl k_) ?_
        show OFin _ _ _ _ _ _ _ _ T1 (mkF m 63 #[.val (.ref a1), .val (.int (Int32.ofNat x)), .val (.int (Int32.ofNat (x / 64 ^ i))), .val (.ref lv), .val (.int (Int32.ofNat L)), .val (.int (Int32.ofNat i)), .val (.ref (ad i))] [(.int (Int32.ofNat (x / 64 ^ i)))])
        refine X1.step (fun hA hx hq t_ k_ => XS.bipush hA hx rfl (hb hq d6_63) k_) ?_
        show OFin _ _ _ _ _ _ _ _ T1 (mkF m 65 #[.val (.ref a1), .val (.int (Int32.ofNat x)), .val (.int (Int32.ofNat (x / 64 ^ i))), .val (.ref lv), .val (.int (Int32.ofNat L)), .val (.int (Int32.ofNat i)), .val (.ref (ad i))] [(.int (6 : Int32)), (.int (Int32.ofNat (x / 64 ^ i)))])
        refine X1.step (fun hA hx hq t_ k_ => XS.iushr hA hx rfl (hb hq d6_65) rfl k_) ?_
        show OFin _ _ _ _ _ _ _ _ T1 (mkF m 66 #[.val (.ref a1), .val (.int (Int32.ofNat x)), .val (.int (Int32.ofNat (x / 64 ^ i))), .val (.ref lv), .val (.int (Int32.ofNat L)), .val (.int (Int32.ofNat i)), .val (.ref (ad i))] [(.int (((Int32.ofNat (x / 64 ^ i)).toUInt32 >>> ((6 : Int32) &&& 31).toUInt32).toInt32))])
        rw [own_ush6 _ hxi, ← own_div]
        show OFin _ _ _ _ _ _ _ _ T1 (mkF m 66 #[.val (.ref a1), .val (.int (Int32.ofNat x)), .val (.int (Int32.ofNat (x / 64 ^ i))), .val (.ref lv), .val (.int (Int32.ofNat L)), .val (.int (Int32.ofNat i)), .val (.ref (ad i))] [(.int (Int32.ofNat (x / 64 ^ (i + 1))))])
        refine X1.step (fun hA hx hq t_ k_ => XS.istoreN hA hx rfl (hb hq d6_66) rfl (l' := #[.val (.ref a1), .val (.int (Int32.ofNat x)), .val (.int (Int32.ofNat (x / 64 ^ (i + 1)))), .val (.ref lv), .val (.int (Int32.ofNat L)), .val (.int (Int32.ofNat i)), .val (.ref (ad i))]) rfl k_) ?_
        show OFin _ _ _ _ _ _ _ _ T1 (mkF m 67 #[.val (.ref a1), .val (.int (Int32.ofNat x)), .val (.int (Int32.ofNat (x / 64 ^ (i + 1)))), .val (.ref lv), .val (.int (Int32.ofNat L)), .val (.int (Int32.ofNat i)), .val (.ref (ad i))] [])
        refine X1.step (fun hA hx hq t_ k_ => XS.iinc hA hx rfl (hb hq d6_67) rfl (l' := #[.val (.ref a1), .val (.int (Int32.ofNat x)), .val (.int (Int32.ofNat (x / 64 ^ (i + 1)))), .val (.ref lv), .val (.int (Int32.ofNat L)), .val (.int ((Int32.ofNat i) + (1 : Int32))), .val (.ref (ad i))]) rfl k_) ?_
        show OFin _ _ _ _ _ _ _ _ T1 (mkF m 70 #[.val (.ref a1), .val (.int (Int32.ofNat x)), .val (.int (Int32.ofNat (x / 64 ^ (i + 1)))), .val (.ref lv), .val (.int (Int32.ofNat L)), .val (.int ((Int32.ofNat i) + (1 : Int32))), .val (.ref (ad i))] [])
        rw [own_succ i (by omega)]
        show OFin _ _ _ _ _ _ _ _ T1 (mkF m 70 #[.val (.ref a1), .val (.int (Int32.ofNat x)), .val (.int (Int32.ofNat (x / 64 ^ (i + 1)))), .val (.ref lv), .val (.int (Int32.ofNat L)), .val (.int (Int32.ofNat (i + 1))), .val (.ref (ad i))] [])
        refine X1.step (fun hA hx hq t_ k_ => XS.goto hA hx rfl (pc0 := 70) (pc' := 14) rfl (hb hq d6_70) (by decide) (by decide) k_) ?_
        show OFin _ _ _ _ _ _ _ _ T1 (mkF m 14 #[.val (.ref a1), .val (.int (Int32.ofNat x)), .val (.int (Int32.ofNat (x / 64 ^ (i + 1)))), .val (.ref lv), .val (.int (Int32.ofNat L)), .val (.int (Int32.ofNat (i + 1))), .val (.ref (ad i))] [])
        exact ih (i + 1) T1 h1 _ (by omega) (One.val rfl) X1 ⟨_, D2, lo2, hi2, up⟩
      · refine X1.step (fun hA hx hq t_ k_ => XS.ifNo hA hx rfl (hb hq d6_56) rfl ((if0 _ _).trans (feq (kz)).1) k_) ?_
        show OFin _ _ _ _ _ _ _ _ T1 (mkF m 59 #[.val (.ref a1), .val (.int (Int32.ofNat x)), .val (.int (Int32.ofNat (x / 64 ^ i))), .val (.ref lv), .val (.int (Int32.ofNat L)), .val (.int (Int32.ofNat i)), .val (.ref (ad i))] [])
        have wz := fun q => kz ((lw_eq _ _).mpr q)
        have ex := own_remN mid hxj (by simp only [if_true]; exact wz)
        refine X1.step (fun hA hx hq t_ k_ => XS.goto hA hx rfl (pc0 := 59) (pc' := 73) rfl (hb hq d6_59) (by decide) (by decide) k_) ?_
        show OFin _ _ _ _ _ _ _ _ T1 (mkF m 73 #[.val (.ref a1), .val (.int (Int32.ofNat x)), .val (.int (Int32.ofNat (x / 64 ^ i))), .val (.ref lv), .val (.int (Int32.ofNat L)), .val (.int (Int32.ofNat i)), .val (.ref (ad i))] [])
        exact X1.retV d6_73 (by decide) (by decide) (⟨rfl, _, D2, fun i' hi' => if c : i' < i + 1 then lo2 i' c else own_remUp (hi2 i' (by omega) hi') (by omega : i + 1 ≤ i') ex⟩)
  obtain ⟨E1, F1, ⟨V1, -⟩, -⟩ := id D0
  obtain ⟨c1, A1, S1, H1⟩ := id V1
  refine X0.step (fun hA hx hq t_ k_ => XS.iloadN hA hx rfl (hb hq d6_0) rfl k_) ?_
  show OFin _ _ _ _ _ _ _ _ T0 (mkF m 1 #[.val (.ref a1), .val (.int (Int32.ofNat x)), .unset, .unset, .unset, .unset, .unset] [(.int (Int32.ofNat x))])
  refine X0.step (fun hA hx hq t_ k_ => XS.istoreN hA hx rfl (hb hq d6_1) rfl (l' := #[.val (.ref a1), .val (.int (Int32.ofNat x)), .val (.int (Int32.ofNat x)), .unset, .unset, .unset, .unset]) rfl k_) ?_
  show OFin _ _ _ _ _ _ _ _ T0 (mkF m 2 #[.val (.ref a1), .val (.int (Int32.ofNat x)), .val (.int (Int32.ofNat x)), .unset, .unset, .unset, .unset] [])
  refine X0.step (fun hA hx hq t_ k_ => XS.aloadN hA hx rfl (hb hq d6_2) rfl rfl k_) ?_
  show OFin _ _ _ _ _ _ _ _ T0 (mkF m 3 #[.val (.ref a1), .val (.int (Int32.ofNat x)), .val (.int (Int32.ofNat x)), .unset, .unset, .unset, .unset] [(.ref a1)])
  refine X0.getF (hw _ (List.mem_of_getElem? (i := 20) rfl)) F1 (g := (mkF m 3 #[.val (.ref a1), .val (.int (Int32.ofNat x)), .val (.int (Int32.ofNat x)), .unset, .unset, .unset, .unset] [(.ref a1)])) rfl rfl d6_3 ?_
  intro T2 X2
  show OFin _ _ _ _ _ _ _ _ T2 (mkF m 6 #[.val (.ref a1), .val (.int (Int32.ofNat x)), .val (.int (Int32.ofNat x)), .unset, .unset, .unset, .unset] [(.ref lv)])
  refine X2.step (fun hA hx hq t_ k_ => XS.astoreN hA hx rfl (hb hq d6_6) rfl rfl (l' := #[.val (.ref a1), .val (.int (Int32.ofNat x)), .val (.int (Int32.ofNat x)), .val (.ref lv), .unset, .unset, .unset]) rfl k_) ?_
  show OFin _ _ _ _ _ _ _ _ T2 (mkF m 7 #[.val (.ref a1), .val (.int (Int32.ofNat x)), .val (.int (Int32.ofNat x)), .val (.ref lv), .unset, .unset, .unset] [])
  refine X2.step (fun hA hx hq t_ k_ => XS.aloadN hA hx rfl (hb hq d6_7) rfl rfl k_) ?_
  show OFin _ _ _ _ _ _ _ _ T2 (mkF m 8 #[.val (.ref a1), .val (.int (Int32.ofNat x)), .val (.int (Int32.ofNat x)), .val (.ref lv), .unset, .unset, .unset] [(.ref lv)])
  refine X2.alen A1 (n := (Int32.ofNat L)) (by rw [S1]) (g := (mkF m 8 #[.val (.ref a1), .val (.int (Int32.ofNat x)), .val (.int (Int32.ofNat x)), .val (.ref lv), .unset, .unset, .unset] [(.ref lv)])) rfl rfl d6_8 ?_
  show OFin _ _ _ _ _ _ _ _ T2 (mkF m 9 #[.val (.ref a1), .val (.int (Int32.ofNat x)), .val (.int (Int32.ofNat x)), .val (.ref lv), .unset, .unset, .unset] [(.int (Int32.ofNat L))])
  refine X2.step (fun hA hx hq t_ k_ => XS.istore hA hx rfl (hb hq d6_9) rfl (l' := #[.val (.ref a1), .val (.int (Int32.ofNat x)), .val (.int (Int32.ofNat x)), .val (.ref lv), .val (.int (Int32.ofNat L)), .unset, .unset]) rfl k_) ?_
  show OFin _ _ _ _ _ _ _ _ T2 (mkF m 11 #[.val (.ref a1), .val (.int (Int32.ofNat x)), .val (.int (Int32.ofNat x)), .val (.ref lv), .val (.int (Int32.ofNat L)), .unset, .unset] [])
  refine X2.step (fun hA hx hq t_ k_ => XS.iconst hA hx rfl (hb hq d6_11) k_) ?_
  show OFin _ _ _ _ _ _ _ _ T2 (mkF m 12 #[.val (.ref a1), .val (.int (Int32.ofNat x)), .val (.int (Int32.ofNat x)), .val (.ref lv), .val (.int (Int32.ofNat L)), .unset, .unset] [(.int (0 : Int32))])
  refine X2.step (fun hA hx hq t_ k_ => XS.istore hA hx rfl (hb hq d6_12) rfl (l' := #[.val (.ref a1), .val (.int (Int32.ofNat x)), .val (.int (Int32.ofNat x)), .val (.ref lv), .val (.int (Int32.ofNat L)), .val (.int (0 : Int32)), .unset]) rfl k_) ?_
  show OFin _ _ _ _ _ _ _ _ T2 (mkF m 14 #[.val (.ref a1), .val (.int (Int32.ofNat x)), .val (.int (Int32.ofNat x)), .val (.ref lv), .val (.int (Int32.ofNat L)), .val (.int (0 : Int32)), .unset] [])
  have fin := loop L 0 T2 h0 .unset (by omega) One.u X2 ⟨W0, D0, fun i' q => by omega, fun i' _ q => O0 i' q, fun s _ q c => q (by simpa using c)⟩
  rw [Nat.pow_zero, Nat.div_one] at fin
  exact fin
theorem d10_0 : decode prog_43_method_3_code 0 = .ok (.aload_n 0, 1) := by decide +kernel
theorem d10_1 : decode prog_43_method_3_code 1 = .ok (.getfield 15, 3) := by decide +kernel
theorem d10_4 : decode prog_43_method_3_code 4 = .ok (.aload_n 0, 1) := by decide +kernel
theorem d10_5 : decode prog_43_method_3_code 5 = .ok (.getfield 15, 3) := by decide +kernel
theorem d10_8 : decode prog_43_method_3_code 8 = .ok (.arraylength, 1) := by decide +kernel
theorem d10_9 : decode prog_43_method_3_code 9 = .ok (.iconst 1, 1) := by decide +kernel
theorem d10_10 : decode prog_43_method_3_code 10 = .ok (.isub, 1) := by decide +kernel
theorem d10_11 : decode prog_43_method_3_code 11 = .ok (.aaload, 1) := by decide +kernel
theorem d10_12 : decode prog_43_method_3_code 12 = .ok (.iconst 0, 1) := by decide +kernel
theorem d10_13 : decode prog_43_method_3_code 13 = .ok (.laload, 1) := by decide +kernel
theorem d10_14 : decode prog_43_method_3_code 14 = .ok (.lconst 0, 1) := by decide +kernel
theorem d10_15 : decode prog_43_method_3_code 15 = .ok (.lcmp, 1) := by decide +kernel
theorem d10_16 : decode prog_43_method_3_code 16 = .ok (.ifCond .ne 7, 3) := by decide +kernel
theorem d10_23 : decode prog_43_method_3_code 23 = .ok (.iconst 0, 1) := by decide +kernel
theorem d10_24 : decode prog_43_method_3_code 24 = .ok (.ireturn, 1) := by decide +kernel
theorem d10_19 : decode prog_43_method_3_code 19 = .ok (.iconst 1, 1) := by decide +kernel
theorem d10_20 : decode prog_43_method_3_code 20 = .ok (.goto 4, 3) := by decide +kernel
set_option maxRecDepth 65536 in
set_option maxHeartbeats 40000000 in
theorem rm6 (l : Launch) (Z : State) (a0 : Array Value) (hw : ∀ d ∈ tables_1, d.before a0 Z = true) (a1 lv : Addr) (L : Nat) (ad : Nat → Addr) (N : Nat → Nat) (S : Nat → Prop) (n : Nat) (h0 : Heap) (n0 : Nat) (D : OS Z h0 n0 a1 lv L ad N S) (hN : ONum n L N) (hS : ∀ s, S s → s < n) (hn : n ≤ 524288) :
    OMeets l Z (⟨"com/example/interleave/interleave/NodeSet", "isEmpty", "()Z"⟩ : MethodName) [] prog_43_method_3_code 1 (some .boolean) ({ frames := 0, cells := 0, slots := 0, locals := 0 } : Room) #[(.ref a1)] h0 n0 (fun v h => h0 = h ∧ ∃ g, v = some (.int g) ∧ ((g = 1 ∧ ∀ s, ¬ S s) ∨ (g = 0 ∧ ∃ s, S s))) := by
  refine o_enter (Z := Z) (plainFor_of_name pn_com_example_interleave_interleave_NodeSet) ?_
  intro p e s m below meth c T0 X0
  refine OFin.cast (g' := (mkF m 0 #[.val (.ref a1)] [])) (by first | (simp [entryFrame, mkF, argsToLocals, Value.category]; done) | rfl) ?_
  obtain ⟨W, ⟨E1, F1, ⟨V1, Va⟩, -⟩, O1⟩ := D
  obtain ⟨hL0, hL6, hL1, hNb, hNx⟩ := id hN
  obtain ⟨c1, A1, S1, H1⟩ := id V1
  obtain ⟨M, rfl⟩ : ∃ M, L = M + 1 := ⟨L - 1, by omega⟩
  obtain ⟨c2, A2, S2, H2⟩ := id (Va M (by omega))
  have e1 : N M = 1 := hL1
  refine X0.step (fun hA hx hq t_ k_ => XS.aloadN hA hx rfl (hb hq d10_0) rfl rfl k_) ?_
  show OFin _ _ _ _ _ _ _ _ T0 (mkF m 1 #[.val (.ref a1)] [(.ref a1)])
  refine X0.getF (hw _ (List.mem_of_getElem? (i := 20) rfl)) F1 (g := (mkF m 1 #[.val (.ref a1)] [(.ref a1)])) rfl rfl d10_1 ?_
  intro T1 X1
  show OFin _ _ _ _ _ _ _ _ T1 (mkF m 4 #[.val (.ref a1)] [(.ref lv)])
  refine X1.step (fun hA hx hq t_ k_ => XS.aloadN hA hx rfl (hb hq d10_4) rfl rfl k_) ?_
  show OFin _ _ _ _ _ _ _ _ T1 (mkF m 5 #[.val (.ref a1)] [(.ref a1), (.ref lv)])
  refine X1.getF (hw _ (List.mem_of_getElem? (i := 20) rfl)) F1 (g := (mkF m 5 #[.val (.ref a1)] [(.ref a1), (.ref lv)])) rfl rfl d10_5 ?_
  intro T2 X2
  show OFin _ _ _ _ _ _ _ _ T2 (mkF m 8 #[.val (.ref a1)] [(.ref lv), (.ref lv)])
  refine X2.alen A1 (n := (Int32.ofNat (M + 1))) (by rw [S1]) (g := (mkF m 8 #[.val (.ref a1)] [(.ref lv), (.ref lv)])) rfl rfl d10_8 ?_
  show OFin _ _ _ _ _ _ _ _ T2 (mkF m 9 #[.val (.ref a1)] [(.int (Int32.ofNat (M + 1))), (.ref lv)])
  refine X2.step (fun hA hx hq t_ k_ => XS.iconst hA hx rfl (hb hq d10_9) k_) ?_
  show OFin _ _ _ _ _ _ _ _ T2 (mkF m 10 #[.val (.ref a1)] [(.int (1 : Int32)), (.int (Int32.ofNat (M + 1))), (.ref lv)])
  refine X2.step (fun hA hx hq t_ k_ => XS.isub hA hx rfl (hb hq d10_10) rfl k_) ?_
  show OFin _ _ _ _ _ _ _ _ T2 (mkF m 11 #[.val (.ref a1)] [(.int ((Int32.ofNat (M + 1)) - (1 : Int32))), (.ref lv)])
  rw [own_sub1 M (by omega)]
  show OFin _ _ _ _ _ _ _ _ T2 (mkF m 11 #[.val (.ref a1)] [(.int (Int32.ofNat M)), (.ref lv)])
  refine X2.aload0 A1 (v := (.ref (ad M))) (o_in S1 (by rw [own_i _ (by omega)]; omega) (by rw [own_i _ (by omega)]; omega)) (by rw [own_iN _ (by omega)]; exact H1 M (by omega)) (g := (mkF m 11 #[.val (.ref a1)] [(.int (Int32.ofNat M)), (.ref lv)])) rfl rfl (Or.inr (Or.inr (Or.inr (Or.inr (⟨rfl, rfl⟩))))) d10_11 ?_
  show OFin _ _ _ _ _ _ _ _ T2 (mkF m 12 #[.val (.ref a1)] [(.ref (ad M))])
  refine X2.step (fun hA hx hq t_ k_ => XS.iconst hA hx rfl (hb hq d10_12) k_) ?_
  show OFin _ _ _ _ _ _ _ _ T2 (mkF m 13 #[.val (.ref a1)] [(.int (0 : Int32)), (.ref (ad M))])
  refine X2.aload0 A2 (v := (.long (W M 0))) (o_in S2 (by decide) (by rw [e1]; decide)) (by rw [show (0 : Int32).toNatClampNeg = 0 by decide]; exact H2 0 (by omega)) (g := (mkF m 13 #[.val (.ref a1)] [(.int (0 : Int32)), (.ref (ad M))])) rfl rfl (Or.inr (Or.inl ⟨rfl, rfl⟩)) d10_13 ?_
  show OFin _ _ _ _ _ _ _ _ T2 (mkF m 14 #[.val (.ref a1)] [(.long (W M 0))])
  refine X2.step (fun hA hx hq t_ k_ => XS.lconst hA hx rfl (hb hq d10_14) k_) ?_
  show OFin _ _ _ _ _ _ _ _ T2 (mkF m 15 #[.val (.ref a1)] [(.long (0 : Int64)), (.long (W M 0))])
  refine X2.step (fun hA hx hq t_ k_ => XS.lcmp hA hx rfl (hb hq d10_15) rfl k_) ?_
  show OFin _ _ _ _ _ _ _ _ T2 (mkF m 16 #[.val (.ref a1)] [(.int (lcmpW (W M 0) (0 : Int64)))])
  have key : W M 0 = 0 ↔ ∀ s, ¬ S s := by
    rw [own_zero]
    constructor
    · intro q s hs
      have h1 := hNx M (by omega) s (hS s hs)
      rw [own_div, e1] at h1
      have h2 := q (s / 64 ^ M) (by omega)
      rw [(O1 M (by omega) 0 (by omega) (s / 64 ^ M) (by omega)).mpr ⟨s, hs, by omega⟩] at h2
      cases h2
    · intro q b hb
      cases hc : bt (W M 0) b with
      | false => rfl
      | true =>
        obtain ⟨s, hs, -⟩ := (O1 M (by omega) 0 (by omega) b hb).mp hc
        exact (q s hs).elim
  by_cases kz : (lcmpW (W M 0) (0 : Int64)) = (0 : Int32)
  · refine X2.step (fun hA hx hq t_ k_ => XS.ifNo hA hx rfl (hb hq d10_16) rfl ((if0 _ _).trans (teq (kz)).2) k_) ?_
    show OFin _ _ _ _ _ _ _ _ T2 (mkF m 19 #[.val (.ref a1)] [])
    refine X2.step (fun hA hx hq t_ k_ => XS.iconst hA hx rfl (hb hq d10_19) k_) ?_
    show OFin _ _ _ _ _ _ _ _ T2 (mkF m 20 #[.val (.ref a1)] [(.int (1 : Int32))])
    refine X2.step (fun hA hx hq t_ k_ => XS.goto hA hx rfl (pc0 := 20) (pc' := 24) rfl (hb hq d10_20) (by decide) (by decide) k_) ?_
    show OFin _ _ _ _ _ _ _ _ T2 (mkF m 24 #[.val (.ref a1)] [(.int (1 : Int32))])
    exact X2.retN (by simp) d10_24 (by decide) (by decide) (⟨rfl, _, rfl, Or.inl ⟨rfl, key.mp ((lw_eq _ _).mp kz)⟩⟩)
  · refine X2.step (fun hA hx hq t_ k_ => XS.ifYes hA hx rfl (pc0 := 16) (pc' := 23) rfl (hb hq d10_16) rfl ((if0 _ _).trans (feq (kz)).2) (by decide) (by decide) k_) ?_
    show OFin _ _ _ _ _ _ _ _ T2 (mkF m 23 #[.val (.ref a1)] [])
    refine X2.step (fun hA hx hq t_ k_ => XS.iconst hA hx rfl (hb hq d10_23) k_) ?_
    show OFin _ _ _ _ _ _ _ _ T2 (mkF m 24 #[.val (.ref a1)] [(.int (0 : Int32))])
    exact X2.retN (by simp) d10_24 (by decide) (by decide) (⟨rfl, _, rfl, Or.inr ⟨rfl, Classical.byContradiction fun c => kz ((lw_eq _ _).mpr (key.mpr fun s hs => c ⟨s, hs⟩))⟩⟩)
theorem own_leaf0 : ∀ t : Fin 32, ((0 : Int32) < (Int32.ofNat (2 ^ t.1 - 1))) → (¬ ((65536 : Int32) < (Int32.ofNat (2 ^ t.1 - 1)))) → (¬ ((256 : Int32) < (Int32.ofNat (2 ^ t.1 - 1)))) → (¬ ((16 : Int32) < (Int32.ofNat (2 ^ t.1 - 1)))) → (¬ ((4 : Int32) < (Int32.ofNat (2 ^ t.1 - 1)))) → ((1 : Int32) + (((Int32.ofNat (2 ^ t.1 - 1)).toUInt32 >>> ((1 : Int32) &&& 31).toUInt32).toInt32)) = Int32.ofNat t.1 := by decide +kernel
theorem own_leaf1 : ∀ t : Fin 32, ((0 : Int32) < (Int32.ofNat (2 ^ t.1 - 1))) → (¬ ((65536 : Int32) < (Int32.ofNat (2 ^ t.1 - 1)))) → (¬ ((256 : Int32) < (Int32.ofNat (2 ^ t.1 - 1)))) → (¬ ((16 : Int32) < (Int32.ofNat (2 ^ t.1 - 1)))) → ((4 : Int32) < (Int32.ofNat (2 ^ t.1 - 1))) → (((1 : Int32) + (2 : Int32)) + (((((Int32.ofNat (2 ^ t.1 - 1)).toUInt32 >>> ((2 : Int32) &&& 31).toUInt32).toInt32).toUInt32 >>> ((1 : Int32) &&& 31).toUInt32).toInt32)) = Int32.ofNat t.1 := by decide +kernel
theorem own_leaf2 : ∀ t : Fin 32, ((0 : Int32) < (Int32.ofNat (2 ^ t.1 - 1))) → (¬ ((65536 : Int32) < (Int32.ofNat (2 ^ t.1 - 1)))) → (¬ ((256 : Int32) < (Int32.ofNat (2 ^ t.1 - 1)))) → ((16 : Int32) < (Int32.ofNat (2 ^ t.1 - 1))) → (¬ ((4 : Int32) < (((Int32.ofNat (2 ^ t.1 - 1)).toUInt32 >>> ((4 : Int32) &&& 31).toUInt32).toInt32))) → (((1 : Int32) + (4 : Int32)) + (((((Int32.ofNat (2 ^ t.1 - 1)).toUInt32 >>> ((4 : Int32) &&& 31).toUInt32).toInt32).toUInt32 >>> ((1 : Int32) &&& 31).toUInt32).toInt32)) = Int32.ofNat t.1 := by decide +kernel
theorem own_leaf3 : ∀ t : Fin 32, ((0 : Int32) < (Int32.ofNat (2 ^ t.1 - 1))) → (¬ ((65536 : Int32) < (Int32.ofNat (2 ^ t.1 - 1)))) → (¬ ((256 : Int32) < (Int32.ofNat (2 ^ t.1 - 1)))) → ((16 : Int32) < (Int32.ofNat (2 ^ t.1 - 1))) → ((4 : Int32) < (((Int32.ofNat (2 ^ t.1 - 1)).toUInt32 >>> ((4 : Int32) &&& 31).toUInt32).toInt32)) → ((((1 : Int32) + (4 : Int32)) + (2 : Int32)) + (((((((Int32.ofNat (2 ^ t.1 - 1)).toUInt32 >>> ((4 : Int32) &&& 31).toUInt32).toInt32).toUInt32 >>> ((2 : Int32) &&& 31).toUInt32).toInt32).toUInt32 >>> ((1 : Int32) &&& 31).toUInt32).toInt32)) = Int32.ofNat t.1 := by decide +kernel
theorem own_leaf4 : ∀ t : Fin 32, ((0 : Int32) < (Int32.ofNat (2 ^ t.1 - 1))) → (¬ ((65536 : Int32) < (Int32.ofNat (2 ^ t.1 - 1)))) → ((256 : Int32) < (Int32.ofNat (2 ^ t.1 - 1))) → (¬ ((16 : Int32) < (((Int32.ofNat (2 ^ t.1 - 1)).toUInt32 >>> ((8 : Int32) &&& 31).toUInt32).toInt32))) → (¬ ((4 : Int32) < (((Int32.ofNat (2 ^ t.1 - 1)).toUInt32 >>> ((8 : Int32) &&& 31).toUInt32).toInt32))) → (((1 : Int32) + (8 : Int32)) + (((((Int32.ofNat (2 ^ t.1 - 1)).toUInt32 >>> ((8 : Int32) &&& 31).toUInt32).toInt32).toUInt32 >>> ((1 : Int32) &&& 31).toUInt32).toInt32)) = Int32.ofNat t.1 := by decide +kernel
theorem own_leaf5 : ∀ t : Fin 32, ((0 : Int32) < (Int32.ofNat (2 ^ t.1 - 1))) → (¬ ((65536 : Int32) < (Int32.ofNat (2 ^ t.1 - 1)))) → ((256 : Int32) < (Int32.ofNat (2 ^ t.1 - 1))) → (¬ ((16 : Int32) < (((Int32.ofNat (2 ^ t.1 - 1)).toUInt32 >>> ((8 : Int32) &&& 31).toUInt32).toInt32))) → ((4 : Int32) < (((Int32.ofNat (2 ^ t.1 - 1)).toUInt32 >>> ((8 : Int32) &&& 31).toUInt32).toInt32)) → ((((1 : Int32) + (8 : Int32)) + (2 : Int32)) + (((((((Int32.ofNat (2 ^ t.1 - 1)).toUInt32 >>> ((8 : Int32) &&& 31).toUInt32).toInt32).toUInt32 >>> ((2 : Int32) &&& 31).toUInt32).toInt32).toUInt32 >>> ((1 : Int32) &&& 31).toUInt32).toInt32)) = Int32.ofNat t.1 := by decide +kernel
theorem own_leaf6 : ∀ t : Fin 32, ((0 : Int32) < (Int32.ofNat (2 ^ t.1 - 1))) → (¬ ((65536 : Int32) < (Int32.ofNat (2 ^ t.1 - 1)))) → ((256 : Int32) < (Int32.ofNat (2 ^ t.1 - 1))) → ((16 : Int32) < (((Int32.ofNat (2 ^ t.1 - 1)).toUInt32 >>> ((8 : Int32) &&& 31).toUInt32).toInt32)) → (¬ ((4 : Int32) < (((((Int32.ofNat (2 ^ t.1 - 1)).toUInt32 >>> ((8 : Int32) &&& 31).toUInt32).toInt32).toUInt32 >>> ((4 : Int32) &&& 31).toUInt32).toInt32))) → ((((1 : Int32) + (8 : Int32)) + (4 : Int32)) + (((((((Int32.ofNat (2 ^ t.1 - 1)).toUInt32 >>> ((8 : Int32) &&& 31).toUInt32).toInt32).toUInt32 >>> ((4 : Int32) &&& 31).toUInt32).toInt32).toUInt32 >>> ((1 : Int32) &&& 31).toUInt32).toInt32)) = Int32.ofNat t.1 := by decide +kernel
theorem own_leaf7 : ∀ t : Fin 32, ((0 : Int32) < (Int32.ofNat (2 ^ t.1 - 1))) → (¬ ((65536 : Int32) < (Int32.ofNat (2 ^ t.1 - 1)))) → ((256 : Int32) < (Int32.ofNat (2 ^ t.1 - 1))) → ((16 : Int32) < (((Int32.ofNat (2 ^ t.1 - 1)).toUInt32 >>> ((8 : Int32) &&& 31).toUInt32).toInt32)) → ((4 : Int32) < (((((Int32.ofNat (2 ^ t.1 - 1)).toUInt32 >>> ((8 : Int32) &&& 31).toUInt32).toInt32).toUInt32 >>> ((4 : Int32) &&& 31).toUInt32).toInt32)) → (((((1 : Int32) + (8 : Int32)) + (4 : Int32)) + (2 : Int32)) + (((((((((Int32.ofNat (2 ^ t.1 - 1)).toUInt32 >>> ((8 : Int32) &&& 31).toUInt32).toInt32).toUInt32 >>> ((4 : Int32) &&& 31).toUInt32).toInt32).toUInt32 >>> ((2 : Int32) &&& 31).toUInt32).toInt32).toUInt32 >>> ((1 : Int32) &&& 31).toUInt32).toInt32)) = Int32.ofNat t.1 := by decide +kernel
theorem own_leaf8 : ∀ t : Fin 32, ((0 : Int32) < (Int32.ofNat (2 ^ t.1 - 1))) → ((65536 : Int32) < (Int32.ofNat (2 ^ t.1 - 1))) → (¬ ((256 : Int32) < (((Int32.ofNat (2 ^ t.1 - 1)).toUInt32 >>> ((16 : Int32) &&& 31).toUInt32).toInt32))) → (¬ ((16 : Int32) < (((Int32.ofNat (2 ^ t.1 - 1)).toUInt32 >>> ((16 : Int32) &&& 31).toUInt32).toInt32))) → (¬ ((4 : Int32) < (((Int32.ofNat (2 ^ t.1 - 1)).toUInt32 >>> ((16 : Int32) &&& 31).toUInt32).toInt32))) → (((1 : Int32) + (16 : Int32)) + (((((Int32.ofNat (2 ^ t.1 - 1)).toUInt32 >>> ((16 : Int32) &&& 31).toUInt32).toInt32).toUInt32 >>> ((1 : Int32) &&& 31).toUInt32).toInt32)) = Int32.ofNat t.1 := by decide +kernel
theorem own_leaf9 : ∀ t : Fin 32, ((0 : Int32) < (Int32.ofNat (2 ^ t.1 - 1))) → ((65536 : Int32) < (Int32.ofNat (2 ^ t.1 - 1))) → (¬ ((256 : Int32) < (((Int32.ofNat (2 ^ t.1 - 1)).toUInt32 >>> ((16 : Int32) &&& 31).toUInt32).toInt32))) → (¬ ((16 : Int32) < (((Int32.ofNat (2 ^ t.1 - 1)).toUInt32 >>> ((16 : Int32) &&& 31).toUInt32).toInt32))) → ((4 : Int32) < (((Int32.ofNat (2 ^ t.1 - 1)).toUInt32 >>> ((16 : Int32) &&& 31).toUInt32).toInt32)) → ((((1 : Int32) + (16 : Int32)) + (2 : Int32)) + (((((((Int32.ofNat (2 ^ t.1 - 1)).toUInt32 >>> ((16 : Int32) &&& 31).toUInt32).toInt32).toUInt32 >>> ((2 : Int32) &&& 31).toUInt32).toInt32).toUInt32 >>> ((1 : Int32) &&& 31).toUInt32).toInt32)) = Int32.ofNat t.1 := by decide +kernel
theorem own_leaf10 : ∀ t : Fin 32, ((0 : Int32) < (Int32.ofNat (2 ^ t.1 - 1))) → ((65536 : Int32) < (Int32.ofNat (2 ^ t.1 - 1))) → (¬ ((256 : Int32) < (((Int32.ofNat (2 ^ t.1 - 1)).toUInt32 >>> ((16 : Int32) &&& 31).toUInt32).toInt32))) → ((16 : Int32) < (((Int32.ofNat (2 ^ t.1 - 1)).toUInt32 >>> ((16 : Int32) &&& 31).toUInt32).toInt32)) → (¬ ((4 : Int32) < (((((Int32.ofNat (2 ^ t.1 - 1)).toUInt32 >>> ((16 : Int32) &&& 31).toUInt32).toInt32).toUInt32 >>> ((4 : Int32) &&& 31).toUInt32).toInt32))) → ((((1 : Int32) + (16 : Int32)) + (4 : Int32)) + (((((((Int32.ofNat (2 ^ t.1 - 1)).toUInt32 >>> ((16 : Int32) &&& 31).toUInt32).toInt32).toUInt32 >>> ((4 : Int32) &&& 31).toUInt32).toInt32).toUInt32 >>> ((1 : Int32) &&& 31).toUInt32).toInt32)) = Int32.ofNat t.1 := by decide +kernel
theorem own_leaf11 : ∀ t : Fin 32, ((0 : Int32) < (Int32.ofNat (2 ^ t.1 - 1))) → ((65536 : Int32) < (Int32.ofNat (2 ^ t.1 - 1))) → (¬ ((256 : Int32) < (((Int32.ofNat (2 ^ t.1 - 1)).toUInt32 >>> ((16 : Int32) &&& 31).toUInt32).toInt32))) → ((16 : Int32) < (((Int32.ofNat (2 ^ t.1 - 1)).toUInt32 >>> ((16 : Int32) &&& 31).toUInt32).toInt32)) → ((4 : Int32) < (((((Int32.ofNat (2 ^ t.1 - 1)).toUInt32 >>> ((16 : Int32) &&& 31).toUInt32).toInt32).toUInt32 >>> ((4 : Int32) &&& 31).toUInt32).toInt32)) → (((((1 : Int32) + (16 : Int32)) + (4 : Int32)) + (2 : Int32)) + (((((((((Int32.ofNat (2 ^ t.1 - 1)).toUInt32 >>> ((16 : Int32) &&& 31).toUInt32).toInt32).toUInt32 >>> ((4 : Int32) &&& 31).toUInt32).toInt32).toUInt32 >>> ((2 : Int32) &&& 31).toUInt32).toInt32).toUInt32 >>> ((1 : Int32) &&& 31).toUInt32).toInt32)) = Int32.ofNat t.1 := by decide +kernel
theorem own_leaf12 : ∀ t : Fin 32, ((0 : Int32) < (Int32.ofNat (2 ^ t.1 - 1))) → ((65536 : Int32) < (Int32.ofNat (2 ^ t.1 - 1))) → ((256 : Int32) < (((Int32.ofNat (2 ^ t.1 - 1)).toUInt32 >>> ((16 : Int32) &&& 31).toUInt32).toInt32)) → (¬ ((16 : Int32) < (((((Int32.ofNat (2 ^ t.1 - 1)).toUInt32 >>> ((16 : Int32) &&& 31).toUInt32).toInt32).toUInt32 >>> ((8 : Int32) &&& 31).toUInt32).toInt32))) → (¬ ((4 : Int32) < (((((Int32.ofNat (2 ^ t.1 - 1)).toUInt32 >>> ((16 : Int32) &&& 31).toUInt32).toInt32).toUInt32 >>> ((8 : Int32) &&& 31).toUInt32).toInt32))) → ((((1 : Int32) + (16 : Int32)) + (8 : Int32)) + (((((((Int32.ofNat (2 ^ t.1 - 1)).toUInt32 >>> ((16 : Int32) &&& 31).toUInt32).toInt32).toUInt32 >>> ((8 : Int32) &&& 31).toUInt32).toInt32).toUInt32 >>> ((1 : Int32) &&& 31).toUInt32).toInt32)) = Int32.ofNat t.1 := by decide +kernel
theorem own_leaf13 : ∀ t : Fin 32, ((0 : Int32) < (Int32.ofNat (2 ^ t.1 - 1))) → ((65536 : Int32) < (Int32.ofNat (2 ^ t.1 - 1))) → ((256 : Int32) < (((Int32.ofNat (2 ^ t.1 - 1)).toUInt32 >>> ((16 : Int32) &&& 31).toUInt32).toInt32)) → (¬ ((16 : Int32) < (((((Int32.ofNat (2 ^ t.1 - 1)).toUInt32 >>> ((16 : Int32) &&& 31).toUInt32).toInt32).toUInt32 >>> ((8 : Int32) &&& 31).toUInt32).toInt32))) → ((4 : Int32) < (((((Int32.ofNat (2 ^ t.1 - 1)).toUInt32 >>> ((16 : Int32) &&& 31).toUInt32).toInt32).toUInt32 >>> ((8 : Int32) &&& 31).toUInt32).toInt32)) → (((((1 : Int32) + (16 : Int32)) + (8 : Int32)) + (2 : Int32)) + (((((((((Int32.ofNat (2 ^ t.1 - 1)).toUInt32 >>> ((16 : Int32) &&& 31).toUInt32).toInt32).toUInt32 >>> ((8 : Int32) &&& 31).toUInt32).toInt32).toUInt32 >>> ((2 : Int32) &&& 31).toUInt32).toInt32).toUInt32 >>> ((1 : Int32) &&& 31).toUInt32).toInt32)) = Int32.ofNat t.1 := by decide +kernel
theorem own_leaf14 : ∀ t : Fin 32, ((0 : Int32) < (Int32.ofNat (2 ^ t.1 - 1))) → ((65536 : Int32) < (Int32.ofNat (2 ^ t.1 - 1))) → ((256 : Int32) < (((Int32.ofNat (2 ^ t.1 - 1)).toUInt32 >>> ((16 : Int32) &&& 31).toUInt32).toInt32)) → ((16 : Int32) < (((((Int32.ofNat (2 ^ t.1 - 1)).toUInt32 >>> ((16 : Int32) &&& 31).toUInt32).toInt32).toUInt32 >>> ((8 : Int32) &&& 31).toUInt32).toInt32)) → (¬ ((4 : Int32) < (((((((Int32.ofNat (2 ^ t.1 - 1)).toUInt32 >>> ((16 : Int32) &&& 31).toUInt32).toInt32).toUInt32 >>> ((8 : Int32) &&& 31).toUInt32).toInt32).toUInt32 >>> ((4 : Int32) &&& 31).toUInt32).toInt32))) → (((((1 : Int32) + (16 : Int32)) + (8 : Int32)) + (4 : Int32)) + (((((((((Int32.ofNat (2 ^ t.1 - 1)).toUInt32 >>> ((16 : Int32) &&& 31).toUInt32).toInt32).toUInt32 >>> ((8 : Int32) &&& 31).toUInt32).toInt32).toUInt32 >>> ((4 : Int32) &&& 31).toUInt32).toInt32).toUInt32 >>> ((1 : Int32) &&& 31).toUInt32).toInt32)) = Int32.ofNat t.1 := by decide +kernel
theorem own_leaf15 : ∀ t : Fin 32, ((0 : Int32) < (Int32.ofNat (2 ^ t.1 - 1))) → ((65536 : Int32) < (Int32.ofNat (2 ^ t.1 - 1))) → ((256 : Int32) < (((Int32.ofNat (2 ^ t.1 - 1)).toUInt32 >>> ((16 : Int32) &&& 31).toUInt32).toInt32)) → ((16 : Int32) < (((((Int32.ofNat (2 ^ t.1 - 1)).toUInt32 >>> ((16 : Int32) &&& 31).toUInt32).toInt32).toUInt32 >>> ((8 : Int32) &&& 31).toUInt32).toInt32)) → ((4 : Int32) < (((((((Int32.ofNat (2 ^ t.1 - 1)).toUInt32 >>> ((16 : Int32) &&& 31).toUInt32).toInt32).toUInt32 >>> ((8 : Int32) &&& 31).toUInt32).toInt32).toUInt32 >>> ((4 : Int32) &&& 31).toUInt32).toInt32)) → ((((((1 : Int32) + (16 : Int32)) + (8 : Int32)) + (4 : Int32)) + (2 : Int32)) + (((((((((((Int32.ofNat (2 ^ t.1 - 1)).toUInt32 >>> ((16 : Int32) &&& 31).toUInt32).toInt32).toUInt32 >>> ((8 : Int32) &&& 31).toUInt32).toInt32).toUInt32 >>> ((4 : Int32) &&& 31).toUInt32).toInt32).toUInt32 >>> ((2 : Int32) &&& 31).toUInt32).toInt32).toUInt32 >>> ((1 : Int32) &&& 31).toUInt32).toInt32)) = Int32.ofNat t.1 := by decide +kernel
theorem own_leaf16 : ∀ t : Fin 32, (¬ ((0 : Int32) < (Int32.ofNat (2 ^ t.1 - 1)))) → ((Int32.ofNat (2 ^ t.1 - 1)) &&& (32 : Int32)) = Int32.ofNat t.1 := by decide +kernel
theorem pn_java_lang_Integer : plainName "java/lang/Integer" = true := by first | (simp [plainName, overriddenIn]; done) | decide +kernel
theorem d12_0 : decode jdk_33_method_48_code 0 = .ok (.iload_n 0, 1) := by decide +kernel
theorem d12_1 : decode jdk_33_method_48_code 1 = .ok (.iconst (-1), 1) := by decide +kernel
theorem d12_2 : decode jdk_33_method_48_code 2 = .ok (.ixor, 1) := by decide +kernel
theorem d12_3 : decode jdk_33_method_48_code 3 = .ok (.iload_n 0, 1) := by decide +kernel
theorem d12_4 : decode jdk_33_method_48_code 4 = .ok (.iconst 1, 1) := by decide +kernel
theorem d12_5 : decode jdk_33_method_48_code 5 = .ok (.isub, 1) := by decide +kernel
theorem d12_6 : decode jdk_33_method_48_code 6 = .ok (.iand, 1) := by decide +kernel
theorem d12_7 : decode jdk_33_method_48_code 7 = .ok (.istore_n 0, 1) := by decide +kernel
theorem d12_8 : decode jdk_33_method_48_code 8 = .ok (.iload_n 0, 1) := by decide +kernel
theorem d12_9 : decode jdk_33_method_48_code 9 = .ok (.ifCond .gt 8, 3) := by decide +kernel
theorem d12_17 : decode jdk_33_method_48_code 17 = .ok (.iconst 1, 1) := by decide +kernel
theorem d12_18 : decode jdk_33_method_48_code 18 = .ok (.istore_n 1, 1) := by decide +kernel
theorem d12_19 : decode jdk_33_method_48_code 19 = .ok (.iload_n 0, 1) := by decide +kernel
theorem d12_20 : decode jdk_33_method_48_code 20 = .ok (.ldc_w 264, 3) := by decide +kernel
theorem d12_23 : decode jdk_33_method_48_code 23 = .ok (.if_icmp .le 11, 3) := by decide +kernel
theorem d12_34 : decode jdk_33_method_48_code 34 = .ok (.iload_n 0, 1) := by decide +kernel
theorem d12_35 : decode jdk_33_method_48_code 35 = .ok (.sipush 256, 3) := by decide +kernel
theorem d12_38 : decode jdk_33_method_48_code 38 = .ok (.if_icmp .le 11, 3) := by decide +kernel
theorem d12_49 : decode jdk_33_method_48_code 49 = .ok (.iload_n 0, 1) := by decide +kernel
theorem d12_50 : decode jdk_33_method_48_code 50 = .ok (.bipush 16, 2) := by decide +kernel
theorem d12_52 : decode jdk_33_method_48_code 52 = .ok (.if_icmp .le 10, 3) := by decide +kernel
theorem d12_62 : decode jdk_33_method_48_code 62 = .ok (.iload_n 0, 1) := by decide +kernel
theorem d12_63 : decode jdk_33_method_48_code 63 = .ok (.iconst 4, 1) := by decide +kernel
theorem d12_64 : decode jdk_33_method_48_code 64 = .ok (.if_icmp .le 10, 3) := by decide +kernel
theorem d12_74 : decode jdk_33_method_48_code 74 = .ok (.iload_n 1, 1) := by decide +kernel
theorem d12_75 : decode jdk_33_method_48_code 75 = .ok (.iload_n 0, 1) := by decide +kernel
theorem d12_76 : decode jdk_33_method_48_code 76 = .ok (.iconst 1, 1) := by decide +kernel
theorem d12_77 : decode jdk_33_method_48_code 77 = .ok (.iushr, 1) := by decide +kernel
theorem d12_78 : decode jdk_33_method_48_code 78 = .ok (.iadd, 1) := by decide +kernel
theorem d12_79 : decode jdk_33_method_48_code 79 = .ok (.ireturn, 1) := by decide +kernel
theorem d12_67 : decode jdk_33_method_48_code 67 = .ok (.iinc 1 2, 3) := by decide +kernel
theorem d12_70 : decode jdk_33_method_48_code 70 = .ok (.iload_n 0, 1) := by decide +kernel
theorem d12_71 : decode jdk_33_method_48_code 71 = .ok (.iconst 2, 1) := by decide +kernel
theorem d12_72 : decode jdk_33_method_48_code 72 = .ok (.iushr, 1) := by decide +kernel
theorem d12_73 : decode jdk_33_method_48_code 73 = .ok (.istore_n 0, 1) := by decide +kernel
theorem d12_55 : decode jdk_33_method_48_code 55 = .ok (.iinc 1 4, 3) := by decide +kernel
theorem d12_58 : decode jdk_33_method_48_code 58 = .ok (.iload_n 0, 1) := by decide +kernel
theorem d12_59 : decode jdk_33_method_48_code 59 = .ok (.iconst 4, 1) := by decide +kernel
theorem d12_60 : decode jdk_33_method_48_code 60 = .ok (.iushr, 1) := by decide +kernel
theorem d12_61 : decode jdk_33_method_48_code 61 = .ok (.istore_n 0, 1) := by decide +kernel
theorem d12_41 : decode jdk_33_method_48_code 41 = .ok (.iinc 1 8, 3) := by decide +kernel
theorem d12_44 : decode jdk_33_method_48_code 44 = .ok (.iload_n 0, 1) := by decide +kernel
theorem d12_45 : decode jdk_33_method_48_code 45 = .ok (.bipush 8, 2) := by decide +kernel
theorem d12_47 : decode jdk_33_method_48_code 47 = .ok (.iushr, 1) := by decide +kernel
theorem d12_48 : decode jdk_33_method_48_code 48 = .ok (.istore_n 0, 1) := by decide +kernel
theorem d12_26 : decode jdk_33_method_48_code 26 = .ok (.iinc 1 16, 3) := by decide +kernel
theorem d12_29 : decode jdk_33_method_48_code 29 = .ok (.iload_n 0, 1) := by decide +kernel
theorem d12_30 : decode jdk_33_method_48_code 30 = .ok (.bipush 16, 2) := by decide +kernel
theorem d12_32 : decode jdk_33_method_48_code 32 = .ok (.iushr, 1) := by decide +kernel
theorem d12_33 : decode jdk_33_method_48_code 33 = .ok (.istore_n 0, 1) := by decide +kernel
theorem d12_12 : decode jdk_33_method_48_code 12 = .ok (.iload_n 0, 1) := by decide +kernel
theorem d12_13 : decode jdk_33_method_48_code 13 = .ok (.bipush 32, 2) := by decide +kernel
theorem d12_15 : decode jdk_33_method_48_code 15 = .ok (.iand, 1) := by decide +kernel
theorem d12_16 : decode jdk_33_method_48_code 16 = .ok (.ireturn, 1) := by decide +kernel
set_option maxRecDepth 65536 in
set_option maxHeartbeats 40000000 in
theorem rm7 (l : Launch) (Z : State) (a0 : Array Value) (hw : ∀ d ∈ tables_1, d.before a0 Z = true) (x : Int32) (t q : Nat) (h0 : Heap) (n0 : Nat) (h : x.toBitVec.toNat = 2 ^ t * (2 * q + 1)) (ht : t < 32) :
    OMeets l Z (⟨"java/lang/Integer", "numberOfTrailingZeros", "(I)I"⟩ : MethodName) [] jdk_33_method_48_code 2 (some .int) ({ frames := 0, cells := 0, slots := 0, locals := 0 } : Room) #[(.int x)] h0 n0 (fun v h => v = some (.int (Int32.ofNat t)) ∧ h0 = h) := by
  refine o_enter (Z := Z) (plainFor_of_name pn_java_lang_Integer) ?_
  intro p e s m below meth c T0 X0
  refine OFin.cast (g' := (mkF m 0 #[.val (.int x), .unset] [])) (by first | (simp [entryFrame, mkF, argsToLocals, Value.category]; done) | rfl) ?_
  refine X0.step (fun hA hx hq t_ k_ => XS.iloadN hA hx rfl (hb hq d12_0) rfl k_) ?_
  show OFin _ _ _ _ _ _ _ _ T0 (mkF m 1 #[.val (.int x), .unset] [(.int x)])
  refine X0.step (fun hA hx hq t_ k_ => XS.iconst hA hx rfl (hb hq d12_1) k_) ?_
  show OFin _ _ _ _ _ _ _ _ T0 (mkF m 2 #[.val (.int x), .unset] [(.int (-1 : Int32)), (.int x)])
  refine X0.step (fun hA hx hq t_ k_ => XS.ixor hA hx rfl (hb hq d12_2) rfl k_) ?_
  show OFin _ _ _ _ _ _ _ _ T0 (mkF m 3 #[.val (.int x), .unset] [(.int (x ^^^ (-1 : Int32)))])
  refine X0.step (fun hA hx hq t_ k_ => XS.iloadN hA hx rfl (hb hq d12_3) rfl k_) ?_
  show OFin _ _ _ _ _ _ _ _ T0 (mkF m 4 #[.val (.int x), .unset] [(.int x), (.int (x ^^^ (-1 : Int32)))])
  refine X0.step (fun hA hx hq t_ k_ => XS.iconst hA hx rfl (hb hq d12_4) k_) ?_
  show OFin _ _ _ _ _ _ _ _ T0 (mkF m 5 #[.val (.int x), .unset] [(.int (1 : Int32)), (.int x), (.int (x ^^^ (-1 : Int32)))])
  refine X0.step (fun hA hx hq t_ k_ => XS.isub hA hx rfl (hb hq d12_5) rfl k_) ?_
  show OFin _ _ _ _ _ _ _ _ T0 (mkF m 6 #[.val (.int x), .unset] [(.int (x - (1 : Int32))), (.int (x ^^^ (-1 : Int32)))])
  refine X0.step (fun hA hx hq t_ k_ => XS.iand hA hx rfl (hb hq d12_6) rfl k_) ?_
  show OFin _ _ _ _ _ _ _ _ T0 (mkF m 7 #[.val (.int x), .unset] [(.int ((x ^^^ (-1 : Int32)) &&& (x - (1 : Int32))))])
  rw [own_mask x t q h ht]
  show OFin _ _ _ _ _ _ _ _ T0 (mkF m 7 #[.val (.int x), .unset] [(.int (Int32.ofNat (2 ^ t - 1)))])
  refine X0.step (fun hA hx hq t_ k_ => XS.istoreN hA hx rfl (hb hq d12_7) rfl (l' := #[.val (.int (Int32.ofNat (2 ^ t - 1))), .unset]) rfl k_) ?_
  show OFin _ _ _ _ _ _ _ _ T0 (mkF m 8 #[.val (.int (Int32.ofNat (2 ^ t - 1))), .unset] [])
  refine X0.step (fun hA hx hq t_ k_ => XS.iloadN hA hx rfl (hb hq d12_8) rfl k_) ?_
  show OFin _ _ _ _ _ _ _ _ T0 (mkF m 9 #[.val (.int (Int32.ofNat (2 ^ t - 1))), .unset] [(.int (Int32.ofNat (2 ^ t - 1)))])
  by_cases k0 : (0 : Int32) < (Int32.ofNat (2 ^ t - 1))
  · refine X0.step (fun hA hx hq t_ k_ => XS.ifYes hA hx rfl (pc0 := 9) (pc' := 17) rfl (hb hq d12_9) rfl ((if0 _ _).trans (tlt (k0)).2.2.1) (by decide) (by decide) k_) ?_
    show OFin _ _ _ _ _ _ _ _ T0 (mkF m 17 #[.val (.int (Int32.ofNat (2 ^ t - 1))), .unset] [])
    refine X0.step (fun hA hx hq t_ k_ => XS.iconst hA hx rfl (hb hq d12_17) k_) ?_
    show OFin _ _ _ _ _ _ _ _ T0 (mkF m 18 #[.val (.int (Int32.ofNat (2 ^ t - 1))), .unset] [(.int (1 : Int32))])
    refine X0.step (fun hA hx hq t_ k_ => XS.istoreN hA hx rfl (hb hq d12_18) rfl (l' := #[.val (.int (Int32.ofNat (2 ^ t - 1))), .val (.int (1 : Int32))]) rfl k_) ?_
    show OFin _ _ _ _ _ _ _ _ T0 (mkF m 19 #[.val (.int (Int32.ofNat (2 ^ t - 1))), .val (.int (1 : Int32))] [])
    refine X0.step (fun hA hx hq t_ k_ => XS.iloadN hA hx rfl (hb hq d12_19) rfl k_) ?_
    show OFin _ _ _ _ _ _ _ _ T0 (mkF m 20 #[.val (.int (Int32.ofNat (2 ^ t - 1))), .val (.int (1 : Int32))] [(.int (Int32.ofNat (2 ^ t - 1)))])
    refine X0.ldcwI (hw _ (List.mem_of_getElem? (i := 60) rfl)) (g := (mkF m 20 #[.val (.int (Int32.ofNat (2 ^ t - 1))), .val (.int (1 : Int32))] [(.int (Int32.ofNat (2 ^ t - 1)))])) rfl d12_20 ?_
    show OFin _ _ _ _ _ _ _ _ T0 (mkF m 23 #[.val (.int (Int32.ofNat (2 ^ t - 1))), .val (.int (1 : Int32))] [(.int (65536 : Int32)), (.int (Int32.ofNat (2 ^ t - 1)))])
    by_cases k1 : (65536 : Int32) < (Int32.ofNat (2 ^ t - 1))
    · refine X0.step (fun hA hx hq t_ k_ => XS.icmpNo hA hx rfl (hb hq d12_23) rfl (tlt (k1)).2.2.2 k_) ?_
      show OFin _ _ _ _ _ _ _ _ T0 (mkF m 26 #[.val (.int (Int32.ofNat (2 ^ t - 1))), .val (.int (1 : Int32))] [])
      refine X0.step (fun hA hx hq t_ k_ => XS.iinc hA hx rfl (hb hq d12_26) rfl (l' := #[.val (.int (Int32.ofNat (2 ^ t - 1))), .val (.int ((1 : Int32) + (16 : Int32)))]) rfl k_) ?_
      show OFin _ _ _ _ _ _ _ _ T0 (mkF m 29 #[.val (.int (Int32.ofNat (2 ^ t - 1))), .val (.int ((1 : Int32) + (16 : Int32)))] [])
      refine X0.step (fun hA hx hq t_ k_ => XS.iloadN hA hx rfl (hb hq d12_29) rfl k_) ?_
      show OFin _ _ _ _ _ _ _ _ T0 (mkF m 30 #[.val (.int (Int32.ofNat (2 ^ t - 1))), .val (.int ((1 : Int32) + (16 : Int32)))] [(.int (Int32.ofNat (2 ^ t - 1)))])
      refine X0.step (fun hA hx hq t_ k_ => XS.bipush hA hx rfl (hb hq d12_30) k_) ?_
      show OFin _ _ _ _ _ _ _ _ T0 (mkF m 32 #[.val (.int (Int32.ofNat (2 ^ t - 1))), .val (.int ((1 : Int32) + (16 : Int32)))] [(.int (16 : Int32)), (.int (Int32.ofNat (2 ^ t - 1)))])
      refine X0.step (fun hA hx hq t_ k_ => XS.iushr hA hx rfl (hb hq d12_32) rfl k_) ?_
      show OFin _ _ _ _ _ _ _ _ T0 (mkF m 33 #[.val (.int (Int32.ofNat (2 ^ t - 1))), .val (.int ((1 : Int32) + (16 : Int32)))] [(.int (((Int32.ofNat (2 ^ t - 1)).toUInt32 >>> ((16 : Int32) &&& 31).toUInt32).toInt32))])
      refine X0.step (fun hA hx hq t_ k_ => XS.istoreN hA hx rfl (hb hq d12_33) rfl (l' := #[.val (.int (((Int32.ofNat (2 ^ t - 1)).toUInt32 >>> ((16 : Int32) &&& 31).toUInt32).toInt32)), .val (.int ((1 : Int32) + (16 : Int32)))]) rfl k_) ?_
      show OFin _ _ _ _ _ _ _ _ T0 (mkF m 34 #[.val (.int (((Int32.ofNat (2 ^ t - 1)).toUInt32 >>> ((16 : Int32) &&& 31).toUInt32).toInt32)), .val (.int ((1 : Int32) + (16 : Int32)))] [])
      refine X0.step (fun hA hx hq t_ k_ => XS.iloadN hA hx rfl (hb hq d12_34) rfl k_) ?_
      show OFin _ _ _ _ _ _ _ _ T0 (mkF m 35 #[.val (.int (((Int32.ofNat (2 ^ t - 1)).toUInt32 >>> ((16 : Int32) &&& 31).toUInt32).toInt32)), .val (.int ((1 : Int32) + (16 : Int32)))] [(.int (((Int32.ofNat (2 ^ t - 1)).toUInt32 >>> ((16 : Int32) &&& 31).toUInt32).toInt32))])
      refine X0.step (fun hA hx hq t_ k_ => XS.sipush hA hx rfl (hb hq d12_35) k_) ?_
      show OFin _ _ _ _ _ _ _ _ T0 (mkF m 38 #[.val (.int (((Int32.ofNat (2 ^ t - 1)).toUInt32 >>> ((16 : Int32) &&& 31).toUInt32).toInt32)), .val (.int ((1 : Int32) + (16 : Int32)))] [(.int (256 : Int32)), (.int (((Int32.ofNat (2 ^ t - 1)).toUInt32 >>> ((16 : Int32) &&& 31).toUInt32).toInt32))])
      by_cases k2 : (256 : Int32) < (((Int32.ofNat (2 ^ t - 1)).toUInt32 >>> ((16 : Int32) &&& 31).toUInt32).toInt32)
      · refine X0.step (fun hA hx hq t_ k_ => XS.icmpNo hA hx rfl (hb hq d12_38) rfl (tlt (k2)).2.2.2 k_) ?_
        show OFin _ _ _ _ _ _ _ _ T0 (mkF m 41 #[.val (.int (((Int32.ofNat (2 ^ t - 1)).toUInt32 >>> ((16 : Int32) &&& 31).toUInt32).toInt32)), .val (.int ((1 : Int32) + (16 : Int32)))] [])
        refine X0.step (fun hA hx hq t_ k_ => XS.iinc hA hx rfl (hb hq d12_41) rfl (l' := #[.val (.int (((Int32.ofNat (2 ^ t - 1)).toUInt32 >>> ((16 : Int32) &&& 31).toUInt32).toInt32)), .val (.int (((1 : Int32) + (16 : Int32)) + (8 : Int32)))]) rfl k_) ?_
        show OFin _ _ _ _ _ _ _ _ T0 (mkF m 44 #[.val (.int (((Int32.ofNat (2 ^ t - 1)).toUInt32 >>> ((16 : Int32) &&& 31).toUInt32).toInt32)), .val (.int (((1 : Int32) + (16 : Int32)) + (8 : Int32)))] [])
        refine X0.step (fun hA hx hq t_ k_ => XS.iloadN hA hx rfl (hb hq d12_44) rfl k_) ?_
        show OFin _ _ _ _ _ _ _ _ T0 (mkF m 45 #[.val (.int (((Int32.ofNat (2 ^ t - 1)).toUInt32 >>> ((16 : Int32) &&& 31).toUInt32).toInt32)), .val (.int (((1 : Int32) + (16 : Int32)) + (8 : Int32)))] [(.int (((Int32.ofNat (2 ^ t - 1)).toUInt32 >>> ((16 : Int32) &&& 31).toUInt32).toInt32))])
        refine X0.step (fun hA hx hq t_ k_ => XS.bipush hA hx rfl (hb hq d12_45) k_) ?_
        show OFin _ _ _ _ _ _ _ _ T0 (mkF m 47 #[.val (.int (((Int32.ofNat (2 ^ t - 1)).toUInt32 >>> ((16 : Int32) &&& 31).toUInt32).toInt32)), .val (.int (((1 : Int32) + (16 : Int32)) + (8 : Int32)))] [(.int (8 : Int32)), (.int (((Int32.ofNat (2 ^ t - 1)).toUInt32 >>> ((16 : Int32) &&& 31).toUInt32).toInt32))])
        refine X0.step (fun hA hx hq t_ k_ => XS.iushr hA hx rfl (hb hq d12_47) rfl k_) ?_
        show OFin _ _ _ _ _ _ _ _ T0 (mkF m 48 #[.val (.int (((Int32.ofNat (2 ^ t - 1)).toUInt32 >>> ((16 : Int32) &&& 31).toUInt32).toInt32)), .val (.int (((1 : Int32) + (16 : Int32)) + (8 : Int32)))] [(.int (((((Int32.ofNat (2 ^ t - 1)).toUInt32 >>> ((16 : Int32) &&& 31).toUInt32).toInt32).toUInt32 >>> ((8 : Int32) &&& 31).toUInt32).toInt32))])
        refine X0.step (fun hA hx hq t_ k_ => XS.istoreN hA hx rfl (hb hq d12_48) rfl (l' := #[.val (.int (((((Int32.ofNat (2 ^ t - 1)).toUInt32 >>> ((16 : Int32) &&& 31).toUInt32).toInt32).toUInt32 >>> ((8 : Int32) &&& 31).toUInt32).toInt32)), .val (.int (((1 : Int32) + (16 : Int32)) + (8 : Int32)))]) rfl k_) ?_
        show OFin _ _ _ _ _ _ _ _ T0 (mkF m 49 #[.val (.int (((((Int32.ofNat (2 ^ t - 1)).toUInt32 >>> ((16 : Int32) &&& 31).toUInt32).toInt32).toUInt32 >>> ((8 : Int32) &&& 31).toUInt32).toInt32)), .val (.int (((1 : Int32) + (16 : Int32)) + (8 : Int32)))] [])
        refine X0.step (fun hA hx hq t_ k_ => XS.iloadN hA hx rfl (hb hq d12_49) rfl k_) ?_
        show OFin _ _ _ _ _ _ _ _ T0 (mkF m 50 #[.val (.int (((((Int32.ofNat (2 ^ t - 1)).toUInt32 >>> ((16 : Int32) &&& 31).toUInt32).toInt32).toUInt32 >>> ((8 : Int32) &&& 31).toUInt32).toInt32)), .val (.int (((1 : Int32) + (16 : Int32)) + (8 : Int32)))] [(.int (((((Int32.ofNat (2 ^ t - 1)).toUInt32 >>> ((16 : Int32) &&& 31).toUInt32).toInt32).toUInt32 >>> ((8 : Int32) &&& 31).toUInt32).toInt32))])
        refine X0.step (fun hA hx hq t_ k_ => XS.bipush hA hx rfl (hb hq d12_50) k_) ?_
        show OFin _ _ _ _ _ _ _ _ T0 (mkF m 52 #[.val (.int (((((Int32.ofNat (2 ^ t - 1)).toUInt32 >>> ((16 : Int32) &&& 31).toUInt32).toInt32).toUInt32 >>> ((8 : Int32) &&& 31).toUInt32).toInt32)), .val (.int (((1 : Int32) + (16 : Int32)) + (8 : Int32)))] [(.int (16 : Int32)), (.int (((((Int32.ofNat (2 ^ t - 1)).toUInt32 >>> ((16 : Int32) &&& 31).toUInt32).toInt32).toUInt32 >>> ((8 : Int32) &&& 31).toUInt32).toInt32))])
        by_cases k3 : (16 : Int32) < (((((Int32.ofNat (2 ^ t - 1)).toUInt32 >>> ((16 : Int32) &&& 31).toUInt32).toInt32).toUInt32 >>> ((8 : Int32) &&& 31).toUInt32).toInt32)
        · refine X0.step (fun hA hx hq t_ k_ => XS.icmpNo hA hx rfl (hb hq d12_52) rfl (tlt (k3)).2.2.2 k_) ?_
          show OFin _ _ _ _ _ _ _ _ T0 (mkF m 55 #[.val (.int (((((Int32.ofNat (2 ^ t - 1)).toUInt32 >>> ((16 : Int32) &&& 31).toUInt32).toInt32).toUInt32 >>> ((8 : Int32) &&& 31).toUInt32).toInt32)), .val (.int (((1 : Int32) + (16 : Int32)) + (8 : Int32)))] [])
          refine X0.step (fun hA hx hq t_ k_ => XS.iinc hA hx rfl (hb hq d12_55) rfl (l' := #[.val (.int (((((Int32.ofNat (2 ^ t - 1)).toUInt32 >>> ((16 : Int32) &&& 31).toUInt32).toInt32).toUInt32 >>> ((8 : Int32) &&& 31).toUInt32).toInt32)), .val (.int ((((1 : Int32) + (16 : Int32)) + (8 : Int32)) + (4 : Int32)))]) rfl k_) ?_
          show OFin _ _ _ _ _ _ _ _ T0 (mkF m 58 #[.val (.int (((((Int32.ofNat (2 ^ t - 1)).toUInt32 >>> ((16 : Int32) &&& 31).toUInt32).toInt32).toUInt32 >>> ((8 : Int32) &&& 31).toUInt32).toInt32)), .val (.int ((((1 : Int32) + (16 : Int32)) + (8 : Int32)) + (4 : Int32)))] [])
          refine X0.step (fun hA hx hq t_ k_ => XS.iloadN hA hx rfl (hb hq d12_58) rfl k_) ?_
          show OFin _ _ _ _ _ _ _ _ T0 (mkF m 59 #[.val (.int (((((Int32.ofNat (2 ^ t - 1)).toUInt32 >>> ((16 : Int32) &&& 31).toUInt32).toInt32).toUInt32 >>> ((8 : Int32) &&& 31).toUInt32).toInt32)), .val (.int ((((1 : Int32) + (16 : Int32)) + (8 : Int32)) + (4 : Int32)))] [(.int (((((Int32.ofNat (2 ^ t - 1)).toUInt32 >>> ((16 : Int32) &&& 31).toUInt32).toInt32).toUInt32 >>> ((8 : Int32) &&& 31).toUInt32).toInt32))])
          refine X0.step (fun hA hx hq t_ k_ => XS.iconst hA hx rfl (hb hq d12_59) k_) ?_
          show OFin _ _ _ _ _ _ _ _ T0 (mkF m 60 #[.val (.int (((((Int32.ofNat (2 ^ t - 1)).toUInt32 >>> ((16 : Int32) &&& 31).toUInt32).toInt32).toUInt32 >>> ((8 : Int32) &&& 31).toUInt32).toInt32)), .val (.int ((((1 : Int32) + (16 : Int32)) + (8 : Int32)) + (4 : Int32)))] [(.int (4 : Int32)), (.int (((((Int32.ofNat (2 ^ t - 1)).toUInt32 >>> ((16 : Int32) &&& 31).toUInt32).toInt32).toUInt32 >>> ((8 : Int32) &&& 31).toUInt32).toInt32))])
          refine X0.step (fun hA hx hq t_ k_ => XS.iushr hA hx rfl (hb hq d12_60) rfl k_) ?_
          show OFin _ _ _ _ _ _ _ _ T0 (mkF m 61 #[.val (.int (((((Int32.ofNat (2 ^ t - 1)).toUInt32 >>> ((16 : Int32) &&& 31).toUInt32).toInt32).toUInt32 >>> ((8 : Int32) &&& 31).toUInt32).toInt32)), .val (.int ((((1 : Int32) + (16 : Int32)) + (8 : Int32)) + (4 : Int32)))] [(.int (((((((Int32.ofNat (2 ^ t - 1)).toUInt32 >>> ((16 : Int32) &&& 31).toUInt32).toInt32).toUInt32 >>> ((8 : Int32) &&& 31).toUInt32).toInt32).toUInt32 >>> ((4 : Int32) &&& 31).toUInt32).toInt32))])
          refine X0.step (fun hA hx hq t_ k_ => XS.istoreN hA hx rfl (hb hq d12_61) rfl (l' := #[.val (.int (((((((Int32.ofNat (2 ^ t - 1)).toUInt32 >>> ((16 : Int32) &&& 31).toUInt32).toInt32).toUInt32 >>> ((8 : Int32) &&& 31).toUInt32).toInt32).toUInt32 >>> ((4 : Int32) &&& 31).toUInt32).toInt32)), .val (.int ((((1 : Int32) + (16 : Int32)) + (8 : Int32)) + (4 : Int32)))]) rfl k_) ?_
          show OFin _ _ _ _ _ _ _ _ T0 (mkF m 62 #[.val (.int (((((((Int32.ofNat (2 ^ t - 1)).toUInt32 >>> ((16 : Int32) &&& 31).toUInt32).toInt32).toUInt32 >>> ((8 : Int32) &&& 31).toUInt32).toInt32).toUInt32 >>> ((4 : Int32) &&& 31).toUInt32).toInt32)), .val (.int ((((1 : Int32) + (16 : Int32)) + (8 : Int32)) + (4 : Int32)))] [])
          refine X0.step (fun hA hx hq t_ k_ => XS.iloadN hA hx rfl (hb hq d12_62) rfl k_) ?_
          show OFin _ _ _ _ _ _ _ _ T0 (mkF m 63 #[.val (.int (((((((Int32.ofNat (2 ^ t - 1)).toUInt32 >>> ((16 : Int32) &&& 31).toUInt32).toInt32).toUInt32 >>> ((8 : Int32) &&& 31).toUInt32).toInt32).toUInt32 >>> ((4 : Int32) &&& 31).toUInt32).toInt32)), .val (.int ((((1 : Int32) + (16 : Int32)) + (8 : Int32)) + (4 : Int32)))] [(.int (((((((Int32.ofNat (2 ^ t - 1)).toUInt32 >>> ((16 : Int32) &&& 31).toUInt32).toInt32).toUInt32 >>> ((8 : Int32) &&& 31).toUInt32).toInt32).toUInt32 >>> ((4 : Int32) &&& 31).toUInt32).toInt32))])
          refine X0.step (fun hA hx hq t_ k_ => XS.iconst hA hx rfl (hb hq d12_63) k_) ?_
          show OFin _ _ _ _ _ _ _ _ T0 (mkF m 64 #[.val (.int (((((((Int32.ofNat (2 ^ t - 1)).toUInt32 >>> ((16 : Int32) &&& 31).toUInt32).toInt32).toUInt32 >>> ((8 : Int32) &&& 31).toUInt32).toInt32).toUInt32 >>> ((4 : Int32) &&& 31).toUInt32).toInt32)), .val (.int ((((1 : Int32) + (16 : Int32)) + (8 : Int32)) + (4 : Int32)))] [(.int (4 : Int32)), (.int (((((((Int32.ofNat (2 ^ t - 1)).toUInt32 >>> ((16 : Int32) &&& 31).toUInt32).toInt32).toUInt32 >>> ((8 : Int32) &&& 31).toUInt32).toInt32).toUInt32 >>> ((4 : Int32) &&& 31).toUInt32).toInt32))])
          by_cases k4 : (4 : Int32) < (((((((Int32.ofNat (2 ^ t - 1)).toUInt32 >>> ((16 : Int32) &&& 31).toUInt32).toInt32).toUInt32 >>> ((8 : Int32) &&& 31).toUInt32).toInt32).toUInt32 >>> ((4 : Int32) &&& 31).toUInt32).toInt32)
          · refine X0.step (fun hA hx hq t_ k_ => XS.icmpNo hA hx rfl (hb hq d12_64) rfl (tlt (k4)).2.2.2 k_) ?_
            show OFin _ _ _ _ _ _ _ _ T0 (mkF m 67 #[.val (.int (((((((Int32.ofNat (2 ^ t - 1)).toUInt32 >>> ((16 : Int32) &&& 31).toUInt32).toInt32).toUInt32 >>> ((8 : Int32) &&& 31).toUInt32).toInt32).toUInt32 >>> ((4 : Int32) &&& 31).toUInt32).toInt32)), .val (.int ((((1 : Int32) + (16 : Int32)) + (8 : Int32)) + (4 : Int32)))] [])
            refine X0.step (fun hA hx hq t_ k_ => XS.iinc hA hx rfl (hb hq d12_67) rfl (l' := #[.val (.int (((((((Int32.ofNat (2 ^ t - 1)).toUInt32 >>> ((16 : Int32) &&& 31).toUInt32).toInt32).toUInt32 >>> ((8 : Int32) &&& 31).toUInt32).toInt32).toUInt32 >>> ((4 : Int32) &&& 31).toUInt32).toInt32)), .val (.int (((((1 : Int32) + (16 : Int32)) + (8 : Int32)) + (4 : Int32)) + (2 : Int32)))]) rfl k_) ?_
            show OFin _ _ _ _ _ _ _ _ T0 (mkF m 70 #[.val (.int (((((((Int32.ofNat (2 ^ t - 1)).toUInt32 >>> ((16 : Int32) &&& 31).toUInt32).toInt32).toUInt32 >>> ((8 : Int32) &&& 31).toUInt32).toInt32).toUInt32 >>> ((4 : Int32) &&& 31).toUInt32).toInt32)), .val (.int (((((1 : Int32) + (16 : Int32)) + (8 : Int32)) + (4 : Int32)) + (2 : Int32)))] [])
            refine X0.step (fun hA hx hq t_ k_ => XS.iloadN hA hx rfl (hb hq d12_70) rfl k_) ?_
            show OFin _ _ _ _ _ _ _ _ T0 (mkF m 71 #[.val (.int (((((((Int32.ofNat (2 ^ t - 1)).toUInt32 >>> ((16 : Int32) &&& 31).toUInt32).toInt32).toUInt32 >>> ((8 : Int32) &&& 31).toUInt32).toInt32).toUInt32 >>> ((4 : Int32) &&& 31).toUInt32).toInt32)), .val (.int (((((1 : Int32) + (16 : Int32)) + (8 : Int32)) + (4 : Int32)) + (2 : Int32)))] [(.int (((((((Int32.ofNat (2 ^ t - 1)).toUInt32 >>> ((16 : Int32) &&& 31).toUInt32).toInt32).toUInt32 >>> ((8 : Int32) &&& 31).toUInt32).toInt32).toUInt32 >>> ((4 : Int32) &&& 31).toUInt32).toInt32))])
            refine X0.step (fun hA hx hq t_ k_ => XS.iconst hA hx rfl (hb hq d12_71) k_) ?_
            show OFin _ _ _ _ _ _ _ _ T0 (mkF m 72 #[.val (.int (((((((Int32.ofNat (2 ^ t - 1)).toUInt32 >>> ((16 : Int32) &&& 31).toUInt32).toInt32).toUInt32 >>> ((8 : Int32) &&& 31).toUInt32).toInt32).toUInt32 >>> ((4 : Int32) &&& 31).toUInt32).toInt32)), .val (.int (((((1 : Int32) + (16 : Int32)) + (8 : Int32)) + (4 : Int32)) + (2 : Int32)))] [(.int (2 : Int32)), (.int (((((((Int32.ofNat (2 ^ t - 1)).toUInt32 >>> ((16 : Int32) &&& 31).toUInt32).toInt32).toUInt32 >>> ((8 : Int32) &&& 31).toUInt32).toInt32).toUInt32 >>> ((4 : Int32) &&& 31).toUInt32).toInt32))])
            refine X0.step (fun hA hx hq t_ k_ => XS.iushr hA hx rfl (hb hq d12_72) rfl k_) ?_
            show OFin _ _ _ _ _ _ _ _ T0 (mkF m 73 #[.val (.int (((((((Int32.ofNat (2 ^ t - 1)).toUInt32 >>> ((16 : Int32) &&& 31).toUInt32).toInt32).toUInt32 >>> ((8 : Int32) &&& 31).toUInt32).toInt32).toUInt32 >>> ((4 : Int32) &&& 31).toUInt32).toInt32)), .val (.int (((((1 : Int32) + (16 : Int32)) + (8 : Int32)) + (4 : Int32)) + (2 : Int32)))] [(.int (((((((((Int32.ofNat (2 ^ t - 1)).toUInt32 >>> ((16 : Int32) &&& 31).toUInt32).toInt32).toUInt32 >>> ((8 : Int32) &&& 31).toUInt32).toInt32).toUInt32 >>> ((4 : Int32) &&& 31).toUInt32).toInt32).toUInt32 >>> ((2 : Int32) &&& 31).toUInt32).toInt32))])
            refine X0.step (fun hA hx hq t_ k_ => XS.istoreN hA hx rfl (hb hq d12_73) rfl (l' := #[.val (.int (((((((((Int32.ofNat (2 ^ t - 1)).toUInt32 >>> ((16 : Int32) &&& 31).toUInt32).toInt32).toUInt32 >>> ((8 : Int32) &&& 31).toUInt32).toInt32).toUInt32 >>> ((4 : Int32) &&& 31).toUInt32).toInt32).toUInt32 >>> ((2 : Int32) &&& 31).toUInt32).toInt32)), .val (.int (((((1 : Int32) + (16 : Int32)) + (8 : Int32)) + (4 : Int32)) + (2 : Int32)))]) rfl k_) ?_
            show OFin _ _ _ _ _ _ _ _ T0 (mkF m 74 #[.val (.int (((((((((Int32.ofNat (2 ^ t - 1)).toUInt32 >>> ((16 : Int32) &&& 31).toUInt32).toInt32).toUInt32 >>> ((8 : Int32) &&& 31).toUInt32).toInt32).toUInt32 >>> ((4 : Int32) &&& 31).toUInt32).toInt32).toUInt32 >>> ((2 : Int32) &&& 31).toUInt32).toInt32)), .val (.int (((((1 : Int32) + (16 : Int32)) + (8 : Int32)) + (4 : Int32)) + (2 : Int32)))] [])
            refine X0.step (fun hA hx hq t_ k_ => XS.iloadN hA hx rfl (hb hq d12_74) rfl k_) ?_
            show OFin _ _ _ _ _ _ _ _ T0 (mkF m 75 #[.val (.int (((((((((Int32.ofNat (2 ^ t - 1)).toUInt32 >>> ((16 : Int32) &&& 31).toUInt32).toInt32).toUInt32 >>> ((8 : Int32) &&& 31).toUInt32).toInt32).toUInt32 >>> ((4 : Int32) &&& 31).toUInt32).toInt32).toUInt32 >>> ((2 : Int32) &&& 31).toUInt32).toInt32)), .val (.int (((((1 : Int32) + (16 : Int32)) + (8 : Int32)) + (4 : Int32)) + (2 : Int32)))] [(.int (((((1 : Int32) + (16 : Int32)) + (8 : Int32)) + (4 : Int32)) + (2 : Int32)))])
            refine X0.step (fun hA hx hq t_ k_ => XS.iloadN hA hx rfl (hb hq d12_75) rfl k_) ?_
            show OFin _ _ _ _ _ _ _ _ T0 (mkF m 76 #[.val (.int (((((((((Int32.ofNat (2 ^ t - 1)).toUInt32 >>> ((16 : Int32) &&& 31).toUInt32).toInt32).toUInt32 >>> ((8 : Int32) &&& 31).toUInt32).toInt32).toUInt32 >>> ((4 : Int32) &&& 31).toUInt32).toInt32).toUInt32 >>> ((2 : Int32) &&& 31).toUInt32).toInt32)), .val (.int (((((1 : Int32) + (16 : Int32)) + (8 : Int32)) + (4 : Int32)) + (2 : Int32)))] [(.int (((((((((Int32.ofNat (2 ^ t - 1)).toUInt32 >>> ((16 : Int32) &&& 31).toUInt32).toInt32).toUInt32 >>> ((8 : Int32) &&& 31).toUInt32).toInt32).toUInt32 >>> ((4 : Int32) &&& 31).toUInt32).toInt32).toUInt32 >>> ((2 : Int32) &&& 31).toUInt32).toInt32)), (.int (((((1 : Int32) + (16 : Int32)) + (8 : Int32)) + (4 : Int32)) + (2 : Int32)))])
            refine X0.step (fun hA hx hq t_ k_ => XS.iconst hA hx rfl (hb hq d12_76) k_) ?_
            show OFin _ _ _ _ _ _ _ _ T0 (mkF m 77 #[.val (.int (((((((((Int32.ofNat (2 ^ t - 1)).toUInt32 >>> ((16 : Int32) &&& 31).toUInt32).toInt32).toUInt32 >>> ((8 : Int32) &&& 31).toUInt32).toInt32).toUInt32 >>> ((4 : Int32) &&& 31).toUInt32).toInt32).toUInt32 >>> ((2 : Int32) &&& 31).toUInt32).toInt32)), .val (.int (((((1 : Int32) + (16 : Int32)) + (8 : Int32)) + (4 : Int32)) + (2 : Int32)))] [(.int (1 : Int32)), (.int (((((((((Int32.ofNat (2 ^ t - 1)).toUInt32 >>> ((16 : Int32) &&& 31).toUInt32).toInt32).toUInt32 >>> ((8 : Int32) &&& 31).toUInt32).toInt32).toUInt32 >>> ((4 : Int32) &&& 31).toUInt32).toInt32).toUInt32 >>> ((2 : Int32) &&& 31).toUInt32).toInt32)), (.int (((((1 : Int32) + (16 : Int32)) + (8 : Int32)) + (4 : Int32)) + (2 : Int32)))])
            refine X0.step (fun hA hx hq t_ k_ => XS.iushr hA hx rfl (hb hq d12_77) rfl k_) ?_
            show OFin _ _ _ _ _ _ _ _ T0 (mkF m 78 #[.val (.int (((((((((Int32.ofNat (2 ^ t - 1)).toUInt32 >>> ((16 : Int32) &&& 31).toUInt32).toInt32).toUInt32 >>> ((8 : Int32) &&& 31).toUInt32).toInt32).toUInt32 >>> ((4 : Int32) &&& 31).toUInt32).toInt32).toUInt32 >>> ((2 : Int32) &&& 31).toUInt32).toInt32)), .val (.int (((((1 : Int32) + (16 : Int32)) + (8 : Int32)) + (4 : Int32)) + (2 : Int32)))] [(.int (((((((((((Int32.ofNat (2 ^ t - 1)).toUInt32 >>> ((16 : Int32) &&& 31).toUInt32).toInt32).toUInt32 >>> ((8 : Int32) &&& 31).toUInt32).toInt32).toUInt32 >>> ((4 : Int32) &&& 31).toUInt32).toInt32).toUInt32 >>> ((2 : Int32) &&& 31).toUInt32).toInt32).toUInt32 >>> ((1 : Int32) &&& 31).toUInt32).toInt32)), (.int (((((1 : Int32) + (16 : Int32)) + (8 : Int32)) + (4 : Int32)) + (2 : Int32)))])
            refine X0.step (fun hA hx hq t_ k_ => XS.iadd hA hx rfl (hb hq d12_78) rfl k_) ?_
            show OFin _ _ _ _ _ _ _ _ T0 (mkF m 79 #[.val (.int (((((((((Int32.ofNat (2 ^ t - 1)).toUInt32 >>> ((16 : Int32) &&& 31).toUInt32).toInt32).toUInt32 >>> ((8 : Int32) &&& 31).toUInt32).toInt32).toUInt32 >>> ((4 : Int32) &&& 31).toUInt32).toInt32).toUInt32 >>> ((2 : Int32) &&& 31).toUInt32).toInt32)), .val (.int (((((1 : Int32) + (16 : Int32)) + (8 : Int32)) + (4 : Int32)) + (2 : Int32)))] [(.int ((((((1 : Int32) + (16 : Int32)) + (8 : Int32)) + (4 : Int32)) + (2 : Int32)) + (((((((((((Int32.ofNat (2 ^ t - 1)).toUInt32 >>> ((16 : Int32) &&& 31).toUInt32).toInt32).toUInt32 >>> ((8 : Int32) &&& 31).toUInt32).toInt32).toUInt32 >>> ((4 : Int32) &&& 31).toUInt32).toInt32).toUInt32 >>> ((2 : Int32) &&& 31).toUInt32).toInt32).toUInt32 >>> ((1 : Int32) &&& 31).toUInt32).toInt32)))])
            exact X0.retI d12_79 (by decide) (by decide) (⟨congrArg (fun z => some (Value.int z)) (own_leaf15 ⟨t, ht⟩ k0 k1 k2 k3 k4), rfl⟩)
          · refine X0.step (fun hA hx hq t_ k_ => XS.icmpYes hA hx rfl (pc0 := 64) (pc' := 74) rfl (hb hq d12_64) rfl (flt (k4)).2.2.2 (by decide) (by decide) k_) ?_
            show OFin _ _ _ _ _ _ _ _ T0 (mkF m 74 #[.val (.int (((((((Int32.ofNat (2 ^ t - 1)).toUInt32 >>> ((16 : Int32) &&& 31).toUInt32).toInt32).toUInt32 >>> ((8 : Int32) &&& 31).toUInt32).toInt32).toUInt32 >>> ((4 : Int32) &&& 31).toUInt32).toInt32)), .val (.int ((((1 : Int32) + (16 : Int32)) + (8 : Int32)) + (4 : Int32)))] [])
            refine X0.step (fun hA hx hq t_ k_ => XS.iloadN hA hx rfl (hb hq d12_74) rfl k_) ?_
            show OFin _ _ _ _ _ _ _ _ T0 (mkF m 75 #[.val (.int (((((((Int32.ofNat (2 ^ t - 1)).toUInt32 >>> ((16 : Int32) &&& 31).toUInt32).toInt32).toUInt32 >>> ((8 : Int32) &&& 31).toUInt32).toInt32).toUInt32 >>> ((4 : Int32) &&& 31).toUInt32).toInt32)), .val (.int ((((1 : Int32) + (16 : Int32)) + (8 : Int32)) + (4 : Int32)))] [(.int ((((1 : Int32) + (16 : Int32)) + (8 : Int32)) + (4 : Int32)))])
            refine X0.step (fun hA hx hq t_ k_ => XS.iloadN hA hx rfl (hb hq d12_75) rfl k_) ?_
            show OFin _ _ _ _ _ _ _ _ T0 (mkF m 76 #[.val (.int (((((((Int32.ofNat (2 ^ t - 1)).toUInt32 >>> ((16 : Int32) &&& 31).toUInt32).toInt32).toUInt32 >>> ((8 : Int32) &&& 31).toUInt32).toInt32).toUInt32 >>> ((4 : Int32) &&& 31).toUInt32).toInt32)), .val (.int ((((1 : Int32) + (16 : Int32)) + (8 : Int32)) + (4 : Int32)))] [(.int (((((((Int32.ofNat (2 ^ t - 1)).toUInt32 >>> ((16 : Int32) &&& 31).toUInt32).toInt32).toUInt32 >>> ((8 : Int32) &&& 31).toUInt32).toInt32).toUInt32 >>> ((4 : Int32) &&& 31).toUInt32).toInt32)), (.int ((((1 : Int32) + (16 : Int32)) + (8 : Int32)) + (4 : Int32)))])
            refine X0.step (fun hA hx hq t_ k_ => XS.iconst hA hx rfl (hb hq d12_76) k_) ?_
            show OFin _ _ _ _ _ _ _ _ T0 (mkF m 77 #[.val (.int (((((((Int32.ofNat (2 ^ t - 1)).toUInt32 >>> ((16 : Int32) &&& 31).toUInt32).toInt32).toUInt32 >>> ((8 : Int32) &&& 31).toUInt32).toInt32).toUInt32 >>> ((4 : Int32) &&& 31).toUInt32).toInt32)), .val (.int ((((1 : Int32) + (16 : Int32)) + (8 : Int32)) + (4 : Int32)))] [(.int (1 : Int32)), (.int (((((((Int32.ofNat (2 ^ t - 1)).toUInt32 >>> ((16 : Int32) &&& 31).toUInt32).toInt32).toUInt32 >>> ((8 : Int32) &&& 31).toUInt32).toInt32).toUInt32 >>> ((4 : Int32) &&& 31).toUInt32).toInt32)), (.int ((((1 : Int32) + (16 : Int32)) + (8 : Int32)) + (4 : Int32)))])
            refine X0.step (fun hA hx hq t_ k_ => XS.iushr hA hx rfl (hb hq d12_77) rfl k_) ?_
            show OFin _ _ _ _ _ _ _ _ T0 (mkF m 78 #[.val (.int (((((((Int32.ofNat (2 ^ t - 1)).toUInt32 >>> ((16 : Int32) &&& 31).toUInt32).toInt32).toUInt32 >>> ((8 : Int32) &&& 31).toUInt32).toInt32).toUInt32 >>> ((4 : Int32) &&& 31).toUInt32).toInt32)), .val (.int ((((1 : Int32) + (16 : Int32)) + (8 : Int32)) + (4 : Int32)))] [(.int (((((((((Int32.ofNat (2 ^ t - 1)).toUInt32 >>> ((16 : Int32) &&& 31).toUInt32).toInt32).toUInt32 >>> ((8 : Int32) &&& 31).toUInt32).toInt32).toUInt32 >>> ((4 : Int32) &&& 31).toUInt32).toInt32).toUInt32 >>> ((1 : Int32) &&& 31).toUInt32).toInt32)), (.int ((((1 : Int32) + (16 : Int32)) + (8 : Int32)) + (4 : Int32)))])
            refine X0.step (fun hA hx hq t_ k_ => XS.iadd hA hx rfl (hb hq d12_78) rfl k_) ?_
            show OFin _ _ _ _ _ _ _ _ T0 (mkF m 79 #[.val (.int (((((((Int32.ofNat (2 ^ t - 1)).toUInt32 >>> ((16 : Int32) &&& 31).toUInt32).toInt32).toUInt32 >>> ((8 : Int32) &&& 31).toUInt32).toInt32).toUInt32 >>> ((4 : Int32) &&& 31).toUInt32).toInt32)), .val (.int ((((1 : Int32) + (16 : Int32)) + (8 : Int32)) + (4 : Int32)))] [(.int (((((1 : Int32) + (16 : Int32)) + (8 : Int32)) + (4 : Int32)) + (((((((((Int32.ofNat (2 ^ t - 1)).toUInt32 >>> ((16 : Int32) &&& 31).toUInt32).toInt32).toUInt32 >>> ((8 : Int32) &&& 31).toUInt32).toInt32).toUInt32 >>> ((4 : Int32) &&& 31).toUInt32).toInt32).toUInt32 >>> ((1 : Int32) &&& 31).toUInt32).toInt32)))])
            exact X0.retI d12_79 (by decide) (by decide) (⟨congrArg (fun z => some (Value.int z)) (own_leaf14 ⟨t, ht⟩ k0 k1 k2 k3 k4), rfl⟩)
        · refine X0.step (fun hA hx hq t_ k_ => XS.icmpYes hA hx rfl (pc0 := 52) (pc' := 62) rfl (hb hq d12_52) rfl (flt (k3)).2.2.2 (by decide) (by decide) k_) ?_
          show OFin _ _ _ _ _ _ _ _ T0 (mkF m 62 #[.val (.int (((((Int32.ofNat (2 ^ t - 1)).toUInt32 >>> ((16 : Int32) &&& 31).toUInt32).toInt32).toUInt32 >>> ((8 : Int32) &&& 31).toUInt32).toInt32)), .val (.int (((1 : Int32) + (16 : Int32)) + (8 : Int32)))] [])
          refine X0.step (fun hA hx hq t_ k_ => XS.iloadN hA hx rfl (hb hq d12_62) rfl k_) ?_
          show OFin _ _ _ _ _ _ _ _ T0 (mkF m 63 #[.val (.int (((((Int32.ofNat (2 ^ t - 1)).toUInt32 >>> ((16 : Int32) &&& 31).toUInt32).toInt32).toUInt32 >>> ((8 : Int32) &&& 31).toUInt32).toInt32)), .val (.int (((1 : Int32) + (16 : Int32)) + (8 : Int32)))] [(.int (((((Int32.ofNat (2 ^ t - 1)).toUInt32 >>> ((16 : Int32) &&& 31).toUInt32).toInt32).toUInt32 >>> ((8 : Int32) &&& 31).toUInt32).toInt32))])
          refine X0.step (fun hA hx hq t_ k_ => XS.iconst hA hx rfl (hb hq d12_63) k_) ?_
          show OFin _ _ _ _ _ _ _ _ T0 (mkF m 64 #[.val (.int (((((Int32.ofNat (2 ^ t - 1)).toUInt32 >>> ((16 : Int32) &&& 31).toUInt32).toInt32).toUInt32 >>> ((8 : Int32) &&& 31).toUInt32).toInt32)), .val (.int (((1 : Int32) + (16 : Int32)) + (8 : Int32)))] [(.int (4 : Int32)), (.int (((((Int32.ofNat (2 ^ t - 1)).toUInt32 >>> ((16 : Int32) &&& 31).toUInt32).toInt32).toUInt32 >>> ((8 : Int32) &&& 31).toUInt32).toInt32))])
          by_cases k4 : (4 : Int32) < (((((Int32.ofNat (2 ^ t - 1)).toUInt32 >>> ((16 : Int32) &&& 31).toUInt32).toInt32).toUInt32 >>> ((8 : Int32) &&& 31).toUInt32).toInt32)
          · refine X0.step (fun hA hx hq t_ k_ => XS.icmpNo hA hx rfl (hb hq d12_64) rfl (tlt (k4)).2.2.2 k_) ?_
            show OFin _ _ _ _ _ _ _ _ T0 (mkF m 67 #[.val (.int (((((Int32.ofNat (2 ^ t - 1)).toUInt32 >>> ((16 : Int32) &&& 31).toUInt32).toInt32).toUInt32 >>> ((8 : Int32) &&& 31).toUInt32).toInt32)), .val (.int (((1 : Int32) + (16 : Int32)) + (8 : Int32)))] [])
            refine X0.step (fun hA hx hq t_ k_ => XS.iinc hA hx rfl (hb hq d12_67) rfl (l' := #[.val (.int (((((Int32.ofNat (2 ^ t - 1)).toUInt32 >>> ((16 : Int32) &&& 31).toUInt32).toInt32).toUInt32 >>> ((8 : Int32) &&& 31).toUInt32).toInt32)), .val (.int ((((1 : Int32) + (16 : Int32)) + (8 : Int32)) + (2 : Int32)))]) rfl k_) ?_
            show OFin _ _ _ _ _ _ _ _ T0 (mkF m 70 #[.val (.int (((((Int32.ofNat (2 ^ t - 1)).toUInt32 >>> ((16 : Int32) &&& 31).toUInt32).toInt32).toUInt32 >>> ((8 : Int32) &&& 31).toUInt32).toInt32)), .val (.int ((((1 : Int32) + (16 : Int32)) + (8 : Int32)) + (2 : Int32)))] [])
            refine X0.step (fun hA hx hq t_ k_ => XS.iloadN hA hx rfl (hb hq d12_70) rfl k_) ?_
            show OFin _ _ _ _ _ _ _ _ T0 (mkF m 71 #[.val (.int (((((Int32.ofNat (2 ^ t - 1)).toUInt32 >>> ((16 : Int32) &&& 31).toUInt32).toInt32).toUInt32 >>> ((8 : Int32) &&& 31).toUInt32).toInt32)), .val (.int ((((1 : Int32) + (16 : Int32)) + (8 : Int32)) + (2 : Int32)))] [(.int (((((Int32.ofNat (2 ^ t - 1)).toUInt32 >>> ((16 : Int32) &&& 31).toUInt32).toInt32).toUInt32 >>> ((8 : Int32) &&& 31).toUInt32).toInt32))])
            refine X0.step (fun hA hx hq t_ k_ => XS.iconst hA hx rfl (hb hq d12_71) k_) ?_
            show OFin _ _ _ _ _ _ _ _ T0 (mkF m 72 #[.val (.int (((((Int32.ofNat (2 ^ t - 1)).toUInt32 >>> ((16 : Int32) &&& 31).toUInt32).toInt32).toUInt32 >>> ((8 : Int32) &&& 31).toUInt32).toInt32)), .val (.int ((((1 : Int32) + (16 : Int32)) + (8 : Int32)) + (2 : Int32)))] [(.int (2 : Int32)), (.int (((((Int32.ofNat (2 ^ t - 1)).toUInt32 >>> ((16 : Int32) &&& 31).toUInt32).toInt32).toUInt32 >>> ((8 : Int32) &&& 31).toUInt32).toInt32))])
            refine X0.step (fun hA hx hq t_ k_ => XS.iushr hA hx rfl (hb hq d12_72) rfl k_) ?_
            show OFin _ _ _ _ _ _ _ _ T0 (mkF m 73 #[.val (.int (((((Int32.ofNat (2 ^ t - 1)).toUInt32 >>> ((16 : Int32) &&& 31).toUInt32).toInt32).toUInt32 >>> ((8 : Int32) &&& 31).toUInt32).toInt32)), .val (.int ((((1 : Int32) + (16 : Int32)) + (8 : Int32)) + (2 : Int32)))] [(.int (((((((Int32.ofNat (2 ^ t - 1)).toUInt32 >>> ((16 : Int32) &&& 31).toUInt32).toInt32).toUInt32 >>> ((8 : Int32) &&& 31).toUInt32).toInt32).toUInt32 >>> ((2 : Int32) &&& 31).toUInt32).toInt32))])
            refine X0.step (fun hA hx hq t_ k_ => XS.istoreN hA hx rfl (hb hq d12_73) rfl (l' := #[.val (.int (((((((Int32.ofNat (2 ^ t - 1)).toUInt32 >>> ((16 : Int32) &&& 31).toUInt32).toInt32).toUInt32 >>> ((8 : Int32) &&& 31).toUInt32).toInt32).toUInt32 >>> ((2 : Int32) &&& 31).toUInt32).toInt32)), .val (.int ((((1 : Int32) + (16 : Int32)) + (8 : Int32)) + (2 : Int32)))]) rfl k_) ?_
            show OFin _ _ _ _ _ _ _ _ T0 (mkF m 74 #[.val (.int (((((((Int32.ofNat (2 ^ t - 1)).toUInt32 >>> ((16 : Int32) &&& 31).toUInt32).toInt32).toUInt32 >>> ((8 : Int32) &&& 31).toUInt32).toInt32).toUInt32 >>> ((2 : Int32) &&& 31).toUInt32).toInt32)), .val (.int ((((1 : Int32) + (16 : Int32)) + (8 : Int32)) + (2 : Int32)))] [])
            refine X0.step (fun hA hx hq t_ k_ => XS.iloadN hA hx rfl (hb hq d12_74) rfl k_) ?_
            show OFin _ _ _ _ _ _ _ _ T0 (mkF m 75 #[.val (.int (((((((Int32.ofNat (2 ^ t - 1)).toUInt32 >>> ((16 : Int32) &&& 31).toUInt32).toInt32).toUInt32 >>> ((8 : Int32) &&& 31).toUInt32).toInt32).toUInt32 >>> ((2 : Int32) &&& 31).toUInt32).toInt32)), .val (.int ((((1 : Int32) + (16 : Int32)) + (8 : Int32)) + (2 : Int32)))] [(.int ((((1 : Int32) + (16 : Int32)) + (8 : Int32)) + (2 : Int32)))])
            refine X0.step (fun hA hx hq t_ k_ => XS.iloadN hA hx rfl (hb hq d12_75) rfl k_) ?_
            show OFin _ _ _ _ _ _ _ _ T0 (mkF m 76 #[.val (.int (((((((Int32.ofNat (2 ^ t - 1)).toUInt32 >>> ((16 : Int32) &&& 31).toUInt32).toInt32).toUInt32 >>> ((8 : Int32) &&& 31).toUInt32).toInt32).toUInt32 >>> ((2 : Int32) &&& 31).toUInt32).toInt32)), .val (.int ((((1 : Int32) + (16 : Int32)) + (8 : Int32)) + (2 : Int32)))] [(.int (((((((Int32.ofNat (2 ^ t - 1)).toUInt32 >>> ((16 : Int32) &&& 31).toUInt32).toInt32).toUInt32 >>> ((8 : Int32) &&& 31).toUInt32).toInt32).toUInt32 >>> ((2 : Int32) &&& 31).toUInt32).toInt32)), (.int ((((1 : Int32) + (16 : Int32)) + (8 : Int32)) + (2 : Int32)))])
            refine X0.step (fun hA hx hq t_ k_ => XS.iconst hA hx rfl (hb hq d12_76) k_) ?_
            show OFin _ _ _ _ _ _ _ _ T0 (mkF m 77 #[.val (.int (((((((Int32.ofNat (2 ^ t - 1)).toUInt32 >>> ((16 : Int32) &&& 31).toUInt32).toInt32).toUInt32 >>> ((8 : Int32) &&& 31).toUInt32).toInt32).toUInt32 >>> ((2 : Int32) &&& 31).toUInt32).toInt32)), .val (.int ((((1 : Int32) + (16 : Int32)) + (8 : Int32)) + (2 : Int32)))] [(.int (1 : Int32)), (.int (((((((Int32.ofNat (2 ^ t - 1)).toUInt32 >>> ((16 : Int32) &&& 31).toUInt32).toInt32).toUInt32 >>> ((8 : Int32) &&& 31).toUInt32).toInt32).toUInt32 >>> ((2 : Int32) &&& 31).toUInt32).toInt32)), (.int ((((1 : Int32) + (16 : Int32)) + (8 : Int32)) + (2 : Int32)))])
            refine X0.step (fun hA hx hq t_ k_ => XS.iushr hA hx rfl (hb hq d12_77) rfl k_) ?_
            show OFin _ _ _ _ _ _ _ _ T0 (mkF m 78 #[.val (.int (((((((Int32.ofNat (2 ^ t - 1)).toUInt32 >>> ((16 : Int32) &&& 31).toUInt32).toInt32).toUInt32 >>> ((8 : Int32) &&& 31).toUInt32).toInt32).toUInt32 >>> ((2 : Int32) &&& 31).toUInt32).toInt32)), .val (.int ((((1 : Int32) + (16 : Int32)) + (8 : Int32)) + (2 : Int32)))] [(.int (((((((((Int32.ofNat (2 ^ t - 1)).toUInt32 >>> ((16 : Int32) &&& 31).toUInt32).toInt32).toUInt32 >>> ((8 : Int32) &&& 31).toUInt32).toInt32).toUInt32 >>> ((2 : Int32) &&& 31).toUInt32).toInt32).toUInt32 >>> ((1 : Int32) &&& 31).toUInt32).toInt32)), (.int ((((1 : Int32) + (16 : Int32)) + (8 : Int32)) + (2 : Int32)))])
            refine X0.step (fun hA hx hq t_ k_ => XS.iadd hA hx rfl (hb hq d12_78) rfl k_) ?_
            show OFin _ _ _ _ _ _ _ _ T0 (mkF m 79 #[.val (.int (((((((Int32.ofNat (2 ^ t - 1)).toUInt32 >>> ((16 : Int32) &&& 31).toUInt32).toInt32).toUInt32 >>> ((8 : Int32) &&& 31).toUInt32).toInt32).toUInt32 >>> ((2 : Int32) &&& 31).toUInt32).toInt32)), .val (.int ((((1 : Int32) + (16 : Int32)) + (8 : Int32)) + (2 : Int32)))] [(.int (((((1 : Int32) + (16 : Int32)) + (8 : Int32)) + (2 : Int32)) + (((((((((Int32.ofNat (2 ^ t - 1)).toUInt32 >>> ((16 : Int32) &&& 31).toUInt32).toInt32).toUInt32 >>> ((8 : Int32) &&& 31).toUInt32).toInt32).toUInt32 >>> ((2 : Int32) &&& 31).toUInt32).toInt32).toUInt32 >>> ((1 : Int32) &&& 31).toUInt32).toInt32)))])
            exact X0.retI d12_79 (by decide) (by decide) (⟨congrArg (fun z => some (Value.int z)) (own_leaf13 ⟨t, ht⟩ k0 k1 k2 k3 k4), rfl⟩)
          · refine X0.step (fun hA hx hq t_ k_ => XS.icmpYes hA hx rfl (pc0 := 64) (pc' := 74) rfl (hb hq d12_64) rfl (flt (k4)).2.2.2 (by decide) (by decide) k_) ?_
            show OFin _ _ _ _ _ _ _ _ T0 (mkF m 74 #[.val (.int (((((Int32.ofNat (2 ^ t - 1)).toUInt32 >>> ((16 : Int32) &&& 31).toUInt32).toInt32).toUInt32 >>> ((8 : Int32) &&& 31).toUInt32).toInt32)), .val (.int (((1 : Int32) + (16 : Int32)) + (8 : Int32)))] [])
            refine X0.step (fun hA hx hq t_ k_ => XS.iloadN hA hx rfl (hb hq d12_74) rfl k_) ?_
            show OFin _ _ _ _ _ _ _ _ T0 (mkF m 75 #[.val (.int (((((Int32.ofNat (2 ^ t - 1)).toUInt32 >>> ((16 : Int32) &&& 31).toUInt32).toInt32).toUInt32 >>> ((8 : Int32) &&& 31).toUInt32).toInt32)), .val (.int (((1 : Int32) + (16 : Int32)) + (8 : Int32)))] [(.int (((1 : Int32) + (16 : Int32)) + (8 : Int32)))])
            refine X0.step (fun hA hx hq t_ k_ => XS.iloadN hA hx rfl (hb hq d12_75) rfl k_) ?_
            show OFin _ _ _ _ _ _ _ _ T0 (mkF m 76 #[.val (.int (((((Int32.ofNat (2 ^ t - 1)).toUInt32 >>> ((16 : Int32) &&& 31).toUInt32).toInt32).toUInt32 >>> ((8 : Int32) &&& 31).toUInt32).toInt32)), .val (.int (((1 : Int32) + (16 : Int32)) + (8 : Int32)))] [(.int (((((Int32.ofNat (2 ^ t - 1)).toUInt32 >>> ((16 : Int32) &&& 31).toUInt32).toInt32).toUInt32 >>> ((8 : Int32) &&& 31).toUInt32).toInt32)), (.int (((1 : Int32) + (16 : Int32)) + (8 : Int32)))])
            refine X0.step (fun hA hx hq t_ k_ => XS.iconst hA hx rfl (hb hq d12_76) k_) ?_
            show OFin _ _ _ _ _ _ _ _ T0 (mkF m 77 #[.val (.int (((((Int32.ofNat (2 ^ t - 1)).toUInt32 >>> ((16 : Int32) &&& 31).toUInt32).toInt32).toUInt32 >>> ((8 : Int32) &&& 31).toUInt32).toInt32)), .val (.int (((1 : Int32) + (16 : Int32)) + (8 : Int32)))] [(.int (1 : Int32)), (.int (((((Int32.ofNat (2 ^ t - 1)).toUInt32 >>> ((16 : Int32) &&& 31).toUInt32).toInt32).toUInt32 >>> ((8 : Int32) &&& 31).toUInt32).toInt32)), (.int (((1 : Int32) + (16 : Int32)) + (8 : Int32)))])
            refine X0.step (fun hA hx hq t_ k_ => XS.iushr hA hx rfl (hb hq d12_77) rfl k_) ?_
            show OFin _ _ _ _ _ _ _ _ T0 (mkF m 78 #[.val (.int (((((Int32.ofNat (2 ^ t - 1)).toUInt32 >>> ((16 : Int32) &&& 31).toUInt32).toInt32).toUInt32 >>> ((8 : Int32) &&& 31).toUInt32).toInt32)), .val (.int (((1 : Int32) + (16 : Int32)) + (8 : Int32)))] [(.int (((((((Int32.ofNat (2 ^ t - 1)).toUInt32 >>> ((16 : Int32) &&& 31).toUInt32).toInt32).toUInt32 >>> ((8 : Int32) &&& 31).toUInt32).toInt32).toUInt32 >>> ((1 : Int32) &&& 31).toUInt32).toInt32)), (.int (((1 : Int32) + (16 : Int32)) + (8 : Int32)))])
            refine X0.step (fun hA hx hq t_ k_ => XS.iadd hA hx rfl (hb hq d12_78) rfl k_) ?_
            show OFin _ _ _ _ _ _ _ _ T0 (mkF m 79 #[.val (.int (((((Int32.ofNat (2 ^ t - 1)).toUInt32 >>> ((16 : Int32) &&& 31).toUInt32).toInt32).toUInt32 >>> ((8 : Int32) &&& 31).toUInt32).toInt32)), .val (.int (((1 : Int32) + (16 : Int32)) + (8 : Int32)))] [(.int ((((1 : Int32) + (16 : Int32)) + (8 : Int32)) + (((((((Int32.ofNat (2 ^ t - 1)).toUInt32 >>> ((16 : Int32) &&& 31).toUInt32).toInt32).toUInt32 >>> ((8 : Int32) &&& 31).toUInt32).toInt32).toUInt32 >>> ((1 : Int32) &&& 31).toUInt32).toInt32)))])
            exact X0.retI d12_79 (by decide) (by decide) (⟨congrArg (fun z => some (Value.int z)) (own_leaf12 ⟨t, ht⟩ k0 k1 k2 k3 k4), rfl⟩)
      · refine X0.step (fun hA hx hq t_ k_ => XS.icmpYes hA hx rfl (pc0 := 38) (pc' := 49) rfl (hb hq d12_38) rfl (flt (k2)).2.2.2 (by decide) (by decide) k_) ?_
        show OFin _ _ _ _ _ _ _ _ T0 (mkF m 49 #[.val (.int (((Int32.ofNat (2 ^ t - 1)).toUInt32 >>> ((16 : Int32) &&& 31).toUInt32).toInt32)), .val (.int ((1 : Int32) + (16 : Int32)))] [])
        refine X0.step (fun hA hx hq t_ k_ => XS.iloadN hA hx rfl (hb hq d12_49) rfl k_) ?_
        show OFin _ _ _ _ _ _ _ _ T0 (mkF m 50 #[.val (.int (((Int32.ofNat (2 ^ t - 1)).toUInt32 >>> ((16 : Int32) &&& 31).toUInt32).toInt32)), .val (.int ((1 : Int32) + (16 : Int32)))] [(.int (((Int32.ofNat (2 ^ t - 1)).toUInt32 >>> ((16 : Int32) &&& 31).toUInt32).toInt32))])
        refine X0.step (fun hA hx hq t_ k_ => XS.bipush hA hx rfl (hb hq d12_50) k_) ?_
        show OFin _ _ _ _ _ _ _ _ T0 (mkF m 52 #[.val (.int (((Int32.ofNat (2 ^ t - 1)).toUInt32 >>> ((16 : Int32) &&& 31).toUInt32).toInt32)), .val (.int ((1 : Int32) + (16 : Int32)))] [(.int (16 : Int32)), (.int (((Int32.ofNat (2 ^ t - 1)).toUInt32 >>> ((16 : Int32) &&& 31).toUInt32).toInt32))])
        by_cases k3 : (16 : Int32) < (((Int32.ofNat (2 ^ t - 1)).toUInt32 >>> ((16 : Int32) &&& 31).toUInt32).toInt32)
        · refine X0.step (fun hA hx hq t_ k_ => XS.icmpNo hA hx rfl (hb hq d12_52) rfl (tlt (k3)).2.2.2 k_) ?_
          show OFin _ _ _ _ _ _ _ _ T0 (mkF m 55 #[.val (.int (((Int32.ofNat (2 ^ t - 1)).toUInt32 >>> ((16 : Int32) &&& 31).toUInt32).toInt32)), .val (.int ((1 : Int32) + (16 : Int32)))] [])
          refine X0.step (fun hA hx hq t_ k_ => XS.iinc hA hx rfl (hb hq d12_55) rfl (l' := #[.val (.int (((Int32.ofNat (2 ^ t - 1)).toUInt32 >>> ((16 : Int32) &&& 31).toUInt32).toInt32)), .val (.int (((1 : Int32) + (16 : Int32)) + (4 : Int32)))]) rfl k_) ?_
          show OFin _ _ _ _ _ _ _ _ T0 (mkF m 58 #[.val (.int (((Int32.ofNat (2 ^ t - 1)).toUInt32 >>> ((16 : Int32) &&& 31).toUInt32).toInt32)), .val (.int (((1 : Int32) + (16 : Int32)) + (4 : Int32)))] [])
          refine X0.step (fun hA hx hq t_ k_ => XS.iloadN hA hx rfl (hb hq d12_58) rfl k_) ?_
          show OFin _ _ _ _ _ _ _ _ T0 (mkF m 59 #[.val (.int (((Int32.ofNat (2 ^ t - 1)).toUInt32 >>> ((16 : Int32) &&& 31).toUInt32).toInt32)), .val (.int (((1 : Int32) + (16 : Int32)) + (4 : Int32)))] [(.int (((Int32.ofNat (2 ^ t - 1)).toUInt32 >>> ((16 : Int32) &&& 31).toUInt32).toInt32))])
          refine X0.step (fun hA hx hq t_ k_ => XS.iconst hA hx rfl (hb hq d12_59) k_) ?_
          show OFin _ _ _ _ _ _ _ _ T0 (mkF m 60 #[.val (.int (((Int32.ofNat (2 ^ t - 1)).toUInt32 >>> ((16 : Int32) &&& 31).toUInt32).toInt32)), .val (.int (((1 : Int32) + (16 : Int32)) + (4 : Int32)))] [(.int (4 : Int32)), (.int (((Int32.ofNat (2 ^ t - 1)).toUInt32 >>> ((16 : Int32) &&& 31).toUInt32).toInt32))])
          refine X0.step (fun hA hx hq t_ k_ => XS.iushr hA hx rfl (hb hq d12_60) rfl k_) ?_
          show OFin _ _ _ _ _ _ _ _ T0 (mkF m 61 #[.val (.int (((Int32.ofNat (2 ^ t - 1)).toUInt32 >>> ((16 : Int32) &&& 31).toUInt32).toInt32)), .val (.int (((1 : Int32) + (16 : Int32)) + (4 : Int32)))] [(.int (((((Int32.ofNat (2 ^ t - 1)).toUInt32 >>> ((16 : Int32) &&& 31).toUInt32).toInt32).toUInt32 >>> ((4 : Int32) &&& 31).toUInt32).toInt32))])
          refine X0.step (fun hA hx hq t_ k_ => XS.istoreN hA hx rfl (hb hq d12_61) rfl (l' := #[.val (.int (((((Int32.ofNat (2 ^ t - 1)).toUInt32 >>> ((16 : Int32) &&& 31).toUInt32).toInt32).toUInt32 >>> ((4 : Int32) &&& 31).toUInt32).toInt32)), .val (.int (((1 : Int32) + (16 : Int32)) + (4 : Int32)))]) rfl k_) ?_
          show OFin _ _ _ _ _ _ _ _ T0 (mkF m 62 #[.val (.int (((((Int32.ofNat (2 ^ t - 1)).toUInt32 >>> ((16 : Int32) &&& 31).toUInt32).toInt32).toUInt32 >>> ((4 : Int32) &&& 31).toUInt32).toInt32)), .val (.int (((1 : Int32) + (16 : Int32)) + (4 : Int32)))] [])
          refine X0.step (fun hA hx hq t_ k_ => XS.iloadN hA hx rfl (hb hq d12_62) rfl k_) ?_
          show OFin _ _ _ _ _ _ _ _ T0 (mkF m 63 #[.val (.int (((((Int32.ofNat (2 ^ t - 1)).toUInt32 >>> ((16 : Int32) &&& 31).toUInt32).toInt32).toUInt32 >>> ((4 : Int32) &&& 31).toUInt32).toInt32)), .val (.int (((1 : Int32) + (16 : Int32)) + (4 : Int32)))] [(.int (((((Int32.ofNat (2 ^ t - 1)).toUInt32 >>> ((16 : Int32) &&& 31).toUInt32).toInt32).toUInt32 >>> ((4 : Int32) &&& 31).toUInt32).toInt32))])
          refine X0.step (fun hA hx hq t_ k_ => XS.iconst hA hx rfl (hb hq d12_63) k_) ?_
          show OFin _ _ _ _ _ _ _ _ T0 (mkF m 64 #[.val (.int (((((Int32.ofNat (2 ^ t - 1)).toUInt32 >>> ((16 : Int32) &&& 31).toUInt32).toInt32).toUInt32 >>> ((4 : Int32) &&& 31).toUInt32).toInt32)), .val (.int (((1 : Int32) + (16 : Int32)) + (4 : Int32)))] [(.int (4 : Int32)), (.int (((((Int32.ofNat (2 ^ t - 1)).toUInt32 >>> ((16 : Int32) &&& 31).toUInt32).toInt32).toUInt32 >>> ((4 : Int32) &&& 31).toUInt32).toInt32))])
          by_cases k4 : (4 : Int32) < (((((Int32.ofNat (2 ^ t - 1)).toUInt32 >>> ((16 : Int32) &&& 31).toUInt32).toInt32).toUInt32 >>> ((4 : Int32) &&& 31).toUInt32).toInt32)
          · refine X0.step (fun hA hx hq t_ k_ => XS.icmpNo hA hx rfl (hb hq d12_64) rfl (tlt (k4)).2.2.2 k_) ?_
            show OFin _ _ _ _ _ _ _ _ T0 (mkF m 67 #[.val (.int (((((Int32.ofNat (2 ^ t - 1)).toUInt32 >>> ((16 : Int32) &&& 31).toUInt32).toInt32).toUInt32 >>> ((4 : Int32) &&& 31).toUInt32).toInt32)), .val (.int (((1 : Int32) + (16 : Int32)) + (4 : Int32)))] [])
            refine X0.step (fun hA hx hq t_ k_ => XS.iinc hA hx rfl (hb hq d12_67) rfl (l' := #[.val (.int (((((Int32.ofNat (2 ^ t - 1)).toUInt32 >>> ((16 : Int32) &&& 31).toUInt32).toInt32).toUInt32 >>> ((4 : Int32) &&& 31).toUInt32).toInt32)), .val (.int ((((1 : Int32) + (16 : Int32)) + (4 : Int32)) + (2 : Int32)))]) rfl k_) ?_
            show OFin _ _ _ _ _ _ _ _ T0 (mkF m 70 #[.val (.int (((((Int32.ofNat (2 ^ t - 1)).toUInt32 >>> ((16 : Int32) &&& 31).toUInt32).toInt32).toUInt32 >>> ((4 : Int32) &&& 31).toUInt32).toInt32)), .val (.int ((((1 : Int32) + (16 : Int32)) + (4 : Int32)) + (2 : Int32)))] [])
            refine X0.step (fun hA hx hq t_ k_ => XS.iloadN hA hx rfl (hb hq d12_70) rfl k_) ?_
            show OFin _ _ _ _ _ _ _ _ T0 (mkF m 71 #[.val (.int (((((Int32.ofNat (2 ^ t - 1)).toUInt32 >>> ((16 : Int32) &&& 31).toUInt32).toInt32).toUInt32 >>> ((4 : Int32) &&& 31).toUInt32).toInt32)), .val (.int ((((1 : Int32) + (16 : Int32)) + (4 : Int32)) + (2 : Int32)))] [(.int (((((Int32.ofNat (2 ^ t - 1)).toUInt32 >>> ((16 : Int32) &&& 31).toUInt32).toInt32).toUInt32 >>> ((4 : Int32) &&& 31).toUInt32).toInt32))])
            refine X0.step (fun hA hx hq t_ k_ => XS.iconst hA hx rfl (hb hq d12_71) k_) ?_
            show OFin _ _ _ _ _ _ _ _ T0 (mkF m 72 #[.val (.int (((((Int32.ofNat (2 ^ t - 1)).toUInt32 >>> ((16 : Int32) &&& 31).toUInt32).toInt32).toUInt32 >>> ((4 : Int32) &&& 31).toUInt32).toInt32)), .val (.int ((((1 : Int32) + (16 : Int32)) + (4 : Int32)) + (2 : Int32)))] [(.int (2 : Int32)), (.int (((((Int32.ofNat (2 ^ t - 1)).toUInt32 >>> ((16 : Int32) &&& 31).toUInt32).toInt32).toUInt32 >>> ((4 : Int32) &&& 31).toUInt32).toInt32))])
            refine X0.step (fun hA hx hq t_ k_ => XS.iushr hA hx rfl (hb hq d12_72) rfl k_) ?_
            show OFin _ _ _ _ _ _ _ _ T0 (mkF m 73 #[.val (.int (((((Int32.ofNat (2 ^ t - 1)).toUInt32 >>> ((16 : Int32) &&& 31).toUInt32).toInt32).toUInt32 >>> ((4 : Int32) &&& 31).toUInt32).toInt32)), .val (.int ((((1 : Int32) + (16 : Int32)) + (4 : Int32)) + (2 : Int32)))] [(.int (((((((Int32.ofNat (2 ^ t - 1)).toUInt32 >>> ((16 : Int32) &&& 31).toUInt32).toInt32).toUInt32 >>> ((4 : Int32) &&& 31).toUInt32).toInt32).toUInt32 >>> ((2 : Int32) &&& 31).toUInt32).toInt32))])
            refine X0.step (fun hA hx hq t_ k_ => XS.istoreN hA hx rfl (hb hq d12_73) rfl (l' := #[.val (.int (((((((Int32.ofNat (2 ^ t - 1)).toUInt32 >>> ((16 : Int32) &&& 31).toUInt32).toInt32).toUInt32 >>> ((4 : Int32) &&& 31).toUInt32).toInt32).toUInt32 >>> ((2 : Int32) &&& 31).toUInt32).toInt32)), .val (.int ((((1 : Int32) + (16 : Int32)) + (4 : Int32)) + (2 : Int32)))]) rfl k_) ?_
            show OFin _ _ _ _ _ _ _ _ T0 (mkF m 74 #[.val (.int (((((((Int32.ofNat (2 ^ t - 1)).toUInt32 >>> ((16 : Int32) &&& 31).toUInt32).toInt32).toUInt32 >>> ((4 : Int32) &&& 31).toUInt32).toInt32).toUInt32 >>> ((2 : Int32) &&& 31).toUInt32).toInt32)), .val (.int ((((1 : Int32) + (16 : Int32)) + (4 : Int32)) + (2 : Int32)))] [])
            refine X0.step (fun hA hx hq t_ k_ => XS.iloadN hA hx rfl (hb hq d12_74) rfl k_) ?_
            show OFin _ _ _ _ _ _ _ _ T0 (mkF m 75 #[.val (.int (((((((Int32.ofNat (2 ^ t - 1)).toUInt32 >>> ((16 : Int32) &&& 31).toUInt32).toInt32).toUInt32 >>> ((4 : Int32) &&& 31).toUInt32).toInt32).toUInt32 >>> ((2 : Int32) &&& 31).toUInt32).toInt32)), .val (.int ((((1 : Int32) + (16 : Int32)) + (4 : Int32)) + (2 : Int32)))] [(.int ((((1 : Int32) + (16 : Int32)) + (4 : Int32)) + (2 : Int32)))])
            refine X0.step (fun hA hx hq t_ k_ => XS.iloadN hA hx rfl (hb hq d12_75) rfl k_) ?_
            show OFin _ _ _ _ _ _ _ _ T0 (mkF m 76 #[.val (.int (((((((Int32.ofNat (2 ^ t - 1)).toUInt32 >>> ((16 : Int32) &&& 31).toUInt32).toInt32).toUInt32 >>> ((4 : Int32) &&& 31).toUInt32).toInt32).toUInt32 >>> ((2 : Int32) &&& 31).toUInt32).toInt32)), .val (.int ((((1 : Int32) + (16 : Int32)) + (4 : Int32)) + (2 : Int32)))] [(.int (((((((Int32.ofNat (2 ^ t - 1)).toUInt32 >>> ((16 : Int32) &&& 31).toUInt32).toInt32).toUInt32 >>> ((4 : Int32) &&& 31).toUInt32).toInt32).toUInt32 >>> ((2 : Int32) &&& 31).toUInt32).toInt32)), (.int ((((1 : Int32) + (16 : Int32)) + (4 : Int32)) + (2 : Int32)))])
            refine X0.step (fun hA hx hq t_ k_ => XS.iconst hA hx rfl (hb hq d12_76) k_) ?_
            show OFin _ _ _ _ _ _ _ _ T0 (mkF m 77 #[.val (.int (((((((Int32.ofNat (2 ^ t - 1)).toUInt32 >>> ((16 : Int32) &&& 31).toUInt32).toInt32).toUInt32 >>> ((4 : Int32) &&& 31).toUInt32).toInt32).toUInt32 >>> ((2 : Int32) &&& 31).toUInt32).toInt32)), .val (.int ((((1 : Int32) + (16 : Int32)) + (4 : Int32)) + (2 : Int32)))] [(.int (1 : Int32)), (.int (((((((Int32.ofNat (2 ^ t - 1)).toUInt32 >>> ((16 : Int32) &&& 31).toUInt32).toInt32).toUInt32 >>> ((4 : Int32) &&& 31).toUInt32).toInt32).toUInt32 >>> ((2 : Int32) &&& 31).toUInt32).toInt32)), (.int ((((1 : Int32) + (16 : Int32)) + (4 : Int32)) + (2 : Int32)))])
            refine X0.step (fun hA hx hq t_ k_ => XS.iushr hA hx rfl (hb hq d12_77) rfl k_) ?_
            show OFin _ _ _ _ _ _ _ _ T0 (mkF m 78 #[.val (.int (((((((Int32.ofNat (2 ^ t - 1)).toUInt32 >>> ((16 : Int32) &&& 31).toUInt32).toInt32).toUInt32 >>> ((4 : Int32) &&& 31).toUInt32).toInt32).toUInt32 >>> ((2 : Int32) &&& 31).toUInt32).toInt32)), .val (.int ((((1 : Int32) + (16 : Int32)) + (4 : Int32)) + (2 : Int32)))] [(.int (((((((((Int32.ofNat (2 ^ t - 1)).toUInt32 >>> ((16 : Int32) &&& 31).toUInt32).toInt32).toUInt32 >>> ((4 : Int32) &&& 31).toUInt32).toInt32).toUInt32 >>> ((2 : Int32) &&& 31).toUInt32).toInt32).toUInt32 >>> ((1 : Int32) &&& 31).toUInt32).toInt32)), (.int ((((1 : Int32) + (16 : Int32)) + (4 : Int32)) + (2 : Int32)))])
            refine X0.step (fun hA hx hq t_ k_ => XS.iadd hA hx rfl (hb hq d12_78) rfl k_) ?_
            show OFin _ _ _ _ _ _ _ _ T0 (mkF m 79 #[.val (.int (((((((Int32.ofNat (2 ^ t - 1)).toUInt32 >>> ((16 : Int32) &&& 31).toUInt32).toInt32).toUInt32 >>> ((4 : Int32) &&& 31).toUInt32).toInt32).toUInt32 >>> ((2 : Int32) &&& 31).toUInt32).toInt32)), .val (.int ((((1 : Int32) + (16 : Int32)) + (4 : Int32)) + (2 : Int32)))] [(.int (((((1 : Int32) + (16 : Int32)) + (4 : Int32)) + (2 : Int32)) + (((((((((Int32.ofNat (2 ^ t - 1)).toUInt32 >>> ((16 : Int32) &&& 31).toUInt32).toInt32).toUInt32 >>> ((4 : Int32) &&& 31).toUInt32).toInt32).toUInt32 >>> ((2 : Int32) &&& 31).toUInt32).toInt32).toUInt32 >>> ((1 : Int32) &&& 31).toUInt32).toInt32)))])
            exact X0.retI d12_79 (by decide) (by decide) (⟨congrArg (fun z => some (Value.int z)) (own_leaf11 ⟨t, ht⟩ k0 k1 k2 k3 k4), rfl⟩)
          · refine X0.step (fun hA hx hq t_ k_ => XS.icmpYes hA hx rfl (pc0 := 64) (pc' := 74) rfl (hb hq d12_64) rfl (flt (k4)).2.2.2 (by decide) (by decide) k_) ?_
            show OFin _ _ _ _ _ _ _ _ T0 (mkF m 74 #[.val (.int (((((Int32.ofNat (2 ^ t - 1)).toUInt32 >>> ((16 : Int32) &&& 31).toUInt32).toInt32).toUInt32 >>> ((4 : Int32) &&& 31).toUInt32).toInt32)), .val (.int (((1 : Int32) + (16 : Int32)) + (4 : Int32)))] [])
            refine X0.step (fun hA hx hq t_ k_ => XS.iloadN hA hx rfl (hb hq d12_74) rfl k_) ?_
            show OFin _ _ _ _ _ _ _ _ T0 (mkF m 75 #[.val (.int (((((Int32.ofNat (2 ^ t - 1)).toUInt32 >>> ((16 : Int32) &&& 31).toUInt32).toInt32).toUInt32 >>> ((4 : Int32) &&& 31).toUInt32).toInt32)), .val (.int (((1 : Int32) + (16 : Int32)) + (4 : Int32)))] [(.int (((1 : Int32) + (16 : Int32)) + (4 : Int32)))])
            refine X0.step (fun hA hx hq t_ k_ => XS.iloadN hA hx rfl (hb hq d12_75) rfl k_) ?_
            show OFin _ _ _ _ _ _ _ _ T0 (mkF m 76 #[.val (.int (((((Int32.ofNat (2 ^ t - 1)).toUInt32 >>> ((16 : Int32) &&& 31).toUInt32).toInt32).toUInt32 >>> ((4 : Int32) &&& 31).toUInt32).toInt32)), .val (.int (((1 : Int32) + (16 : Int32)) + (4 : Int32)))] [(.int (((((Int32.ofNat (2 ^ t - 1)).toUInt32 >>> ((16 : Int32) &&& 31).toUInt32).toInt32).toUInt32 >>> ((4 : Int32) &&& 31).toUInt32).toInt32)), (.int (((1 : Int32) + (16 : Int32)) + (4 : Int32)))])
            refine X0.step (fun hA hx hq t_ k_ => XS.iconst hA hx rfl (hb hq d12_76) k_) ?_
            show OFin _ _ _ _ _ _ _ _ T0 (mkF m 77 #[.val (.int (((((Int32.ofNat (2 ^ t - 1)).toUInt32 >>> ((16 : Int32) &&& 31).toUInt32).toInt32).toUInt32 >>> ((4 : Int32) &&& 31).toUInt32).toInt32)), .val (.int (((1 : Int32) + (16 : Int32)) + (4 : Int32)))] [(.int (1 : Int32)), (.int (((((Int32.ofNat (2 ^ t - 1)).toUInt32 >>> ((16 : Int32) &&& 31).toUInt32).toInt32).toUInt32 >>> ((4 : Int32) &&& 31).toUInt32).toInt32)), (.int (((1 : Int32) + (16 : Int32)) + (4 : Int32)))])
            refine X0.step (fun hA hx hq t_ k_ => XS.iushr hA hx rfl (hb hq d12_77) rfl k_) ?_
            show OFin _ _ _ _ _ _ _ _ T0 (mkF m 78 #[.val (.int (((((Int32.ofNat (2 ^ t - 1)).toUInt32 >>> ((16 : Int32) &&& 31).toUInt32).toInt32).toUInt32 >>> ((4 : Int32) &&& 31).toUInt32).toInt32)), .val (.int (((1 : Int32) + (16 : Int32)) + (4 : Int32)))] [(.int (((((((Int32.ofNat (2 ^ t - 1)).toUInt32 >>> ((16 : Int32) &&& 31).toUInt32).toInt32).toUInt32 >>> ((4 : Int32) &&& 31).toUInt32).toInt32).toUInt32 >>> ((1 : Int32) &&& 31).toUInt32).toInt32)), (.int (((1 : Int32) + (16 : Int32)) + (4 : Int32)))])
            refine X0.step (fun hA hx hq t_ k_ => XS.iadd hA hx rfl (hb hq d12_78) rfl k_) ?_
            show OFin _ _ _ _ _ _ _ _ T0 (mkF m 79 #[.val (.int (((((Int32.ofNat (2 ^ t - 1)).toUInt32 >>> ((16 : Int32) &&& 31).toUInt32).toInt32).toUInt32 >>> ((4 : Int32) &&& 31).toUInt32).toInt32)), .val (.int (((1 : Int32) + (16 : Int32)) + (4 : Int32)))] [(.int ((((1 : Int32) + (16 : Int32)) + (4 : Int32)) + (((((((Int32.ofNat (2 ^ t - 1)).toUInt32 >>> ((16 : Int32) &&& 31).toUInt32).toInt32).toUInt32 >>> ((4 : Int32) &&& 31).toUInt32).toInt32).toUInt32 >>> ((1 : Int32) &&& 31).toUInt32).toInt32)))])
            exact X0.retI d12_79 (by decide) (by decide) (⟨congrArg (fun z => some (Value.int z)) (own_leaf10 ⟨t, ht⟩ k0 k1 k2 k3 k4), rfl⟩)
        · refine X0.step (fun hA hx hq t_ k_ => XS.icmpYes hA hx rfl (pc0 := 52) (pc' := 62) rfl (hb hq d12_52) rfl (flt (k3)).2.2.2 (by decide) (by decide) k_) ?_
          show OFin _ _ _ _ _ _ _ _ T0 (mkF m 62 #[.val (.int (((Int32.ofNat (2 ^ t - 1)).toUInt32 >>> ((16 : Int32) &&& 31).toUInt32).toInt32)), .val (.int ((1 : Int32) + (16 : Int32)))] [])
          refine X0.step (fun hA hx hq t_ k_ => XS.iloadN hA hx rfl (hb hq d12_62) rfl k_) ?_
          show OFin _ _ _ _ _ _ _ _ T0 (mkF m 63 #[.val (.int (((Int32.ofNat (2 ^ t - 1)).toUInt32 >>> ((16 : Int32) &&& 31).toUInt32).toInt32)), .val (.int ((1 : Int32) + (16 : Int32)))] [(.int (((Int32.ofNat (2 ^ t - 1)).toUInt32 >>> ((16 : Int32) &&& 31).toUInt32).toInt32))])
          refine X0.step (fun hA hx hq t_ k_ => XS.iconst hA hx rfl (hb hq d12_63) k_) ?_
          show OFin _ _ _ _ _ _ _ _ T0 (mkF m 64 #[.val (.int (((Int32.ofNat (2 ^ t - 1)).toUInt32 >>> ((16 : Int32) &&& 31).toUInt32).toInt32)), .val (.int ((1 : Int32) + (16 : Int32)))] [(.int (4 : Int32)), (.int (((Int32.ofNat (2 ^ t - 1)).toUInt32 >>> ((16 : Int32) &&& 31).toUInt32).toInt32))])
          by_cases k4 : (4 : Int32) < (((Int32.ofNat (2 ^ t - 1)).toUInt32 >>> ((16 : Int32) &&& 31).toUInt32).toInt32)
          · refine X0.step (fun hA hx hq t_ k_ => XS.icmpNo hA hx rfl (hb hq d12_64) rfl (tlt (k4)).2.2.2 k_) ?_
            show OFin _ _ _ _ _ _ _ _ T0 (mkF m 67 #[.val (.int (((Int32.ofNat (2 ^ t - 1)).toUInt32 >>> ((16 : Int32) &&& 31).toUInt32).toInt32)), .val (.int ((1 : Int32) + (16 : Int32)))] [])
            refine X0.step (fun hA hx hq t_ k_ => XS.iinc hA hx rfl (hb hq d12_67) rfl (l' := #[.val (.int (((Int32.ofNat (2 ^ t - 1)).toUInt32 >>> ((16 : Int32) &&& 31).toUInt32).toInt32)), .val (.int (((1 : Int32) + (16 : Int32)) + (2 : Int32)))]) rfl k_) ?_
            show OFin _ _ _ _ _ _ _ _ T0 (mkF m 70 #[.val (.int (((Int32.ofNat (2 ^ t - 1)).toUInt32 >>> ((16 : Int32) &&& 31).toUInt32).toInt32)), .val (.int (((1 : Int32) + (16 : Int32)) + (2 : Int32)))] [])
            refine X0.step (fun hA hx hq t_ k_ => XS.iloadN hA hx rfl (hb hq d12_70) rfl k_) ?_
            show OFin _ _ _ _ _ _ _ _ T0 (mkF m 71 #[.val (.int (((Int32.ofNat (2 ^ t - 1)).toUInt32 >>> ((16 : Int32) &&& 31).toUInt32).toInt32)), .val (.int (((1 : Int32) + (16 : Int32)) + (2 : Int32)))] [(.int (((Int32.ofNat (2 ^ t - 1)).toUInt32 >>> ((16 : Int32) &&& 31).toUInt32).toInt32))])
            refine X0.step (fun hA hx hq t_ k_ => XS.iconst hA hx rfl (hb hq d12_71) k_) ?_
            show OFin _ _ _ _ _ _ _ _ T0 (mkF m 72 #[.val (.int (((Int32.ofNat (2 ^ t - 1)).toUInt32 >>> ((16 : Int32) &&& 31).toUInt32).toInt32)), .val (.int (((1 : Int32) + (16 : Int32)) + (2 : Int32)))] [(.int (2 : Int32)), (.int (((Int32.ofNat (2 ^ t - 1)).toUInt32 >>> ((16 : Int32) &&& 31).toUInt32).toInt32))])
            refine X0.step (fun hA hx hq t_ k_ => XS.iushr hA hx rfl (hb hq d12_72) rfl k_) ?_
            show OFin _ _ _ _ _ _ _ _ T0 (mkF m 73 #[.val (.int (((Int32.ofNat (2 ^ t - 1)).toUInt32 >>> ((16 : Int32) &&& 31).toUInt32).toInt32)), .val (.int (((1 : Int32) + (16 : Int32)) + (2 : Int32)))] [(.int (((((Int32.ofNat (2 ^ t - 1)).toUInt32 >>> ((16 : Int32) &&& 31).toUInt32).toInt32).toUInt32 >>> ((2 : Int32) &&& 31).toUInt32).toInt32))])
            refine X0.step (fun hA hx hq t_ k_ => XS.istoreN hA hx rfl (hb hq d12_73) rfl (l' := #[.val (.int (((((Int32.ofNat (2 ^ t - 1)).toUInt32 >>> ((16 : Int32) &&& 31).toUInt32).toInt32).toUInt32 >>> ((2 : Int32) &&& 31).toUInt32).toInt32)), .val (.int (((1 : Int32) + (16 : Int32)) + (2 : Int32)))]) rfl k_) ?_
            show OFin _ _ _ _ _ _ _ _ T0 (mkF m 74 #[.val (.int (((((Int32.ofNat (2 ^ t - 1)).toUInt32 >>> ((16 : Int32) &&& 31).toUInt32).toInt32).toUInt32 >>> ((2 : Int32) &&& 31).toUInt32).toInt32)), .val (.int (((1 : Int32) + (16 : Int32)) + (2 : Int32)))] [])
            refine X0.step (fun hA hx hq t_ k_ => XS.iloadN hA hx rfl (hb hq d12_74) rfl k_) ?_
            show OFin _ _ _ _ _ _ _ _ T0 (mkF m 75 #[.val (.int (((((Int32.ofNat (2 ^ t - 1)).toUInt32 >>> ((16 : Int32) &&& 31).toUInt32).toInt32).toUInt32 >>> ((2 : Int32) &&& 31).toUInt32).toInt32)), .val (.int (((1 : Int32) + (16 : Int32)) + (2 : Int32)))] [(.int (((1 : Int32) + (16 : Int32)) + (2 : Int32)))])
            refine X0.step (fun hA hx hq t_ k_ => XS.iloadN hA hx rfl (hb hq d12_75) rfl k_) ?_
            show OFin _ _ _ _ _ _ _ _ T0 (mkF m 76 #[.val (.int (((((Int32.ofNat (2 ^ t - 1)).toUInt32 >>> ((16 : Int32) &&& 31).toUInt32).toInt32).toUInt32 >>> ((2 : Int32) &&& 31).toUInt32).toInt32)), .val (.int (((1 : Int32) + (16 : Int32)) + (2 : Int32)))] [(.int (((((Int32.ofNat (2 ^ t - 1)).toUInt32 >>> ((16 : Int32) &&& 31).toUInt32).toInt32).toUInt32 >>> ((2 : Int32) &&& 31).toUInt32).toInt32)), (.int (((1 : Int32) + (16 : Int32)) + (2 : Int32)))])
            refine X0.step (fun hA hx hq t_ k_ => XS.iconst hA hx rfl (hb hq d12_76) k_) ?_
            show OFin _ _ _ _ _ _ _ _ T0 (mkF m 77 #[.val (.int (((((Int32.ofNat (2 ^ t - 1)).toUInt32 >>> ((16 : Int32) &&& 31).toUInt32).toInt32).toUInt32 >>> ((2 : Int32) &&& 31).toUInt32).toInt32)), .val (.int (((1 : Int32) + (16 : Int32)) + (2 : Int32)))] [(.int (1 : Int32)), (.int (((((Int32.ofNat (2 ^ t - 1)).toUInt32 >>> ((16 : Int32) &&& 31).toUInt32).toInt32).toUInt32 >>> ((2 : Int32) &&& 31).toUInt32).toInt32)), (.int (((1 : Int32) + (16 : Int32)) + (2 : Int32)))])
            refine X0.step (fun hA hx hq t_ k_ => XS.iushr hA hx rfl (hb hq d12_77) rfl k_) ?_
            show OFin _ _ _ _ _ _ _ _ T0 (mkF m 78 #[.val (.int (((((Int32.ofNat (2 ^ t - 1)).toUInt32 >>> ((16 : Int32) &&& 31).toUInt32).toInt32).toUInt32 >>> ((2 : Int32) &&& 31).toUInt32).toInt32)), .val (.int (((1 : Int32) + (16 : Int32)) + (2 : Int32)))] [(.int (((((((Int32.ofNat (2 ^ t - 1)).toUInt32 >>> ((16 : Int32) &&& 31).toUInt32).toInt32).toUInt32 >>> ((2 : Int32) &&& 31).toUInt32).toInt32).toUInt32 >>> ((1 : Int32) &&& 31).toUInt32).toInt32)), (.int (((1 : Int32) + (16 : Int32)) + (2 : Int32)))])
            refine X0.step (fun hA hx hq t_ k_ => XS.iadd hA hx rfl (hb hq d12_78) rfl k_) ?_
            show OFin _ _ _ _ _ _ _ _ T0 (mkF m 79 #[.val (.int (((((Int32.ofNat (2 ^ t - 1)).toUInt32 >>> ((16 : Int32) &&& 31).toUInt32).toInt32).toUInt32 >>> ((2 : Int32) &&& 31).toUInt32).toInt32)), .val (.int (((1 : Int32) + (16 : Int32)) + (2 : Int32)))] [(.int ((((1 : Int32) + (16 : Int32)) + (2 : Int32)) + (((((((Int32.ofNat (2 ^ t - 1)).toUInt32 >>> ((16 : Int32) &&& 31).toUInt32).toInt32).toUInt32 >>> ((2 : Int32) &&& 31).toUInt32).toInt32).toUInt32 >>> ((1 : Int32) &&& 31).toUInt32).toInt32)))])
            exact X0.retI d12_79 (by decide) (by decide) (⟨congrArg (fun z => some (Value.int z)) (own_leaf9 ⟨t, ht⟩ k0 k1 k2 k3 k4), rfl⟩)
          · refine X0.step (fun hA hx hq t_ k_ => XS.icmpYes hA hx rfl (pc0 := 64) (pc' := 74) rfl (hb hq d12_64) rfl (flt (k4)).2.2.2 (by decide) (by decide) k_) ?_
            show OFin _ _ _ _ _ _ _ _ T0 (mkF m 74 #[.val (.int (((Int32.ofNat (2 ^ t - 1)).toUInt32 >>> ((16 : Int32) &&& 31).toUInt32).toInt32)), .val (.int ((1 : Int32) + (16 : Int32)))] [])
            refine X0.step (fun hA hx hq t_ k_ => XS.iloadN hA hx rfl (hb hq d12_74) rfl k_) ?_
            show OFin _ _ _ _ _ _ _ _ T0 (mkF m 75 #[.val (.int (((Int32.ofNat (2 ^ t - 1)).toUInt32 >>> ((16 : Int32) &&& 31).toUInt32).toInt32)), .val (.int ((1 : Int32) + (16 : Int32)))] [(.int ((1 : Int32) + (16 : Int32)))])
            refine X0.step (fun hA hx hq t_ k_ => XS.iloadN hA hx rfl (hb hq d12_75) rfl k_) ?_
            show OFin _ _ _ _ _ _ _ _ T0 (mkF m 76 #[.val (.int (((Int32.ofNat (2 ^ t - 1)).toUInt32 >>> ((16 : Int32) &&& 31).toUInt32).toInt32)), .val (.int ((1 : Int32) + (16 : Int32)))] [(.int (((Int32.ofNat (2 ^ t - 1)).toUInt32 >>> ((16 : Int32) &&& 31).toUInt32).toInt32)), (.int ((1 : Int32) + (16 : Int32)))])
            refine X0.step (fun hA hx hq t_ k_ => XS.iconst hA hx rfl (hb hq d12_76) k_) ?_
            show OFin _ _ _ _ _ _ _ _ T0 (mkF m 77 #[.val (.int (((Int32.ofNat (2 ^ t - 1)).toUInt32 >>> ((16 : Int32) &&& 31).toUInt32).toInt32)), .val (.int ((1 : Int32) + (16 : Int32)))] [(.int (1 : Int32)), (.int (((Int32.ofNat (2 ^ t - 1)).toUInt32 >>> ((16 : Int32) &&& 31).toUInt32).toInt32)), (.int ((1 : Int32) + (16 : Int32)))])
            refine X0.step (fun hA hx hq t_ k_ => XS.iushr hA hx rfl (hb hq d12_77) rfl k_) ?_
            show OFin _ _ _ _ _ _ _ _ T0 (mkF m 78 #[.val (.int (((Int32.ofNat (2 ^ t - 1)).toUInt32 >>> ((16 : Int32) &&& 31).toUInt32).toInt32)), .val (.int ((1 : Int32) + (16 : Int32)))] [(.int (((((Int32.ofNat (2 ^ t - 1)).toUInt32 >>> ((16 : Int32) &&& 31).toUInt32).toInt32).toUInt32 >>> ((1 : Int32) &&& 31).toUInt32).toInt32)), (.int ((1 : Int32) + (16 : Int32)))])
            refine X0.step (fun hA hx hq t_ k_ => XS.iadd hA hx rfl (hb hq d12_78) rfl k_) ?_
            show OFin _ _ _ _ _ _ _ _ T0 (mkF m 79 #[.val (.int (((Int32.ofNat (2 ^ t - 1)).toUInt32 >>> ((16 : Int32) &&& 31).toUInt32).toInt32)), .val (.int ((1 : Int32) + (16 : Int32)))] [(.int (((1 : Int32) + (16 : Int32)) + (((((Int32.ofNat (2 ^ t - 1)).toUInt32 >>> ((16 : Int32) &&& 31).toUInt32).toInt32).toUInt32 >>> ((1 : Int32) &&& 31).toUInt32).toInt32)))])
            exact X0.retI d12_79 (by decide) (by decide) (⟨congrArg (fun z => some (Value.int z)) (own_leaf8 ⟨t, ht⟩ k0 k1 k2 k3 k4), rfl⟩)
    · refine X0.step (fun hA hx hq t_ k_ => XS.icmpYes hA hx rfl (pc0 := 23) (pc' := 34) rfl (hb hq d12_23) rfl (flt (k1)).2.2.2 (by decide) (by decide) k_) ?_
      show OFin _ _ _ _ _ _ _ _ T0 (mkF m 34 #[.val (.int (Int32.ofNat (2 ^ t - 1))), .val (.int (1 : Int32))] [])
      refine X0.step (fun hA hx hq t_ k_ => XS.iloadN hA hx rfl (hb hq d12_34) rfl k_) ?_
      show OFin _ _ _ _ _ _ _ _ T0 (mkF m 35 #[.val (.int (Int32.ofNat (2 ^ t - 1))), .val (.int (1 : Int32))] [(.int (Int32.ofNat (2 ^ t - 1)))])
      refine X0.step (fun hA hx hq t_ k_ => XS.sipush hA hx rfl (hb hq d12_35) k_) ?_
      show OFin _ _ _ _ _ _ _ _ T0 (mkF m 38 #[.val (.int (Int32.ofNat (2 ^ t - 1))), .val (.int (1 : Int32))] [(.int (256 : Int32)), (.int (Int32.ofNat (2 ^ t - 1)))])
      by_cases k2 : (256 : Int32) < (Int32.ofNat (2 ^ t - 1))
      · refine X0.step (fun hA hx hq t_ k_ => XS.icmpNo hA hx rfl (hb hq d12_38) rfl (tlt (k2)).2.2.2 k_) ?_
        show OFin _ _ _ _ _ _ _ _ T0 (mkF m 41 #[.val (.int (Int32.ofNat (2 ^ t - 1))), .val (.int (1 : Int32))] [])
        refine X0.step (fun hA hx hq t_ k_ => XS.iinc hA hx rfl (hb hq d12_41) rfl (l' := #[.val (.int (Int32.ofNat (2 ^ t - 1))), .val (.int ((1 : Int32) + (8 : Int32)))]) rfl k_) ?_
        show OFin _ _ _ _ _ _ _ _ T0 (mkF m 44 #[.val (.int (Int32.ofNat (2 ^ t - 1))), .val (.int ((1 : Int32) + (8 : Int32)))] [])
        refine X0.step (fun hA hx hq t_ k_ => XS.iloadN hA hx rfl (hb hq d12_44) rfl k_) ?_
        show OFin _ _ _ _ _ _ _ _ T0 (mkF m 45 #[.val (.int (Int32.ofNat (2 ^ t - 1))), .val (.int ((1 : Int32) + (8 : Int32)))] [(.int (Int32.ofNat (2 ^ t - 1)))])
        refine X0.step (fun hA hx hq t_ k_ => XS.bipush hA hx rfl (hb hq d12_45) k_) ?_
        show OFin _ _ _ _ _ _ _ _ T0 (mkF m 47 #[.val (.int (Int32.ofNat (2 ^ t - 1))), .val (.int ((1 : Int32) + (8 : Int32)))] [(.int (8 : Int32)), (.int (Int32.ofNat (2 ^ t - 1)))])
        refine X0.step (fun hA hx hq t_ k_ => XS.iushr hA hx rfl (hb hq d12_47) rfl k_) ?_
        show OFin _ _ _ _ _ _ _ _ T0 (mkF m 48 #[.val (.int (Int32.ofNat (2 ^ t - 1))), .val (.int ((1 : Int32) + (8 : Int32)))] [(.int (((Int32.ofNat (2 ^ t - 1)).toUInt32 >>> ((8 : Int32) &&& 31).toUInt32).toInt32))])
        refine X0.step (fun hA hx hq t_ k_ => XS.istoreN hA hx rfl (hb hq d12_48) rfl (l' := #[.val (.int (((Int32.ofNat (2 ^ t - 1)).toUInt32 >>> ((8 : Int32) &&& 31).toUInt32).toInt32)), .val (.int ((1 : Int32) + (8 : Int32)))]) rfl k_) ?_
        show OFin _ _ _ _ _ _ _ _ T0 (mkF m 49 #[.val (.int (((Int32.ofNat (2 ^ t - 1)).toUInt32 >>> ((8 : Int32) &&& 31).toUInt32).toInt32)), .val (.int ((1 : Int32) + (8 : Int32)))] [])
        refine X0.step (fun hA hx hq t_ k_ => XS.iloadN hA hx rfl (hb hq d12_49) rfl k_) ?_
        show OFin _ _ _ _ _ _ _ _ T0 (mkF m 50 #[.val (.int (((Int32.ofNat (2 ^ t - 1)).toUInt32 >>> ((8 : Int32) &&& 31).toUInt32).toInt32)), .val (.int ((1 : Int32) + (8 : Int32)))] [(.int (((Int32.ofNat (2 ^ t - 1)).toUInt32 >>> ((8 : Int32) &&& 31).toUInt32).toInt32))])
        refine X0.step (fun hA hx hq t_ k_ => XS.bipush hA hx rfl (hb hq d12_50) k_) ?_
        show OFin _ _ _ _ _ _ _ _ T0 (mkF m 52 #[.val (.int (((Int32.ofNat (2 ^ t - 1)).toUInt32 >>> ((8 : Int32) &&& 31).toUInt32).toInt32)), .val (.int ((1 : Int32) + (8 : Int32)))] [(.int (16 : Int32)), (.int (((Int32.ofNat (2 ^ t - 1)).toUInt32 >>> ((8 : Int32) &&& 31).toUInt32).toInt32))])
        by_cases k3 : (16 : Int32) < (((Int32.ofNat (2 ^ t - 1)).toUInt32 >>> ((8 : Int32) &&& 31).toUInt32).toInt32)
        · refine X0.step (fun hA hx hq t_ k_ => XS.icmpNo hA hx rfl (hb hq d12_52) rfl (tlt (k3)).2.2.2 k_) ?_
          show OFin _ _ _ _ _ _ _ _ T0 (mkF m 55 #[.val (.int (((Int32.ofNat (2 ^ t - 1)).toUInt32 >>> ((8 : Int32) &&& 31).toUInt32).toInt32)), .val (.int ((1 : Int32) + (8 : Int32)))] [])
          refine X0.step (fun hA hx hq t_ k_ => XS.iinc hA hx rfl (hb hq d12_55) rfl (l' := #[.val (.int (((Int32.ofNat (2 ^ t - 1)).toUInt32 >>> ((8 : Int32) &&& 31).toUInt32).toInt32)), .val (.int (((1 : Int32) + (8 : Int32)) + (4 : Int32)))]) rfl k_) ?_
          show OFin _ _ _ _ _ _ _ _ T0 (mkF m 58 #[.val (.int (((Int32.ofNat (2 ^ t - 1)).toUInt32 >>> ((8 : Int32) &&& 31).toUInt32).toInt32)), .val (.int (((1 : Int32) + (8 : Int32)) + (4 : Int32)))] [])
          refine X0.step (fun hA hx hq t_ k_ => XS.iloadN hA hx rfl (hb hq d12_58) rfl k_) ?_
          show OFin _ _ _ _ _ _ _ _ T0 (mkF m 59 #[.val (.int (((Int32.ofNat (2 ^ t - 1)).toUInt32 >>> ((8 : Int32) &&& 31).toUInt32).toInt32)), .val (.int (((1 : Int32) + (8 : Int32)) + (4 : Int32)))] [(.int (((Int32.ofNat (2 ^ t - 1)).toUInt32 >>> ((8 : Int32) &&& 31).toUInt32).toInt32))])
          refine X0.step (fun hA hx hq t_ k_ => XS.iconst hA hx rfl (hb hq d12_59) k_) ?_
          show OFin _ _ _ _ _ _ _ _ T0 (mkF m 60 #[.val (.int (((Int32.ofNat (2 ^ t - 1)).toUInt32 >>> ((8 : Int32) &&& 31).toUInt32).toInt32)), .val (.int (((1 : Int32) + (8 : Int32)) + (4 : Int32)))] [(.int (4 : Int32)), (.int (((Int32.ofNat (2 ^ t - 1)).toUInt32 >>> ((8 : Int32) &&& 31).toUInt32).toInt32))])
          refine X0.step (fun hA hx hq t_ k_ => XS.iushr hA hx rfl (hb hq d12_60) rfl k_) ?_
          show OFin _ _ _ _ _ _ _ _ T0 (mkF m 61 #[.val (.int (((Int32.ofNat (2 ^ t - 1)).toUInt32 >>> ((8 : Int32) &&& 31).toUInt32).toInt32)), .val (.int (((1 : Int32) + (8 : Int32)) + (4 : Int32)))] [(.int (((((Int32.ofNat (2 ^ t - 1)).toUInt32 >>> ((8 : Int32) &&& 31).toUInt32).toInt32).toUInt32 >>> ((4 : Int32) &&& 31).toUInt32).toInt32))])
          refine X0.step (fun hA hx hq t_ k_ => XS.istoreN hA hx rfl (hb hq d12_61) rfl (l' := #[.val (.int (((((Int32.ofNat (2 ^ t - 1)).toUInt32 >>> ((8 : Int32) &&& 31).toUInt32).toInt32).toUInt32 >>> ((4 : Int32) &&& 31).toUInt32).toInt32)), .val (.int (((1 : Int32) + (8 : Int32)) + (4 : Int32)))]) rfl k_) ?_
          show OFin _ _ _ _ _ _ _ _ T0 (mkF m 62 #[.val (.int (((((Int32.ofNat (2 ^ t - 1)).toUInt32 >>> ((8 : Int32) &&& 31).toUInt32).toInt32).toUInt32 >>> ((4 : Int32) &&& 31).toUInt32).toInt32)), .val (.int (((1 : Int32) + (8 : Int32)) + (4 : Int32)))] [])
          refine X0.step (fun hA hx hq t_ k_ => XS.iloadN hA hx rfl (hb hq d12_62) rfl k_) ?_
          show OFin _ _ _ _ _ _ _ _ T0 (mkF m 63 #[.val (.int (((((Int32.ofNat (2 ^ t - 1)).toUInt32 >>> ((8 : Int32) &&& 31).toUInt32).toInt32).toUInt32 >>> ((4 : Int32) &&& 31).toUInt32).toInt32)), .val (.int (((1 : Int32) + (8 : Int32)) + (4 : Int32)))] [(.int (((((Int32.ofNat (2 ^ t - 1)).toUInt32 >>> ((8 : Int32) &&& 31).toUInt32).toInt32).toUInt32 >>> ((4 : Int32) &&& 31).toUInt32).toInt32))])
          refine X0.step (fun hA hx hq t_ k_ => XS.iconst hA hx rfl (hb hq d12_63) k_) ?_
          show OFin _ _ _ _ _ _ _ _ T0 (mkF m 64 #[.val (.int (((((Int32.ofNat (2 ^ t - 1)).toUInt32 >>> ((8 : Int32) &&& 31).toUInt32).toInt32).toUInt32 >>> ((4 : Int32) &&& 31).toUInt32).toInt32)), .val (.int (((1 : Int32) + (8 : Int32)) + (4 : Int32)))] [(.int (4 : Int32)), (.int (((((Int32.ofNat (2 ^ t - 1)).toUInt32 >>> ((8 : Int32) &&& 31).toUInt32).toInt32).toUInt32 >>> ((4 : Int32) &&& 31).toUInt32).toInt32))])
          by_cases k4 : (4 : Int32) < (((((Int32.ofNat (2 ^ t - 1)).toUInt32 >>> ((8 : Int32) &&& 31).toUInt32).toInt32).toUInt32 >>> ((4 : Int32) &&& 31).toUInt32).toInt32)
          · refine X0.step (fun hA hx hq t_ k_ => XS.icmpNo hA hx rfl (hb hq d12_64) rfl (tlt (k4)).2.2.2 k_) ?_
            show OFin _ _ _ _ _ _ _ _ T0 (mkF m 67 #[.val (.int (((((Int32.ofNat (2 ^ t - 1)).toUInt32 >>> ((8 : Int32) &&& 31).toUInt32).toInt32).toUInt32 >>> ((4 : Int32) &&& 31).toUInt32).toInt32)), .val (.int (((1 : Int32) + (8 : Int32)) + (4 : Int32)))] [])
            refine X0.step (fun hA hx hq t_ k_ => XS.iinc hA hx rfl (hb hq d12_67) rfl (l' := #[.val (.int (((((Int32.ofNat (2 ^ t - 1)).toUInt32 >>> ((8 : Int32) &&& 31).toUInt32).toInt32).toUInt32 >>> ((4 : Int32) &&& 31).toUInt32).toInt32)), .val (.int ((((1 : Int32) + (8 : Int32)) + (4 : Int32)) + (2 : Int32)))]) rfl k_) ?_
            show OFin _ _ _ _ _ _ _ _ T0 (mkF m 70 #[.val (.int (((((Int32.ofNat (2 ^ t - 1)).toUInt32 >>> ((8 : Int32) &&& 31).toUInt32).toInt32).toUInt32 >>> ((4 : Int32) &&& 31).toUInt32).toInt32)), .val (.int ((((1 : Int32) + (8 : Int32)) + (4 : Int32)) + (2 : Int32)))] [])
            refine X0.step (fun hA hx hq t_ k_ => XS.iloadN hA hx rfl (hb hq d12_70) rfl k_) ?_
            show OFin _ _ _ _ _ _ _ _ T0 (mkF m 71 #[.val (.int (((((Int32.ofNat (2 ^ t - 1)).toUInt32 >>> ((8 : Int32) &&& 31).toUInt32).toInt32).toUInt32 >>> ((4 : Int32) &&& 31).toUInt32).toInt32)), .val (.int ((((1 : Int32) + (8 : Int32)) + (4 : Int32)) + (2 : Int32)))] [(.int (((((Int32.ofNat (2 ^ t - 1)).toUInt32 >>> ((8 : Int32) &&& 31).toUInt32).toInt32).toUInt32 >>> ((4 : Int32) &&& 31).toUInt32).toInt32))])
            refine X0.step (fun hA hx hq t_ k_ => XS.iconst hA hx rfl (hb hq d12_71) k_) ?_
            show OFin _ _ _ _ _ _ _ _ T0 (mkF m 72 #[.val (.int (((((Int32.ofNat (2 ^ t - 1)).toUInt32 >>> ((8 : Int32) &&& 31).toUInt32).toInt32).toUInt32 >>> ((4 : Int32) &&& 31).toUInt32).toInt32)), .val (.int ((((1 : Int32) + (8 : Int32)) + (4 : Int32)) + (2 : Int32)))] [(.int (2 : Int32)), (.int (((((Int32.ofNat (2 ^ t - 1)).toUInt32 >>> ((8 : Int32) &&& 31).toUInt32).toInt32).toUInt32 >>> ((4 : Int32) &&& 31).toUInt32).toInt32))])
            refine X0.step (fun hA hx hq t_ k_ => XS.iushr hA hx rfl (hb hq d12_72) rfl k_) ?_
            show OFin _ _ _ _ _ _ _ _ T0 (mkF m 73 #[.val (.int (((((Int32.ofNat (2 ^ t - 1)).toUInt32 >>> ((8 : Int32) &&& 31).toUInt32).toInt32).toUInt32 >>> ((4 : Int32) &&& 31).toUInt32).toInt32)), .val (.int ((((1 : Int32) + (8 : Int32)) + (4 : Int32)) + (2 : Int32)))] [(.int (((((((Int32.ofNat (2 ^ t - 1)).toUInt32 >>> ((8 : Int32) &&& 31).toUInt32).toInt32).toUInt32 >>> ((4 : Int32) &&& 31).toUInt32).toInt32).toUInt32 >>> ((2 : Int32) &&& 31).toUInt32).toInt32))])
            refine X0.step (fun hA hx hq t_ k_ => XS.istoreN hA hx rfl (hb hq d12_73) rfl (l' := #[.val (.int (((((((Int32.ofNat (2 ^ t - 1)).toUInt32 >>> ((8 : Int32) &&& 31).toUInt32).toInt32).toUInt32 >>> ((4 : Int32) &&& 31).toUInt32).toInt32).toUInt32 >>> ((2 : Int32) &&& 31).toUInt32).toInt32)), .val (.int ((((1 : Int32) + (8 : Int32)) + (4 : Int32)) + (2 : Int32)))]) rfl k_) ?_
            show OFin _ _ _ _ _ _ _ _ T0 (mkF m 74 #[.val (.int (((((((Int32.ofNat (2 ^ t - 1)).toUInt32 >>> ((8 : Int32) &&& 31).toUInt32).toInt32).toUInt32 >>> ((4 : Int32) &&& 31).toUInt32).toInt32).toUInt32 >>> ((2 : Int32) &&& 31).toUInt32).toInt32)), .val (.int ((((1 : Int32) + (8 : Int32)) + (4 : Int32)) + (2 : Int32)))] [])
            refine X0.step (fun hA hx hq t_ k_ => XS.iloadN hA hx rfl (hb hq d12_74) rfl k_) ?_
            show OFin _ _ _ _ _ _ _ _ T0 (mkF m 75 #[.val (.int (((((((Int32.ofNat (2 ^ t - 1)).toUInt32 >>> ((8 : Int32) &&& 31).toUInt32).toInt32).toUInt32 >>> ((4 : Int32) &&& 31).toUInt32).toInt32).toUInt32 >>> ((2 : Int32) &&& 31).toUInt32).toInt32)), .val (.int ((((1 : Int32) + (8 : Int32)) + (4 : Int32)) + (2 : Int32)))] [(.int ((((1 : Int32) + (8 : Int32)) + (4 : Int32)) + (2 : Int32)))])
            refine X0.step (fun hA hx hq t_ k_ => XS.iloadN hA hx rfl (hb hq d12_75) rfl k_) ?_
            show OFin _ _ _ _ _ _ _ _ T0 (mkF m 76 #[.val (.int (((((((Int32.ofNat (2 ^ t - 1)).toUInt32 >>> ((8 : Int32) &&& 31).toUInt32).toInt32).toUInt32 >>> ((4 : Int32) &&& 31).toUInt32).toInt32).toUInt32 >>> ((2 : Int32) &&& 31).toUInt32).toInt32)), .val (.int ((((1 : Int32) + (8 : Int32)) + (4 : Int32)) + (2 : Int32)))] [(.int (((((((Int32.ofNat (2 ^ t - 1)).toUInt32 >>> ((8 : Int32) &&& 31).toUInt32).toInt32).toUInt32 >>> ((4 : Int32) &&& 31).toUInt32).toInt32).toUInt32 >>> ((2 : Int32) &&& 31).toUInt32).toInt32)), (.int ((((1 : Int32) + (8 : Int32)) + (4 : Int32)) + (2 : Int32)))])
            refine X0.step (fun hA hx hq t_ k_ => XS.iconst hA hx rfl (hb hq d12_76) k_) ?_
            show OFin _ _ _ _ _ _ _ _ T0 (mkF m 77 #[.val (.int (((((((Int32.ofNat (2 ^ t - 1)).toUInt32 >>> ((8 : Int32) &&& 31).toUInt32).toInt32).toUInt32 >>> ((4 : Int32) &&& 31).toUInt32).toInt32).toUInt32 >>> ((2 : Int32) &&& 31).toUInt32).toInt32)), .val (.int ((((1 : Int32) + (8 : Int32)) + (4 : Int32)) + (2 : Int32)))] [(.int (1 : Int32)), (.int (((((((Int32.ofNat (2 ^ t - 1)).toUInt32 >>> ((8 : Int32) &&& 31).toUInt32).toInt32).toUInt32 >>> ((4 : Int32) &&& 31).toUInt32).toInt32).toUInt32 >>> ((2 : Int32) &&& 31).toUInt32).toInt32)), (.int ((((1 : Int32) + (8 : Int32)) + (4 : Int32)) + (2 : Int32)))])
            refine X0.step (fun hA hx hq t_ k_ => XS.iushr hA hx rfl (hb hq d12_77) rfl k_) ?_
            show OFin _ _ _ _ _ _ _ _ T0 (mkF m 78 #[.val (.int (((((((Int32.ofNat (2 ^ t - 1)).toUInt32 >>> ((8 : Int32) &&& 31).toUInt32).toInt32).toUInt32 >>> ((4 : Int32) &&& 31).toUInt32).toInt32).toUInt32 >>> ((2 : Int32) &&& 31).toUInt32).toInt32)), .val (.int ((((1 : Int32) + (8 : Int32)) + (4 : Int32)) + (2 : Int32)))] [(.int (((((((((Int32.ofNat (2 ^ t - 1)).toUInt32 >>> ((8 : Int32) &&& 31).toUInt32).toInt32).toUInt32 >>> ((4 : Int32) &&& 31).toUInt32).toInt32).toUInt32 >>> ((2 : Int32) &&& 31).toUInt32).toInt32).toUInt32 >>> ((1 : Int32) &&& 31).toUInt32).toInt32)), (.int ((((1 : Int32) + (8 : Int32)) + (4 : Int32)) + (2 : Int32)))])
            refine X0.step (fun hA hx hq t_ k_ => XS.iadd hA hx rfl (hb hq d12_78) rfl k_) ?_
            show OFin _ _ _ _ _ _ _ _ T0 (mkF m 79 #[.val (.int (((((((Int32.ofNat (2 ^ t - 1)).toUInt32 >>> ((8 : Int32) &&& 31).toUInt32).toInt32).toUInt32 >>> ((4 : Int32) &&& 31).toUInt32).toInt32).toUInt32 >>> ((2 : Int32) &&& 31).toUInt32).toInt32)), .val (.int ((((1 : Int32) + (8 : Int32)) + (4 : Int32)) + (2 : Int32)))] [(.int (((((1 : Int32) + (8 : Int32)) + (4 : Int32)) + (2 : Int32)) + (((((((((Int32.ofNat (2 ^ t - 1)).toUInt32 >>> ((8 : Int32) &&& 31).toUInt32).toInt32).toUInt32 >>> ((4 : Int32) &&& 31).toUInt32).toInt32).toUInt32 >>> ((2 : Int32) &&& 31).toUInt32).toInt32).toUInt32 >>> ((1 : Int32) &&& 31).toUInt32).toInt32)))])
            exact X0.retI d12_79 (by decide) (by decide) (⟨congrArg (fun z => some (Value.int z)) (own_leaf7 ⟨t, ht⟩ k0 k1 k2 k3 k4), rfl⟩)
          · refine X0.step (fun hA hx hq t_ k_ => XS.icmpYes hA hx rfl (pc0 := 64) (pc' := 74) rfl (hb hq d12_64) rfl (flt (k4)).2.2.2 (by decide) (by decide) k_) ?_
            show OFin _ _ _ _ _ _ _ _ T0 (mkF m 74 #[.val (.int (((((Int32.ofNat (2 ^ t - 1)).toUInt32 >>> ((8 : Int32) &&& 31).toUInt32).toInt32).toUInt32 >>> ((4 : Int32) &&& 31).toUInt32).toInt32)), .val (.int (((1 : Int32) + (8 : Int32)) + (4 : Int32)))] [])
            refine X0.step (fun hA hx hq t_ k_ => XS.iloadN hA hx rfl (hb hq d12_74) rfl k_) ?_
            show OFin _ _ _ _ _ _ _ _ T0 (mkF m 75 #[.val (.int (((((Int32.ofNat (2 ^ t - 1)).toUInt32 >>> ((8 : Int32) &&& 31).toUInt32).toInt32).toUInt32 >>> ((4 : Int32) &&& 31).toUInt32).toInt32)), .val (.int (((1 : Int32) + (8 : Int32)) + (4 : Int32)))] [(.int (((1 : Int32) + (8 : Int32)) + (4 : Int32)))])
            refine X0.step (fun hA hx hq t_ k_ => XS.iloadN hA hx rfl (hb hq d12_75) rfl k_) ?_
            show OFin _ _ _ _ _ _ _ _ T0 (mkF m 76 #[.val (.int (((((Int32.ofNat (2 ^ t - 1)).toUInt32 >>> ((8 : Int32) &&& 31).toUInt32).toInt32).toUInt32 >>> ((4 : Int32) &&& 31).toUInt32).toInt32)), .val (.int (((1 : Int32) + (8 : Int32)) + (4 : Int32)))] [(.int (((((Int32.ofNat (2 ^ t - 1)).toUInt32 >>> ((8 : Int32) &&& 31).toUInt32).toInt32).toUInt32 >>> ((4 : Int32) &&& 31).toUInt32).toInt32)), (.int (((1 : Int32) + (8 : Int32)) + (4 : Int32)))])
            refine X0.step (fun hA hx hq t_ k_ => XS.iconst hA hx rfl (hb hq d12_76) k_) ?_
            show OFin _ _ _ _ _ _ _ _ T0 (mkF m 77 #[.val (.int (((((Int32.ofNat (2 ^ t - 1)).toUInt32 >>> ((8 : Int32) &&& 31).toUInt32).toInt32).toUInt32 >>> ((4 : Int32) &&& 31).toUInt32).toInt32)), .val (.int (((1 : Int32) + (8 : Int32)) + (4 : Int32)))] [(.int (1 : Int32)), (.int (((((Int32.ofNat (2 ^ t - 1)).toUInt32 >>> ((8 : Int32) &&& 31).toUInt32).toInt32).toUInt32 >>> ((4 : Int32) &&& 31).toUInt32).toInt32)), (.int (((1 : Int32) + (8 : Int32)) + (4 : Int32)))])
            refine X0.step (fun hA hx hq t_ k_ => XS.iushr hA hx rfl (hb hq d12_77) rfl k_) ?_
            show OFin _ _ _ _ _ _ _ _ T0 (mkF m 78 #[.val (.int (((((Int32.ofNat (2 ^ t - 1)).toUInt32 >>> ((8 : Int32) &&& 31).toUInt32).toInt32).toUInt32 >>> ((4 : Int32) &&& 31).toUInt32).toInt32)), .val (.int (((1 : Int32) + (8 : Int32)) + (4 : Int32)))] [(.int (((((((Int32.ofNat (2 ^ t - 1)).toUInt32 >>> ((8 : Int32) &&& 31).toUInt32).toInt32).toUInt32 >>> ((4 : Int32) &&& 31).toUInt32).toInt32).toUInt32 >>> ((1 : Int32) &&& 31).toUInt32).toInt32)), (.int (((1 : Int32) + (8 : Int32)) + (4 : Int32)))])
            refine X0.step (fun hA hx hq t_ k_ => XS.iadd hA hx rfl (hb hq d12_78) rfl k_) ?_
            show OFin _ _ _ _ _ _ _ _ T0 (mkF m 79 #[.val (.int (((((Int32.ofNat (2 ^ t - 1)).toUInt32 >>> ((8 : Int32) &&& 31).toUInt32).toInt32).toUInt32 >>> ((4 : Int32) &&& 31).toUInt32).toInt32)), .val (.int (((1 : Int32) + (8 : Int32)) + (4 : Int32)))] [(.int ((((1 : Int32) + (8 : Int32)) + (4 : Int32)) + (((((((Int32.ofNat (2 ^ t - 1)).toUInt32 >>> ((8 : Int32) &&& 31).toUInt32).toInt32).toUInt32 >>> ((4 : Int32) &&& 31).toUInt32).toInt32).toUInt32 >>> ((1 : Int32) &&& 31).toUInt32).toInt32)))])
            exact X0.retI d12_79 (by decide) (by decide) (⟨congrArg (fun z => some (Value.int z)) (own_leaf6 ⟨t, ht⟩ k0 k1 k2 k3 k4), rfl⟩)
        · refine X0.step (fun hA hx hq t_ k_ => XS.icmpYes hA hx rfl (pc0 := 52) (pc' := 62) rfl (hb hq d12_52) rfl (flt (k3)).2.2.2 (by decide) (by decide) k_) ?_
          show OFin _ _ _ _ _ _ _ _ T0 (mkF m 62 #[.val (.int (((Int32.ofNat (2 ^ t - 1)).toUInt32 >>> ((8 : Int32) &&& 31).toUInt32).toInt32)), .val (.int ((1 : Int32) + (8 : Int32)))] [])
          refine X0.step (fun hA hx hq t_ k_ => XS.iloadN hA hx rfl (hb hq d12_62) rfl k_) ?_
          show OFin _ _ _ _ _ _ _ _ T0 (mkF m 63 #[.val (.int (((Int32.ofNat (2 ^ t - 1)).toUInt32 >>> ((8 : Int32) &&& 31).toUInt32).toInt32)), .val (.int ((1 : Int32) + (8 : Int32)))] [(.int (((Int32.ofNat (2 ^ t - 1)).toUInt32 >>> ((8 : Int32) &&& 31).toUInt32).toInt32))])
          refine X0.step (fun hA hx hq t_ k_ => XS.iconst hA hx rfl (hb hq d12_63) k_) ?_
          show OFin _ _ _ _ _ _ _ _ T0 (mkF m 64 #[.val (.int (((Int32.ofNat (2 ^ t - 1)).toUInt32 >>> ((8 : Int32) &&& 31).toUInt32).toInt32)), .val (.int ((1 : Int32) + (8 : Int32)))] [(.int (4 : Int32)), (.int (((Int32.ofNat (2 ^ t - 1)).toUInt32 >>> ((8 : Int32) &&& 31).toUInt32).toInt32))])
          by_cases k4 : (4 : Int32) < (((Int32.ofNat (2 ^ t - 1)).toUInt32 >>> ((8 : Int32) &&& 31).toUInt32).toInt32)
          · refine X0.step (fun hA hx hq t_ k_ => XS.icmpNo hA hx rfl (hb hq d12_64) rfl (tlt (k4)).2.2.2 k_) ?_
            show OFin _ _ _ _ _ _ _ _ T0 (mkF m 67 #[.val (.int (((Int32.ofNat (2 ^ t - 1)).toUInt32 >>> ((8 : Int32) &&& 31).toUInt32).toInt32)), .val (.int ((1 : Int32) + (8 : Int32)))] [])
            refine X0.step (fun hA hx hq t_ k_ => XS.iinc hA hx rfl (hb hq d12_67) rfl (l' := #[.val (.int (((Int32.ofNat (2 ^ t - 1)).toUInt32 >>> ((8 : Int32) &&& 31).toUInt32).toInt32)), .val (.int (((1 : Int32) + (8 : Int32)) + (2 : Int32)))]) rfl k_) ?_
            show OFin _ _ _ _ _ _ _ _ T0 (mkF m 70 #[.val (.int (((Int32.ofNat (2 ^ t - 1)).toUInt32 >>> ((8 : Int32) &&& 31).toUInt32).toInt32)), .val (.int (((1 : Int32) + (8 : Int32)) + (2 : Int32)))] [])
            refine X0.step (fun hA hx hq t_ k_ => XS.iloadN hA hx rfl (hb hq d12_70) rfl k_) ?_
            show OFin _ _ _ _ _ _ _ _ T0 (mkF m 71 #[.val (.int (((Int32.ofNat (2 ^ t - 1)).toUInt32 >>> ((8 : Int32) &&& 31).toUInt32).toInt32)), .val (.int (((1 : Int32) + (8 : Int32)) + (2 : Int32)))] [(.int (((Int32.ofNat (2 ^ t - 1)).toUInt32 >>> ((8 : Int32) &&& 31).toUInt32).toInt32))])
            refine X0.step (fun hA hx hq t_ k_ => XS.iconst hA hx rfl (hb hq d12_71) k_) ?_
            show OFin _ _ _ _ _ _ _ _ T0 (mkF m 72 #[.val (.int (((Int32.ofNat (2 ^ t - 1)).toUInt32 >>> ((8 : Int32) &&& 31).toUInt32).toInt32)), .val (.int (((1 : Int32) + (8 : Int32)) + (2 : Int32)))] [(.int (2 : Int32)), (.int (((Int32.ofNat (2 ^ t - 1)).toUInt32 >>> ((8 : Int32) &&& 31).toUInt32).toInt32))])
            refine X0.step (fun hA hx hq t_ k_ => XS.iushr hA hx rfl (hb hq d12_72) rfl k_) ?_
            show OFin _ _ _ _ _ _ _ _ T0 (mkF m 73 #[.val (.int (((Int32.ofNat (2 ^ t - 1)).toUInt32 >>> ((8 : Int32) &&& 31).toUInt32).toInt32)), .val (.int (((1 : Int32) + (8 : Int32)) + (2 : Int32)))] [(.int (((((Int32.ofNat (2 ^ t - 1)).toUInt32 >>> ((8 : Int32) &&& 31).toUInt32).toInt32).toUInt32 >>> ((2 : Int32) &&& 31).toUInt32).toInt32))])
            refine X0.step (fun hA hx hq t_ k_ => XS.istoreN hA hx rfl (hb hq d12_73) rfl (l' := #[.val (.int (((((Int32.ofNat (2 ^ t - 1)).toUInt32 >>> ((8 : Int32) &&& 31).toUInt32).toInt32).toUInt32 >>> ((2 : Int32) &&& 31).toUInt32).toInt32)), .val (.int (((1 : Int32) + (8 : Int32)) + (2 : Int32)))]) rfl k_) ?_
            show OFin _ _ _ _ _ _ _ _ T0 (mkF m 74 #[.val (.int (((((Int32.ofNat (2 ^ t - 1)).toUInt32 >>> ((8 : Int32) &&& 31).toUInt32).toInt32).toUInt32 >>> ((2 : Int32) &&& 31).toUInt32).toInt32)), .val (.int (((1 : Int32) + (8 : Int32)) + (2 : Int32)))] [])
            refine X0.step (fun hA hx hq t_ k_ => XS.iloadN hA hx rfl (hb hq d12_74) rfl k_) ?_
            show OFin _ _ _ _ _ _ _ _ T0 (mkF m 75 #[.val (.int (((((Int32.ofNat (2 ^ t - 1)).toUInt32 >>> ((8 : Int32) &&& 31).toUInt32).toInt32).toUInt32 >>> ((2 : Int32) &&& 31).toUInt32).toInt32)), .val (.int (((1 : Int32) + (8 : Int32)) + (2 : Int32)))] [(.int (((1 : Int32) + (8 : Int32)) + (2 : Int32)))])
            refine X0.step (fun hA hx hq t_ k_ => XS.iloadN hA hx rfl (hb hq d12_75) rfl k_) ?_
            show OFin _ _ _ _ _ _ _ _ T0 (mkF m 76 #[.val (.int (((((Int32.ofNat (2 ^ t - 1)).toUInt32 >>> ((8 : Int32) &&& 31).toUInt32).toInt32).toUInt32 >>> ((2 : Int32) &&& 31).toUInt32).toInt32)), .val (.int (((1 : Int32) + (8 : Int32)) + (2 : Int32)))] [(.int (((((Int32.ofNat (2 ^ t - 1)).toUInt32 >>> ((8 : Int32) &&& 31).toUInt32).toInt32).toUInt32 >>> ((2 : Int32) &&& 31).toUInt32).toInt32)), (.int (((1 : Int32) + (8 : Int32)) + (2 : Int32)))])
            refine X0.step (fun hA hx hq t_ k_ => XS.iconst hA hx rfl (hb hq d12_76) k_) ?_
            show OFin _ _ _ _ _ _ _ _ T0 (mkF m 77 #[.val (.int (((((Int32.ofNat (2 ^ t - 1)).toUInt32 >>> ((8 : Int32) &&& 31).toUInt32).toInt32).toUInt32 >>> ((2 : Int32) &&& 31).toUInt32).toInt32)), .val (.int (((1 : Int32) + (8 : Int32)) + (2 : Int32)))] [(.int (1 : Int32)), (.int (((((Int32.ofNat (2 ^ t - 1)).toUInt32 >>> ((8 : Int32) &&& 31).toUInt32).toInt32).toUInt32 >>> ((2 : Int32) &&& 31).toUInt32).toInt32)), (.int (((1 : Int32) + (8 : Int32)) + (2 : Int32)))])
            refine X0.step (fun hA hx hq t_ k_ => XS.iushr hA hx rfl (hb hq d12_77) rfl k_) ?_
            show OFin _ _ _ _ _ _ _ _ T0 (mkF m 78 #[.val (.int (((((Int32.ofNat (2 ^ t - 1)).toUInt32 >>> ((8 : Int32) &&& 31).toUInt32).toInt32).toUInt32 >>> ((2 : Int32) &&& 31).toUInt32).toInt32)), .val (.int (((1 : Int32) + (8 : Int32)) + (2 : Int32)))] [(.int (((((((Int32.ofNat (2 ^ t - 1)).toUInt32 >>> ((8 : Int32) &&& 31).toUInt32).toInt32).toUInt32 >>> ((2 : Int32) &&& 31).toUInt32).toInt32).toUInt32 >>> ((1 : Int32) &&& 31).toUInt32).toInt32)), (.int (((1 : Int32) + (8 : Int32)) + (2 : Int32)))])
            refine X0.step (fun hA hx hq t_ k_ => XS.iadd hA hx rfl (hb hq d12_78) rfl k_) ?_
            show OFin _ _ _ _ _ _ _ _ T0 (mkF m 79 #[.val (.int (((((Int32.ofNat (2 ^ t - 1)).toUInt32 >>> ((8 : Int32) &&& 31).toUInt32).toInt32).toUInt32 >>> ((2 : Int32) &&& 31).toUInt32).toInt32)), .val (.int (((1 : Int32) + (8 : Int32)) + (2 : Int32)))] [(.int ((((1 : Int32) + (8 : Int32)) + (2 : Int32)) + (((((((Int32.ofNat (2 ^ t - 1)).toUInt32 >>> ((8 : Int32) &&& 31).toUInt32).toInt32).toUInt32 >>> ((2 : Int32) &&& 31).toUInt32).toInt32).toUInt32 >>> ((1 : Int32) &&& 31).toUInt32).toInt32)))])
            exact X0.retI d12_79 (by decide) (by decide) (⟨congrArg (fun z => some (Value.int z)) (own_leaf5 ⟨t, ht⟩ k0 k1 k2 k3 k4), rfl⟩)
          · refine X0.step (fun hA hx hq t_ k_ => XS.icmpYes hA hx rfl (pc0 := 64) (pc' := 74) rfl (hb hq d12_64) rfl (flt (k4)).2.2.2 (by decide) (by decide) k_) ?_
            show OFin _ _ _ _ _ _ _ _ T0 (mkF m 74 #[.val (.int (((Int32.ofNat (2 ^ t - 1)).toUInt32 >>> ((8 : Int32) &&& 31).toUInt32).toInt32)), .val (.int ((1 : Int32) + (8 : Int32)))] [])
            refine X0.step (fun hA hx hq t_ k_ => XS.iloadN hA hx rfl (hb hq d12_74) rfl k_) ?_
            show OFin _ _ _ _ _ _ _ _ T0 (mkF m 75 #[.val (.int (((Int32.ofNat (2 ^ t - 1)).toUInt32 >>> ((8 : Int32) &&& 31).toUInt32).toInt32)), .val (.int ((1 : Int32) + (8 : Int32)))] [(.int ((1 : Int32) + (8 : Int32)))])
            refine X0.step (fun hA hx hq t_ k_ => XS.iloadN hA hx rfl (hb hq d12_75) rfl k_) ?_
            show OFin _ _ _ _ _ _ _ _ T0 (mkF m 76 #[.val (.int (((Int32.ofNat (2 ^ t - 1)).toUInt32 >>> ((8 : Int32) &&& 31).toUInt32).toInt32)), .val (.int ((1 : Int32) + (8 : Int32)))] [(.int (((Int32.ofNat (2 ^ t - 1)).toUInt32 >>> ((8 : Int32) &&& 31).toUInt32).toInt32)), (.int ((1 : Int32) + (8 : Int32)))])
            refine X0.step (fun hA hx hq t_ k_ => XS.iconst hA hx rfl (hb hq d12_76) k_) ?_
            show OFin _ _ _ _ _ _ _ _ T0 (mkF m 77 #[.val (.int (((Int32.ofNat (2 ^ t - 1)).toUInt32 >>> ((8 : Int32) &&& 31).toUInt32).toInt32)), .val (.int ((1 : Int32) + (8 : Int32)))] [(.int (1 : Int32)), (.int (((Int32.ofNat (2 ^ t - 1)).toUInt32 >>> ((8 : Int32) &&& 31).toUInt32).toInt32)), (.int ((1 : Int32) + (8 : Int32)))])
            refine X0.step (fun hA hx hq t_ k_ => XS.iushr hA hx rfl (hb hq d12_77) rfl k_) ?_
            show OFin _ _ _ _ _ _ _ _ T0 (mkF m 78 #[.val (.int (((Int32.ofNat (2 ^ t - 1)).toUInt32 >>> ((8 : Int32) &&& 31).toUInt32).toInt32)), .val (.int ((1 : Int32) + (8 : Int32)))] [(.int (((((Int32.ofNat (2 ^ t - 1)).toUInt32 >>> ((8 : Int32) &&& 31).toUInt32).toInt32).toUInt32 >>> ((1 : Int32) &&& 31).toUInt32).toInt32)), (.int ((1 : Int32) + (8 : Int32)))])
            refine X0.step (fun hA hx hq t_ k_ => XS.iadd hA hx rfl (hb hq d12_78) rfl k_) ?_
            show OFin _ _ _ _ _ _ _ _ T0 (mkF m 79 #[.val (.int (((Int32.ofNat (2 ^ t - 1)).toUInt32 >>> ((8 : Int32) &&& 31).toUInt32).toInt32)), .val (.int ((1 : Int32) + (8 : Int32)))] [(.int (((1 : Int32) + (8 : Int32)) + (((((Int32.ofNat (2 ^ t - 1)).toUInt32 >>> ((8 : Int32) &&& 31).toUInt32).toInt32).toUInt32 >>> ((1 : Int32) &&& 31).toUInt32).toInt32)))])
            exact X0.retI d12_79 (by decide) (by decide) (⟨congrArg (fun z => some (Value.int z)) (own_leaf4 ⟨t, ht⟩ k0 k1 k2 k3 k4), rfl⟩)
      · refine X0.step (fun hA hx hq t_ k_ => XS.icmpYes hA hx rfl (pc0 := 38) (pc' := 49) rfl (hb hq d12_38) rfl (flt (k2)).2.2.2 (by decide) (by decide) k_) ?_
        show OFin _ _ _ _ _ _ _ _ T0 (mkF m 49 #[.val (.int (Int32.ofNat (2 ^ t - 1))), .val (.int (1 : Int32))] [])
        refine X0.step (fun hA hx hq t_ k_ => XS.iloadN hA hx rfl (hb hq d12_49) rfl k_) ?_
        show OFin _ _ _ _ _ _ _ _ T0 (mkF m 50 #[.val (.int (Int32.ofNat (2 ^ t - 1))), .val (.int (1 : Int32))] [(.int (Int32.ofNat (2 ^ t - 1)))])
        refine X0.step (fun hA hx hq t_ k_ => XS.bipush hA hx rfl (hb hq d12_50) k_) ?_
        show OFin _ _ _ _ _ _ _ _ T0 (mkF m 52 #[.val (.int (Int32.ofNat (2 ^ t - 1))), .val (.int (1 : Int32))] [(.int (16 : Int32)), (.int (Int32.ofNat (2 ^ t - 1)))])
        by_cases k3 : (16 : Int32) < (Int32.ofNat (2 ^ t - 1))
        · refine X0.step (fun hA hx hq t_ k_ => XS.icmpNo hA hx rfl (hb hq d12_52) rfl (tlt (k3)).2.2.2 k_) ?_
          show OFin _ _ _ _ _ _ _ _ T0 (mkF m 55 #[.val (.int (Int32.ofNat (2 ^ t - 1))), .val (.int (1 : Int32))] [])
          refine X0.step (fun hA hx hq t_ k_ => XS.iinc hA hx rfl (hb hq d12_55) rfl (l' := #[.val (.int (Int32.ofNat (2 ^ t - 1))), .val (.int ((1 : Int32) + (4 : Int32)))]) rfl k_) ?_
          show OFin _ _ _ _ _ _ _ _ T0 (mkF m 58 #[.val (.int (Int32.ofNat (2 ^ t - 1))), .val (.int ((1 : Int32) + (4 : Int32)))] [])
          refine X0.step (fun hA hx hq t_ k_ => XS.iloadN hA hx rfl (hb hq d12_58) rfl k_) ?_
          show OFin _ _ _ _ _ _ _ _ T0 (mkF m 59 #[.val (.int (Int32.ofNat (2 ^ t - 1))), .val (.int ((1 : Int32) + (4 : Int32)))] [(.int (Int32.ofNat (2 ^ t - 1)))])
          refine X0.step (fun hA hx hq t_ k_ => XS.iconst hA hx rfl (hb hq d12_59) k_) ?_
          show OFin _ _ _ _ _ _ _ _ T0 (mkF m 60 #[.val (.int (Int32.ofNat (2 ^ t - 1))), .val (.int ((1 : Int32) + (4 : Int32)))] [(.int (4 : Int32)), (.int (Int32.ofNat (2 ^ t - 1)))])
          refine X0.step (fun hA hx hq t_ k_ => XS.iushr hA hx rfl (hb hq d12_60) rfl k_) ?_
          show OFin _ _ _ _ _ _ _ _ T0 (mkF m 61 #[.val (.int (Int32.ofNat (2 ^ t - 1))), .val (.int ((1 : Int32) + (4 : Int32)))] [(.int (((Int32.ofNat (2 ^ t - 1)).toUInt32 >>> ((4 : Int32) &&& 31).toUInt32).toInt32))])
          refine X0.step (fun hA hx hq t_ k_ => XS.istoreN hA hx rfl (hb hq d12_61) rfl (l' := #[.val (.int (((Int32.ofNat (2 ^ t - 1)).toUInt32 >>> ((4 : Int32) &&& 31).toUInt32).toInt32)), .val (.int ((1 : Int32) + (4 : Int32)))]) rfl k_) ?_
          show OFin _ _ _ _ _ _ _ _ T0 (mkF m 62 #[.val (.int (((Int32.ofNat (2 ^ t - 1)).toUInt32 >>> ((4 : Int32) &&& 31).toUInt32).toInt32)), .val (.int ((1 : Int32) + (4 : Int32)))] [])
          refine X0.step (fun hA hx hq t_ k_ => XS.iloadN hA hx rfl (hb hq d12_62) rfl k_) ?_
          show OFin _ _ _ _ _ _ _ _ T0 (mkF m 63 #[.val (.int (((Int32.ofNat (2 ^ t - 1)).toUInt32 >>> ((4 : Int32) &&& 31).toUInt32).toInt32)), .val (.int ((1 : Int32) + (4 : Int32)))] [(.int (((Int32.ofNat (2 ^ t - 1)).toUInt32 >>> ((4 : Int32) &&& 31).toUInt32).toInt32))])
          refine X0.step (fun hA hx hq t_ k_ => XS.iconst hA hx rfl (hb hq d12_63) k_) ?_
          show OFin _ _ _ _ _ _ _ _ T0 (mkF m 64 #[.val (.int (((Int32.ofNat (2 ^ t - 1)).toUInt32 >>> ((4 : Int32) &&& 31).toUInt32).toInt32)), .val (.int ((1 : Int32) + (4 : Int32)))] [(.int (4 : Int32)), (.int (((Int32.ofNat (2 ^ t - 1)).toUInt32 >>> ((4 : Int32) &&& 31).toUInt32).toInt32))])
          by_cases k4 : (4 : Int32) < (((Int32.ofNat (2 ^ t - 1)).toUInt32 >>> ((4 : Int32) &&& 31).toUInt32).toInt32)
          · refine X0.step (fun hA hx hq t_ k_ => XS.icmpNo hA hx rfl (hb hq d12_64) rfl (tlt (k4)).2.2.2 k_) ?_
            show OFin _ _ _ _ _ _ _ _ T0 (mkF m 67 #[.val (.int (((Int32.ofNat (2 ^ t - 1)).toUInt32 >>> ((4 : Int32) &&& 31).toUInt32).toInt32)), .val (.int ((1 : Int32) + (4 : Int32)))] [])
            refine X0.step (fun hA hx hq t_ k_ => XS.iinc hA hx rfl (hb hq d12_67) rfl (l' := #[.val (.int (((Int32.ofNat (2 ^ t - 1)).toUInt32 >>> ((4 : Int32) &&& 31).toUInt32).toInt32)), .val (.int (((1 : Int32) + (4 : Int32)) + (2 : Int32)))]) rfl k_) ?_
            show OFin _ _ _ _ _ _ _ _ T0 (mkF m 70 #[.val (.int (((Int32.ofNat (2 ^ t - 1)).toUInt32 >>> ((4 : Int32) &&& 31).toUInt32).toInt32)), .val (.int (((1 : Int32) + (4 : Int32)) + (2 : Int32)))] [])
            refine X0.step (fun hA hx hq t_ k_ => XS.iloadN hA hx rfl (hb hq d12_70) rfl k_) ?_
            show OFin _ _ _ _ _ _ _ _ T0 (mkF m 71 #[.val (.int (((Int32.ofNat (2 ^ t - 1)).toUInt32 >>> ((4 : Int32) &&& 31).toUInt32).toInt32)), .val (.int (((1 : Int32) + (4 : Int32)) + (2 : Int32)))] [(.int (((Int32.ofNat (2 ^ t - 1)).toUInt32 >>> ((4 : Int32) &&& 31).toUInt32).toInt32))])
            refine X0.step (fun hA hx hq t_ k_ => XS.iconst hA hx rfl (hb hq d12_71) k_) ?_
            show OFin _ _ _ _ _ _ _ _ T0 (mkF m 72 #[.val (.int (((Int32.ofNat (2 ^ t - 1)).toUInt32 >>> ((4 : Int32) &&& 31).toUInt32).toInt32)), .val (.int (((1 : Int32) + (4 : Int32)) + (2 : Int32)))] [(.int (2 : Int32)), (.int (((Int32.ofNat (2 ^ t - 1)).toUInt32 >>> ((4 : Int32) &&& 31).toUInt32).toInt32))])
            refine X0.step (fun hA hx hq t_ k_ => XS.iushr hA hx rfl (hb hq d12_72) rfl k_) ?_
            show OFin _ _ _ _ _ _ _ _ T0 (mkF m 73 #[.val (.int (((Int32.ofNat (2 ^ t - 1)).toUInt32 >>> ((4 : Int32) &&& 31).toUInt32).toInt32)), .val (.int (((1 : Int32) + (4 : Int32)) + (2 : Int32)))] [(.int (((((Int32.ofNat (2 ^ t - 1)).toUInt32 >>> ((4 : Int32) &&& 31).toUInt32).toInt32).toUInt32 >>> ((2 : Int32) &&& 31).toUInt32).toInt32))])
            refine X0.step (fun hA hx hq t_ k_ => XS.istoreN hA hx rfl (hb hq d12_73) rfl (l' := #[.val (.int (((((Int32.ofNat (2 ^ t - 1)).toUInt32 >>> ((4 : Int32) &&& 31).toUInt32).toInt32).toUInt32 >>> ((2 : Int32) &&& 31).toUInt32).toInt32)), .val (.int (((1 : Int32) + (4 : Int32)) + (2 : Int32)))]) rfl k_) ?_
            show OFin _ _ _ _ _ _ _ _ T0 (mkF m 74 #[.val (.int (((((Int32.ofNat (2 ^ t - 1)).toUInt32 >>> ((4 : Int32) &&& 31).toUInt32).toInt32).toUInt32 >>> ((2 : Int32) &&& 31).toUInt32).toInt32)), .val (.int (((1 : Int32) + (4 : Int32)) + (2 : Int32)))] [])
            refine X0.step (fun hA hx hq t_ k_ => XS.iloadN hA hx rfl (hb hq d12_74) rfl k_) ?_
            show OFin _ _ _ _ _ _ _ _ T0 (mkF m 75 #[.val (.int (((((Int32.ofNat (2 ^ t - 1)).toUInt32 >>> ((4 : Int32) &&& 31).toUInt32).toInt32).toUInt32 >>> ((2 : Int32) &&& 31).toUInt32).toInt32)), .val (.int (((1 : Int32) + (4 : Int32)) + (2 : Int32)))] [(.int (((1 : Int32) + (4 : Int32)) + (2 : Int32)))])
            refine X0.step (fun hA hx hq t_ k_ => XS.iloadN hA hx rfl (hb hq d12_75) rfl k_) ?_
            show OFin _ _ _ _ _ _ _ _ T0 (mkF m 76 #[.val (.int (((((Int32.ofNat (2 ^ t - 1)).toUInt32 >>> ((4 : Int32) &&& 31).toUInt32).toInt32).toUInt32 >>> ((2 : Int32) &&& 31).toUInt32).toInt32)), .val (.int (((1 : Int32) + (4 : Int32)) + (2 : Int32)))] [(.int (((((Int32.ofNat (2 ^ t - 1)).toUInt32 >>> ((4 : Int32) &&& 31).toUInt32).toInt32).toUInt32 >>> ((2 : Int32) &&& 31).toUInt32).toInt32)), (.int (((1 : Int32) + (4 : Int32)) + (2 : Int32)))])
            refine X0.step (fun hA hx hq t_ k_ => XS.iconst hA hx rfl (hb hq d12_76) k_) ?_
            show OFin _ _ _ _ _ _ _ _ T0 (mkF m 77 #[.val (.int (((((Int32.ofNat (2 ^ t - 1)).toUInt32 >>> ((4 : Int32) &&& 31).toUInt32).toInt32).toUInt32 >>> ((2 : Int32) &&& 31).toUInt32).toInt32)), .val (.int (((1 : Int32) + (4 : Int32)) + (2 : Int32)))] [(.int (1 : Int32)), (.int (((((Int32.ofNat (2 ^ t - 1)).toUInt32 >>> ((4 : Int32) &&& 31).toUInt32).toInt32).toUInt32 >>> ((2 : Int32) &&& 31).toUInt32).toInt32)), (.int (((1 : Int32) + (4 : Int32)) + (2 : Int32)))])
            refine X0.step (fun hA hx hq t_ k_ => XS.iushr hA hx rfl (hb hq d12_77) rfl k_) ?_
            show OFin _ _ _ _ _ _ _ _ T0 (mkF m 78 #[.val (.int (((((Int32.ofNat (2 ^ t - 1)).toUInt32 >>> ((4 : Int32) &&& 31).toUInt32).toInt32).toUInt32 >>> ((2 : Int32) &&& 31).toUInt32).toInt32)), .val (.int (((1 : Int32) + (4 : Int32)) + (2 : Int32)))] [(.int (((((((Int32.ofNat (2 ^ t - 1)).toUInt32 >>> ((4 : Int32) &&& 31).toUInt32).toInt32).toUInt32 >>> ((2 : Int32) &&& 31).toUInt32).toInt32).toUInt32 >>> ((1 : Int32) &&& 31).toUInt32).toInt32)), (.int (((1 : Int32) + (4 : Int32)) + (2 : Int32)))])
            refine X0.step (fun hA hx hq t_ k_ => XS.iadd hA hx rfl (hb hq d12_78) rfl k_) ?_
            show OFin _ _ _ _ _ _ _ _ T0 (mkF m 79 #[.val (.int (((((Int32.ofNat (2 ^ t - 1)).toUInt32 >>> ((4 : Int32) &&& 31).toUInt32).toInt32).toUInt32 >>> ((2 : Int32) &&& 31).toUInt32).toInt32)), .val (.int (((1 : Int32) + (4 : Int32)) + (2 : Int32)))] [(.int ((((1 : Int32) + (4 : Int32)) + (2 : Int32)) + (((((((Int32.ofNat (2 ^ t - 1)).toUInt32 >>> ((4 : Int32) &&& 31).toUInt32).toInt32).toUInt32 >>> ((2 : Int32) &&& 31).toUInt32).toInt32).toUInt32 >>> ((1 : Int32) &&& 31).toUInt32).toInt32)))])
            exact X0.retI d12_79 (by decide) (by decide) (⟨congrArg (fun z => some (Value.int z)) (own_leaf3 ⟨t, ht⟩ k0 k1 k2 k3 k4), rfl⟩)
          · refine X0.step (fun hA hx hq t_ k_ => XS.icmpYes hA hx rfl (pc0 := 64) (pc' := 74) rfl (hb hq d12_64) rfl (flt (k4)).2.2.2 (by decide) (by decide) k_) ?_
            show OFin _ _ _ _ _ _ _ _ T0 (mkF m 74 #[.val (.int (((Int32.ofNat (2 ^ t - 1)).toUInt32 >>> ((4 : Int32) &&& 31).toUInt32).toInt32)), .val (.int ((1 : Int32) + (4 : Int32)))] [])
            refine X0.step (fun hA hx hq t_ k_ => XS.iloadN hA hx rfl (hb hq d12_74) rfl k_) ?_
            show OFin _ _ _ _ _ _ _ _ T0 (mkF m 75 #[.val (.int (((Int32.ofNat (2 ^ t - 1)).toUInt32 >>> ((4 : Int32) &&& 31).toUInt32).toInt32)), .val (.int ((1 : Int32) + (4 : Int32)))] [(.int ((1 : Int32) + (4 : Int32)))])
            refine X0.step (fun hA hx hq t_ k_ => XS.iloadN hA hx rfl (hb hq d12_75) rfl k_) ?_
            show OFin _ _ _ _ _ _ _ _ T0 (mkF m 76 #[.val (.int (((Int32.ofNat (2 ^ t - 1)).toUInt32 >>> ((4 : Int32) &&& 31).toUInt32).toInt32)), .val (.int ((1 : Int32) + (4 : Int32)))] [(.int (((Int32.ofNat (2 ^ t - 1)).toUInt32 >>> ((4 : Int32) &&& 31).toUInt32).toInt32)), (.int ((1 : Int32) + (4 : Int32)))])
            refine X0.step (fun hA hx hq t_ k_ => XS.iconst hA hx rfl (hb hq d12_76) k_) ?_
            show OFin _ _ _ _ _ _ _ _ T0 (mkF m 77 #[.val (.int (((Int32.ofNat (2 ^ t - 1)).toUInt32 >>> ((4 : Int32) &&& 31).toUInt32).toInt32)), .val (.int ((1 : Int32) + (4 : Int32)))] [(.int (1 : Int32)), (.int (((Int32.ofNat (2 ^ t - 1)).toUInt32 >>> ((4 : Int32) &&& 31).toUInt32).toInt32)), (.int ((1 : Int32) + (4 : Int32)))])
            refine X0.step (fun hA hx hq t_ k_ => XS.iushr hA hx rfl (hb hq d12_77) rfl k_) ?_
            show OFin _ _ _ _ _ _ _ _ T0 (mkF m 78 #[.val (.int (((Int32.ofNat (2 ^ t - 1)).toUInt32 >>> ((4 : Int32) &&& 31).toUInt32).toInt32)), .val (.int ((1 : Int32) + (4 : Int32)))] [(.int (((((Int32.ofNat (2 ^ t - 1)).toUInt32 >>> ((4 : Int32) &&& 31).toUInt32).toInt32).toUInt32 >>> ((1 : Int32) &&& 31).toUInt32).toInt32)), (.int ((1 : Int32) + (4 : Int32)))])
            refine X0.step (fun hA hx hq t_ k_ => XS.iadd hA hx rfl (hb hq d12_78) rfl k_) ?_
            show OFin _ _ _ _ _ _ _ _ T0 (mkF m 79 #[.val (.int (((Int32.ofNat (2 ^ t - 1)).toUInt32 >>> ((4 : Int32) &&& 31).toUInt32).toInt32)), .val (.int ((1 : Int32) + (4 : Int32)))] [(.int (((1 : Int32) + (4 : Int32)) + (((((Int32.ofNat (2 ^ t - 1)).toUInt32 >>> ((4 : Int32) &&& 31).toUInt32).toInt32).toUInt32 >>> ((1 : Int32) &&& 31).toUInt32).toInt32)))])
            exact X0.retI d12_79 (by decide) (by decide) (⟨congrArg (fun z => some (Value.int z)) (own_leaf2 ⟨t, ht⟩ k0 k1 k2 k3 k4), rfl⟩)
        · refine X0.step (fun hA hx hq t_ k_ => XS.icmpYes hA hx rfl (pc0 := 52) (pc' := 62) rfl (hb hq d12_52) rfl (flt (k3)).2.2.2 (by decide) (by decide) k_) ?_
          show OFin _ _ _ _ _ _ _ _ T0 (mkF m 62 #[.val (.int (Int32.ofNat (2 ^ t - 1))), .val (.int (1 : Int32))] [])
          refine X0.step (fun hA hx hq t_ k_ => XS.iloadN hA hx rfl (hb hq d12_62) rfl k_) ?_
          show OFin _ _ _ _ _ _ _ _ T0 (mkF m 63 #[.val (.int (Int32.ofNat (2 ^ t - 1))), .val (.int (1 : Int32))] [(.int (Int32.ofNat (2 ^ t - 1)))])
          refine X0.step (fun hA hx hq t_ k_ => XS.iconst hA hx rfl (hb hq d12_63) k_) ?_
          show OFin _ _ _ _ _ _ _ _ T0 (mkF m 64 #[.val (.int (Int32.ofNat (2 ^ t - 1))), .val (.int (1 : Int32))] [(.int (4 : Int32)), (.int (Int32.ofNat (2 ^ t - 1)))])
          by_cases k4 : (4 : Int32) < (Int32.ofNat (2 ^ t - 1))
          · refine X0.step (fun hA hx hq t_ k_ => XS.icmpNo hA hx rfl (hb hq d12_64) rfl (tlt (k4)).2.2.2 k_) ?_
            show OFin _ _ _ _ _ _ _ _ T0 (mkF m 67 #[.val (.int (Int32.ofNat (2 ^ t - 1))), .val (.int (1 : Int32))] [])
            refine X0.step (fun hA hx hq t_ k_ => XS.iinc hA hx rfl (hb hq d12_67) rfl (l' := #[.val (.int (Int32.ofNat (2 ^ t - 1))), .val (.int ((1 : Int32) + (2 : Int32)))]) rfl k_) ?_
            show OFin _ _ _ _ _ _ _ _ T0 (mkF m 70 #[.val (.int (Int32.ofNat (2 ^ t - 1))), .val (.int ((1 : Int32) + (2 : Int32)))] [])
            refine X0.step (fun hA hx hq t_ k_ => XS.iloadN hA hx rfl (hb hq d12_70) rfl k_) ?_
            show OFin _ _ _ _ _ _ _ _ T0 (mkF m 71 #[.val (.int (Int32.ofNat (2 ^ t - 1))), .val (.int ((1 : Int32) + (2 : Int32)))] [(.int (Int32.ofNat (2 ^ t - 1)))])
            refine X0.step (fun hA hx hq t_ k_ => XS.iconst hA hx rfl (hb hq d12_71) k_) ?_
            show OFin _ _ _ _ _ _ _ _ T0 (mkF m 72 #[.val (.int (Int32.ofNat (2 ^ t - 1))), .val (.int ((1 : Int32) + (2 : Int32)))] [(.int (2 : Int32)), (.int (Int32.ofNat (2 ^ t - 1)))])
            refine X0.step (fun hA hx hq t_ k_ => XS.iushr hA hx rfl (hb hq d12_72) rfl k_) ?_
            show OFin _ _ _ _ _ _ _ _ T0 (mkF m 73 #[.val (.int (Int32.ofNat (2 ^ t - 1))), .val (.int ((1 : Int32) + (2 : Int32)))] [(.int (((Int32.ofNat (2 ^ t - 1)).toUInt32 >>> ((2 : Int32) &&& 31).toUInt32).toInt32))])
            refine X0.step (fun hA hx hq t_ k_ => XS.istoreN hA hx rfl (hb hq d12_73) rfl (l' := #[.val (.int (((Int32.ofNat (2 ^ t - 1)).toUInt32 >>> ((2 : Int32) &&& 31).toUInt32).toInt32)), .val (.int ((1 : Int32) + (2 : Int32)))]) rfl k_) ?_
            show OFin _ _ _ _ _ _ _ _ T0 (mkF m 74 #[.val (.int (((Int32.ofNat (2 ^ t - 1)).toUInt32 >>> ((2 : Int32) &&& 31).toUInt32).toInt32)), .val (.int ((1 : Int32) + (2 : Int32)))] [])
            refine X0.step (fun hA hx hq t_ k_ => XS.iloadN hA hx rfl (hb hq d12_74) rfl k_) ?_
            show OFin _ _ _ _ _ _ _ _ T0 (mkF m 75 #[.val (.int (((Int32.ofNat (2 ^ t - 1)).toUInt32 >>> ((2 : Int32) &&& 31).toUInt32).toInt32)), .val (.int ((1 : Int32) + (2 : Int32)))] [(.int ((1 : Int32) + (2 : Int32)))])
            refine X0.step (fun hA hx hq t_ k_ => XS.iloadN hA hx rfl (hb hq d12_75) rfl k_) ?_
            show OFin _ _ _ _ _ _ _ _ T0 (mkF m 76 #[.val (.int (((Int32.ofNat (2 ^ t - 1)).toUInt32 >>> ((2 : Int32) &&& 31).toUInt32).toInt32)), .val (.int ((1 : Int32) + (2 : Int32)))] [(.int (((Int32.ofNat (2 ^ t - 1)).toUInt32 >>> ((2 : Int32) &&& 31).toUInt32).toInt32)), (.int ((1 : Int32) + (2 : Int32)))])
            refine X0.step (fun hA hx hq t_ k_ => XS.iconst hA hx rfl (hb hq d12_76) k_) ?_
            show OFin _ _ _ _ _ _ _ _ T0 (mkF m 77 #[.val (.int (((Int32.ofNat (2 ^ t - 1)).toUInt32 >>> ((2 : Int32) &&& 31).toUInt32).toInt32)), .val (.int ((1 : Int32) + (2 : Int32)))] [(.int (1 : Int32)), (.int (((Int32.ofNat (2 ^ t - 1)).toUInt32 >>> ((2 : Int32) &&& 31).toUInt32).toInt32)), (.int ((1 : Int32) + (2 : Int32)))])
            refine X0.step (fun hA hx hq t_ k_ => XS.iushr hA hx rfl (hb hq d12_77) rfl k_) ?_
            show OFin _ _ _ _ _ _ _ _ T0 (mkF m 78 #[.val (.int (((Int32.ofNat (2 ^ t - 1)).toUInt32 >>> ((2 : Int32) &&& 31).toUInt32).toInt32)), .val (.int ((1 : Int32) + (2 : Int32)))] [(.int (((((Int32.ofNat (2 ^ t - 1)).toUInt32 >>> ((2 : Int32) &&& 31).toUInt32).toInt32).toUInt32 >>> ((1 : Int32) &&& 31).toUInt32).toInt32)), (.int ((1 : Int32) + (2 : Int32)))])
            refine X0.step (fun hA hx hq t_ k_ => XS.iadd hA hx rfl (hb hq d12_78) rfl k_) ?_
            show OFin _ _ _ _ _ _ _ _ T0 (mkF m 79 #[.val (.int (((Int32.ofNat (2 ^ t - 1)).toUInt32 >>> ((2 : Int32) &&& 31).toUInt32).toInt32)), .val (.int ((1 : Int32) + (2 : Int32)))] [(.int (((1 : Int32) + (2 : Int32)) + (((((Int32.ofNat (2 ^ t - 1)).toUInt32 >>> ((2 : Int32) &&& 31).toUInt32).toInt32).toUInt32 >>> ((1 : Int32) &&& 31).toUInt32).toInt32)))])
            exact X0.retI d12_79 (by decide) (by decide) (⟨congrArg (fun z => some (Value.int z)) (own_leaf1 ⟨t, ht⟩ k0 k1 k2 k3 k4), rfl⟩)
          · refine X0.step (fun hA hx hq t_ k_ => XS.icmpYes hA hx rfl (pc0 := 64) (pc' := 74) rfl (hb hq d12_64) rfl (flt (k4)).2.2.2 (by decide) (by decide) k_) ?_
            show OFin _ _ _ _ _ _ _ _ T0 (mkF m 74 #[.val (.int (Int32.ofNat (2 ^ t - 1))), .val (.int (1 : Int32))] [])
            refine X0.step (fun hA hx hq t_ k_ => XS.iloadN hA hx rfl (hb hq d12_74) rfl k_) ?_
            show OFin _ _ _ _ _ _ _ _ T0 (mkF m 75 #[.val (.int (Int32.ofNat (2 ^ t - 1))), .val (.int (1 : Int32))] [(.int (1 : Int32))])
            refine X0.step (fun hA hx hq t_ k_ => XS.iloadN hA hx rfl (hb hq d12_75) rfl k_) ?_
            show OFin _ _ _ _ _ _ _ _ T0 (mkF m 76 #[.val (.int (Int32.ofNat (2 ^ t - 1))), .val (.int (1 : Int32))] [(.int (Int32.ofNat (2 ^ t - 1))), (.int (1 : Int32))])
            refine X0.step (fun hA hx hq t_ k_ => XS.iconst hA hx rfl (hb hq d12_76) k_) ?_
            show OFin _ _ _ _ _ _ _ _ T0 (mkF m 77 #[.val (.int (Int32.ofNat (2 ^ t - 1))), .val (.int (1 : Int32))] [(.int (1 : Int32)), (.int (Int32.ofNat (2 ^ t - 1))), (.int (1 : Int32))])
            refine X0.step (fun hA hx hq t_ k_ => XS.iushr hA hx rfl (hb hq d12_77) rfl k_) ?_
            show OFin _ _ _ _ _ _ _ _ T0 (mkF m 78 #[.val (.int (Int32.ofNat (2 ^ t - 1))), .val (.int (1 : Int32))] [(.int (((Int32.ofNat (2 ^ t - 1)).toUInt32 >>> ((1 : Int32) &&& 31).toUInt32).toInt32)), (.int (1 : Int32))])
            refine X0.step (fun hA hx hq t_ k_ => XS.iadd hA hx rfl (hb hq d12_78) rfl k_) ?_
            show OFin _ _ _ _ _ _ _ _ T0 (mkF m 79 #[.val (.int (Int32.ofNat (2 ^ t - 1))), .val (.int (1 : Int32))] [(.int ((1 : Int32) + (((Int32.ofNat (2 ^ t - 1)).toUInt32 >>> ((1 : Int32) &&& 31).toUInt32).toInt32)))])
            exact X0.retI d12_79 (by decide) (by decide) (⟨congrArg (fun z => some (Value.int z)) (own_leaf0 ⟨t, ht⟩ k0 k1 k2 k3 k4), rfl⟩)
  · refine X0.step (fun hA hx hq t_ k_ => XS.ifNo hA hx rfl (hb hq d12_9) rfl ((if0 _ _).trans (flt (k0)).2.2.1) k_) ?_
    show OFin _ _ _ _ _ _ _ _ T0 (mkF m 12 #[.val (.int (Int32.ofNat (2 ^ t - 1))), .unset] [])
    refine X0.step (fun hA hx hq t_ k_ => XS.iloadN hA hx rfl (hb hq d12_12) rfl k_) ?_
    show OFin _ _ _ _ _ _ _ _ T0 (mkF m 13 #[.val (.int (Int32.ofNat (2 ^ t - 1))), .unset] [(.int (Int32.ofNat (2 ^ t - 1)))])
    refine X0.step (fun hA hx hq t_ k_ => XS.bipush hA hx rfl (hb hq d12_13) k_) ?_
    show OFin _ _ _ _ _ _ _ _ T0 (mkF m 15 #[.val (.int (Int32.ofNat (2 ^ t - 1))), .unset] [(.int (32 : Int32)), (.int (Int32.ofNat (2 ^ t - 1)))])
    refine X0.step (fun hA hx hq t_ k_ => XS.iand hA hx rfl (hb hq d12_15) rfl k_) ?_
    show OFin _ _ _ _ _ _ _ _ T0 (mkF m 16 #[.val (.int (Int32.ofNat (2 ^ t - 1))), .unset] [(.int ((Int32.ofNat (2 ^ t - 1)) &&& (32 : Int32)))])
    exact X0.retI d12_16 (by decide) (by decide) (⟨congrArg (fun z => some (Value.int z)) (own_leaf16 ⟨t, ht⟩ k0), rfl⟩)
theorem pn_java_lang_Long : plainName "java/lang/Long" = true := by first | (simp [plainName, overriddenIn]; done) | decide +kernel
theorem d11_0 : decode jdk_35_method_49_code 0 = .ok (.lload_n 0, 1) := by decide +kernel
theorem d11_1 : decode jdk_35_method_49_code 1 = .ok (.l2i, 1) := by decide +kernel
theorem d11_2 : decode jdk_35_method_49_code 2 = .ok (.istore_n 2, 1) := by decide +kernel
theorem d11_3 : decode jdk_35_method_49_code 3 = .ok (.iload_n 2, 1) := by decide +kernel
theorem d11_4 : decode jdk_35_method_49_code 4 = .ok (.ifCond .ne 17, 3) := by decide +kernel
theorem d11_21 : decode jdk_35_method_49_code 21 = .ok (.iload_n 2, 1) := by decide +kernel
theorem d11_22 : decode jdk_35_method_49_code 22 = .ok (.invokestatic 311, 3) := by decide +kernel
theorem d11_25 : decode jdk_35_method_49_code 25 = .ok (.ireturn, 1) := by decide +kernel
theorem d11_7 : decode jdk_35_method_49_code 7 = .ok (.bipush 32, 2) := by decide +kernel
theorem d11_9 : decode jdk_35_method_49_code 9 = .ok (.lload_n 0, 1) := by decide +kernel
theorem d11_10 : decode jdk_35_method_49_code 10 = .ok (.bipush 32, 2) := by decide +kernel
theorem d11_12 : decode jdk_35_method_49_code 12 = .ok (.lushr, 1) := by decide +kernel
theorem d11_13 : decode jdk_35_method_49_code 13 = .ok (.l2i, 1) := by decide +kernel
theorem d11_14 : decode jdk_35_method_49_code 14 = .ok (.invokestatic 311, 3) := by decide +kernel
theorem d11_17 : decode jdk_35_method_49_code 17 = .ok (.iadd, 1) := by decide +kernel
theorem d11_18 : decode jdk_35_method_49_code 18 = .ok (.goto 7, 3) := by decide +kernel
set_option maxRecDepth 65536 in
set_option maxHeartbeats 40000000 in
theorem rm8 (l : Launch) (Z : State) (a0 : Array Value) (hw : ∀ d ∈ tables_1, d.before a0 Z = true) (x : Int64) (h0 : Heap) (n0 : Nat) (hx : x ≠ 0) :
    OMeets l Z (⟨"java/lang/Long", "numberOfTrailingZeros", "(J)I"⟩ : MethodName) [] jdk_35_method_49_code 3 (some .int) ({ frames := 1, cells := 0, slots := 0, locals := 14 } : Room) #[(.long x)] h0 n0 (fun v h => h0 = h ∧ ∃ t, v = some (.int (Int32.ofNat t)) ∧ t < 64 ∧ bt x t = true ∧ ∀ b, b < t → bt x b = false) := by
  refine o_enter (Z := Z) (plainFor_of_name pn_java_lang_Long) ?_
  intro p e s m below meth c T0 X0
  refine OFin.cast (g' := (mkF m 0 #[.val (.long x), .second, .unset] [])) (by first | (simp [entryFrame, mkF, argsToLocals, Value.category]; done) | rfl) ?_
  have hpos : 0 < x.toBitVec.toNat := by
    apply Nat.pos_of_ne_zero
    intro q
    exact hx (Int64.toBitVec_inj.mp (BitVec.eq_of_toNat_eq q))
  obtain ⟨t, q, hq⟩ := own_ex _ hpos
  obtain ⟨ht, hc⟩ := own_split _ t q hq x.toBitVec.isLt
  obtain ⟨b1, b2⟩ := own_low _ t q hq
  refine X0.step (fun hA hx hq t_ k_ => XS.lloadN hA hx rfl (hb hq d11_0) rfl k_) ?_
  show OFin _ _ _ _ _ _ _ _ T0 (mkF m 1 #[.val (.long x), .second, .unset] [(.long x)])
  refine X0.step (fun hA hx hq t_ k_ => XS.l2i hA hx rfl (hb hq d11_1) rfl k_) ?_
  show OFin _ _ _ _ _ _ _ _ T0 (mkF m 2 #[.val (.long x), .second, .unset] [(.int (x.toInt32))])
  refine X0.step (fun hA hx hq t_ k_ => XS.istoreN hA hx rfl (hb hq d11_2) rfl (l' := #[.val (.long x), .second, .val (.int (x.toInt32))]) rfl k_) ?_
  show OFin _ _ _ _ _ _ _ _ T0 (mkF m 3 #[.val (.long x), .second, .val (.int (x.toInt32))] [])
  refine X0.step (fun hA hx hq t_ k_ => XS.iloadN hA hx rfl (hb hq d11_3) rfl k_) ?_
  show OFin _ _ _ _ _ _ _ _ T0 (mkF m 4 #[.val (.long x), .second, .val (.int (x.toInt32))] [(.int (x.toInt32))])
  rcases hc with ⟨c1, c2, q', c3⟩ | ⟨c1, c2, c3⟩
  · refine X0.step (fun hA hx hq t_ k_ => XS.ifYes hA hx rfl (pc0 := 4) (pc' := 21) rfl (hb hq d11_4) rfl ((if0 _ _).trans (feq (fun z => c2 (by rw [← own_lo, z]; rfl))).2) (by decide) (by decide) k_) ?_
    show OFin _ _ _ _ _ _ _ _ T0 (mkF m 21 #[.val (.long x), .second, .val (.int (x.toInt32))] [])
    refine X0.step (fun hA hx hq t_ k_ => XS.iloadN hA hx rfl (hb hq d11_21) rfl k_) ?_
    show OFin _ _ _ _ _ _ _ _ T0 (mkF m 22 #[.val (.long x), .second, .val (.int (x.toInt32))] [(.int (x.toInt32))])
    refine X0.callS (y' := (⟨"java/lang/Integer", "numberOfTrailingZeros", "(I)I"⟩ : MethodName)) (hw _ (List.mem_of_getElem? (i := 56) rfl)) (hw _ (List.mem_of_getElem? (i := 57) rfl)) (hw _ (List.mem_of_getElem? (i := 58) rfl)) (hw _ (List.mem_of_getElem? (i := 59) rfl)) (by decide) (argsL := [(.int (x.toInt32))]) (rest := []) (rm7 l Z a0 hw x.toInt32 t q' h0 n0 (by rw [own_lo]; exact c3) c1) (g := (mkF m 22 #[.val (.long x), .second, .val (.int (x.toInt32))] [(.int (x.toInt32))])) rfl rfl pd_pIr_I rfl rfl (W := 0) (by show 2 * 0 + _ ≤ _; exact Nat.le_of_eq rfl) d11_22 (by decide) (by decide) (by decide) (by decide) ?_
    intro v1 T1 h1 X1 q1
    obtain ⟨rfl, rfl⟩ := q1
    show OFin _ _ _ _ _ _ _ _ T1 (mkF m 25 #[.val (.long x), .second, .val (.int (x.toInt32))] [(.int (Int32.ofNat t))])
    exact X1.retI d11_25 (by decide) (by decide) (⟨rfl, t, rfl, ht, b1, b2⟩)
  · refine X0.step (fun hA hx hq t_ k_ => XS.ifNo hA hx rfl (hb hq d11_4) rfl ((if0 _ _).trans (teq (Int32.toBitVec_inj.mp (BitVec.eq_of_toNat_eq (by rw [own_lo]; exact c2)))).2) k_) ?_
    show OFin _ _ _ _ _ _ _ _ T0 (mkF m 7 #[.val (.long x), .second, .val (.int (x.toInt32))] [])
    refine X0.step (fun hA hx hq t_ k_ => XS.bipush hA hx rfl (hb hq d11_7) k_) ?_
    show OFin _ _ _ _ _ _ _ _ T0 (mkF m 9 #[.val (.long x), .second, .val (.int (x.toInt32))] [(.int (32 : Int32))])
    refine X0.step (fun hA hx hq t_ k_ => XS.lloadN hA hx rfl (hb hq d11_9) rfl k_) ?_
    show OFin _ _ _ _ _ _ _ _ T0 (mkF m 10 #[.val (.long x), .second, .val (.int (x.toInt32))] [(.long x), (.int (32 : Int32))])
    refine X0.step (fun hA hx hq t_ k_ => XS.bipush hA hx rfl (hb hq d11_10) k_) ?_
    show OFin _ _ _ _ _ _ _ _ T0 (mkF m 12 #[.val (.long x), .second, .val (.int (x.toInt32))] [(.int (32 : Int32)), (.long x), (.int (32 : Int32))])
    refine X0.step (fun hA hx hq t_ k_ => XS.lushr hA hx rfl (hb hq d11_12) rfl k_) ?_
    show OFin _ _ _ _ _ _ _ _ T0 (mkF m 13 #[.val (.long x), .second, .val (.int (x.toInt32))] [(.long ((x.toUInt64 >>> ((32 : Int32) &&& 0x3f).toInt64.toUInt64).toInt64)), (.int (32 : Int32))])
    refine X0.step (fun hA hx hq t_ k_ => XS.l2i hA hx rfl (hb hq d11_13) rfl k_) ?_
    show OFin _ _ _ _ _ _ _ _ T0 (mkF m 14 #[.val (.long x), .second, .val (.int (x.toInt32))] [(.int (((x.toUInt64 >>> ((32 : Int32) &&& 0x3f).toInt64.toUInt64).toInt64).toInt32)), (.int (32 : Int32))])
    refine X0.callS (y' := (⟨"java/lang/Integer", "numberOfTrailingZeros", "(I)I"⟩ : MethodName)) (hw _ (List.mem_of_getElem? (i := 56) rfl)) (hw _ (List.mem_of_getElem? (i := 57) rfl)) (hw _ (List.mem_of_getElem? (i := 58) rfl)) (hw _ (List.mem_of_getElem? (i := 59) rfl)) (by decide) (argsL := [(.int (((x.toUInt64 >>> ((32 : Int32) &&& 0x3f).toInt64.toUInt64).toInt64).toInt32))]) (rest := [(.int (32 : Int32))]) (rm7 l Z a0 hw (((x.toUInt64 >>> ((32 : Int32) &&& 0x3f).toInt64.toUInt64).toInt64).toInt32) (t - 32) q h0 n0 (by rw [own_hi]; exact c3) (by omega)) (g := (mkF m 14 #[.val (.long x), .second, .val (.int (x.toInt32))] [(.int (((x.toUInt64 >>> ((32 : Int32) &&& 0x3f).toInt64.toUInt64).toInt64).toInt32)), (.int (32 : Int32))])) rfl rfl pd_pIr_I rfl rfl (W := 1) (by show 2 * 0 + _ ≤ _; exact Nat.le_of_eq rfl) d11_14 (by decide) (by decide) (by decide) (by decide) ?_
    intro v2 T2 h2 X2 q2
    obtain ⟨rfl, rfl⟩ := q2
    show OFin _ _ _ _ _ _ _ _ T2 (mkF m 17 #[.val (.long x), .second, .val (.int (x.toInt32))] [(.int (Int32.ofNat (t - 32))), (.int (32 : Int32))])
    refine X2.step (fun hA hx hq t_ k_ => XS.iadd hA hx rfl (hb hq d11_17) rfl k_) ?_
    show OFin _ _ _ _ _ _ _ _ T2 (mkF m 18 #[.val (.long x), .second, .val (.int (x.toInt32))] [(.int ((32 : Int32) + (Int32.ofNat (t - 32))))])
    have e32 : (32 : Int32) + (Int32.ofNat (t - 32)) = (Int32.ofNat t) := by
      have q := own_add32 32 (t - 32) (by omega)
      rw [show 32 + (t - 32) = t by omega] at q
      exact q
    rw [e32]
    show OFin _ _ _ _ _ _ _ _ T2 (mkF m 18 #[.val (.long x), .second, .val (.int (x.toInt32))] [(.int (Int32.ofNat t))])
    refine X2.step (fun hA hx hq t_ k_ => XS.goto hA hx rfl (pc0 := 18) (pc' := 25) rfl (hb hq d11_18) (by decide) (by decide) k_) ?_
    show OFin _ _ _ _ _ _ _ _ T2 (mkF m 25 #[.val (.long x), .second, .val (.int (x.toInt32))] [(.int (Int32.ofNat t))])
    exact X2.retI d11_25 (by decide) (by decide) (⟨rfl, t, rfl, ht, b1, b2⟩)
theorem d9_102 : decode prog_43_method_5_code 102 = .ok (.iload_n 3, 1) := by decide +kernel
theorem d9_103 : decode prog_43_method_5_code 103 = .ok (.ifCond .lt 26, 3) := by decide +kernel
theorem d9_129 : decode prog_43_method_5_code 129 = .ok (.iload_n 2, 1) := by decide +kernel
theorem d9_130 : decode prog_43_method_5_code 130 = .ok (.ireturn, 1) := by decide +kernel
theorem d9_106 : decode prog_43_method_5_code 106 = .ok (.iload_n 2, 1) := by decide +kernel
theorem d9_107 : decode prog_43_method_5_code 107 = .ok (.bipush 6, 2) := by decide +kernel
theorem d9_109 : decode prog_43_method_5_code 109 = .ok (.ishl, 1) := by decide +kernel
theorem d9_110 : decode prog_43_method_5_code 110 = .ok (.aload_n 0, 1) := by decide +kernel
theorem d9_111 : decode prog_43_method_5_code 111 = .ok (.getfield 15, 3) := by decide +kernel
theorem d9_114 : decode prog_43_method_5_code 114 = .ok (.iload_n 3, 1) := by decide +kernel
theorem d9_115 : decode prog_43_method_5_code 115 = .ok (.aaload, 1) := by decide +kernel
theorem d9_116 : decode prog_43_method_5_code 116 = .ok (.iload_n 2, 1) := by decide +kernel
theorem d9_117 : decode prog_43_method_5_code 117 = .ok (.laload, 1) := by decide +kernel
theorem pd_pJr_I : parseMethodDescriptor "(J)I" = some ⟨[.long], some .int⟩ := by decide +kernel
theorem d9_118 : decode prog_43_method_5_code 118 = .ok (.invokestatic 21, 3) := by decide +kernel
theorem d9_121 : decode prog_43_method_5_code 121 = .ok (.iadd, 1) := by decide +kernel
theorem d9_122 : decode prog_43_method_5_code 122 = .ok (.istore_n 2, 1) := by decide +kernel
theorem d9_123 : decode prog_43_method_5_code 123 = .ok (.iinc 3 (-1), 3) := by decide +kernel
theorem d9_126 : decode prog_43_method_5_code 126 = .ok (.goto (-24), 3) := by decide +kernel
theorem d9_7 : decode prog_43_method_5_code 7 = .ok (.lload 4, 2) := by decide +kernel
theorem d9_9 : decode prog_43_method_5_code 9 = .ok (.lconst 0, 1) := by decide +kernel
theorem d9_10 : decode prog_43_method_5_code 10 = .ok (.lcmp, 1) := by decide +kernel
theorem d9_11 : decode prog_43_method_5_code 11 = .ok (.ifCond .ne 68, 3) := by decide +kernel
theorem d9_14 : decode prog_43_method_5_code 14 = .ok (.iload_n 3, 1) := by decide +kernel
theorem d9_15 : decode prog_43_method_5_code 15 = .ok (.aload_n 0, 1) := by decide +kernel
theorem d9_16 : decode prog_43_method_5_code 16 = .ok (.getfield 15, 3) := by decide +kernel
theorem d9_19 : decode prog_43_method_5_code 19 = .ok (.arraylength, 1) := by decide +kernel
theorem d9_20 : decode prog_43_method_5_code 20 = .ok (.if_icmp .ge 59, 3) := by decide +kernel
theorem d9_79 : decode prog_43_method_5_code 79 = .ok (.lload 4, 2) := by decide +kernel
theorem d9_81 : decode prog_43_method_5_code 81 = .ok (.lconst 0, 1) := by decide +kernel
theorem d9_82 : decode prog_43_method_5_code 82 = .ok (.lcmp, 1) := by decide +kernel
theorem d9_83 : decode prog_43_method_5_code 83 = .ok (.ifCond .ne 5, 3) := by decide +kernel
theorem d9_86 : decode prog_43_method_5_code 86 = .ok (.iconst (-1), 1) := by decide +kernel
theorem d9_87 : decode prog_43_method_5_code 87 = .ok (.ireturn, 1) := by decide +kernel
theorem d9_23 : decode prog_43_method_5_code 23 = .ok (.iload_n 2, 1) := by decide +kernel
theorem d9_24 : decode prog_43_method_5_code 24 = .ok (.bipush 6, 2) := by decide +kernel
theorem d9_26 : decode prog_43_method_5_code 26 = .ok (.iushr, 1) := by decide +kernel
theorem d9_27 : decode prog_43_method_5_code 27 = .ok (.aload_n 0, 1) := by decide +kernel
theorem d9_28 : decode prog_43_method_5_code 28 = .ok (.getfield 15, 3) := by decide +kernel
theorem d9_31 : decode prog_43_method_5_code 31 = .ok (.iload_n 3, 1) := by decide +kernel
theorem d9_32 : decode prog_43_method_5_code 32 = .ok (.aaload, 1) := by decide +kernel
theorem d9_33 : decode prog_43_method_5_code 33 = .ok (.arraylength, 1) := by decide +kernel
theorem d9_34 : decode prog_43_method_5_code 34 = .ok (.if_icmp .ge 45, 3) := by decide +kernel
theorem d9_37 : decode prog_43_method_5_code 37 = .ok (.aload_n 0, 1) := by decide +kernel
theorem d9_38 : decode prog_43_method_5_code 38 = .ok (.getfield 15, 3) := by decide +kernel
theorem d9_41 : decode prog_43_method_5_code 41 = .ok (.iload_n 3, 1) := by decide +kernel
theorem d9_42 : decode prog_43_method_5_code 42 = .ok (.aaload, 1) := by decide +kernel
theorem d9_43 : decode prog_43_method_5_code 43 = .ok (.iload_n 2, 1) := by decide +kernel
theorem d9_44 : decode prog_43_method_5_code 44 = .ok (.bipush 6, 2) := by decide +kernel
theorem d9_46 : decode prog_43_method_5_code 46 = .ok (.iushr, 1) := by decide +kernel
theorem d9_47 : decode prog_43_method_5_code 47 = .ok (.laload, 1) := by decide +kernel
theorem d9_48 : decode prog_43_method_5_code 48 = .ok (.ldc2_w 19, 3) := by decide +kernel
theorem d9_51 : decode prog_43_method_5_code 51 = .ok (.iload_n 2, 1) := by decide +kernel
theorem d9_52 : decode prog_43_method_5_code 52 = .ok (.bipush 63, 2) := by decide +kernel
theorem d9_54 : decode prog_43_method_5_code 54 = .ok (.iand, 1) := by decide +kernel
theorem d9_55 : decode prog_43_method_5_code 55 = .ok (.lshl, 1) := by decide +kernel
theorem d9_56 : decode prog_43_method_5_code 56 = .ok (.land, 1) := by decide +kernel
theorem d9_57 : decode prog_43_method_5_code 57 = .ok (.lstore 4, 2) := by decide +kernel
theorem d9_59 : decode prog_43_method_5_code 59 = .ok (.lload 4, 2) := by decide +kernel
theorem d9_61 : decode prog_43_method_5_code 61 = .ok (.lconst 0, 1) := by decide +kernel
theorem d9_62 : decode prog_43_method_5_code 62 = .ok (.lcmp, 1) := by decide +kernel
theorem d9_63 : decode prog_43_method_5_code 63 = .ok (.ifCond .ne (-56), 3) := by decide +kernel
theorem d9_66 : decode prog_43_method_5_code 66 = .ok (.iload_n 2, 1) := by decide +kernel
theorem d9_67 : decode prog_43_method_5_code 67 = .ok (.bipush 6, 2) := by decide +kernel
theorem d9_69 : decode prog_43_method_5_code 69 = .ok (.iushr, 1) := by decide +kernel
theorem d9_70 : decode prog_43_method_5_code 70 = .ok (.iconst 1, 1) := by decide +kernel
theorem d9_71 : decode prog_43_method_5_code 71 = .ok (.iadd, 1) := by decide +kernel
theorem d9_72 : decode prog_43_method_5_code 72 = .ok (.istore_n 2, 1) := by decide +kernel
theorem d9_73 : decode prog_43_method_5_code 73 = .ok (.iinc 3 1, 3) := by decide +kernel
theorem d9_76 : decode prog_43_method_5_code 76 = .ok (.goto (-69), 3) := by decide +kernel
theorem d9_88 : decode prog_43_method_5_code 88 = .ok (.iload_n 2, 1) := by decide +kernel
theorem d9_89 : decode prog_43_method_5_code 89 = .ok (.bipush (-64), 2) := by decide +kernel
theorem d9_91 : decode prog_43_method_5_code 91 = .ok (.iand, 1) := by decide +kernel
theorem d9_92 : decode prog_43_method_5_code 92 = .ok (.lload 4, 2) := by decide +kernel
theorem d9_94 : decode prog_43_method_5_code 94 = .ok (.invokestatic 21, 3) := by decide +kernel
theorem d9_97 : decode prog_43_method_5_code 97 = .ok (.iadd, 1) := by decide +kernel
theorem d9_98 : decode prog_43_method_5_code 98 = .ok (.istore_n 2, 1) := by decide +kernel
theorem d9_99 : decode prog_43_method_5_code 99 = .ok (.iinc 3 (-1), 3) := by decide +kernel
theorem d9_0 : decode prog_43_method_5_code 0 = .ok (.iload_n 1, 1) := by decide +kernel
theorem d9_1 : decode prog_43_method_5_code 1 = .ok (.istore_n 2, 1) := by decide +kernel
theorem d9_2 : decode prog_43_method_5_code 2 = .ok (.iconst 0, 1) := by decide +kernel
theorem d9_3 : decode prog_43_method_5_code 3 = .ok (.istore_n 3, 1) := by decide +kernel
theorem d9_4 : decode prog_43_method_5_code 4 = .ok (.lconst 0, 1) := by decide +kernel
theorem d9_5 : decode prog_43_method_5_code 5 = .ok (.lstore 4, 2) := by decide +kernel
set_option maxRecDepth 65536 in
set_option maxHeartbeats 40000000 in
theorem rm9 (l : Launch) (Z : State) (a0 : Array Value) (hw : ∀ d ∈ tables_1, d.before a0 Z = true) (a1 lv : Addr) (L : Nat) (ad : Nat → Addr) (N : Nat → Nat) (S : Nat → Prop) (n f : Nat) (h0 : Heap) (n0 : Nat) (D : OS Z h0 n0 a1 lv L ad N S) (hN : ONum n L N) (hS : ∀ s, S s → s < n) (hn : n ≤ 524288) (hf : f ≤ n) :
    OMeets l Z (⟨"com/example/interleave/interleave/NodeSet", "next", "(I)I"⟩ : MethodName) [] prog_43_method_5_code 6 (some .int) ({ frames := 2, cells := 0, slots := 0, locals := 29 } : Room) #[(.ref a1), (.int (Int32.ofNat f))] h0 n0 (fun v h => h0 = h ∧ ∃ g, v = some (.int g) ∧ OMin S f g) := by
  refine o_enter (Z := Z) (plainFor_of_name pn_com_example_interleave_interleave_NodeSet) ?_
  intro p e s m below meth c T0 X0
  refine OFin.cast (g' := (mkF m 0 #[.val (.ref a1), .val (.int (Int32.ofNat f)), .unset, .unset, .unset, .unset] [])) (by first | (simp [entryFrame, mkF, argsToLocals, Value.category]; done) | rfl) ?_
  obtain ⟨W, ⟨E1, F1, ⟨V1, Va⟩, -⟩, O1⟩ := D
  obtain ⟨hL0, hL6, hL1, hNb, hNx⟩ := id hN
  obtain ⟨c1, A1, S1, H1⟩ := id V1
  have down : ∀ (i k : Nat) (fd : Int64) (T : State), i < L → DnI S f i k → OAt n0 Z (⟨"com/example/interleave/interleave/NodeSet", "next", "(I)I"⟩ : MethodName) prog_43_method_5_code 6 (some .int) p l e ({ frames := 2, cells := 0, slots := 0, locals := 29 } : Room) s m #[(.ref a1), (.int (Int32.ofNat f))] below meth c T h0 0 0 → OFin n0 p e s below (fun v h => h0 = h ∧ ∃ g, v = some (.int g) ∧ OMin S f g) ({ frames := 2, cells := 0, slots := 0, locals := 29 } : Room).cells ({ frames := 2, cells := 0, slots := 0, locals := 29 } : Room).slots T (mkF m 102 #[.val (.ref a1), .val (.int (Int32.ofNat f)), .val (.int (Int32.ofNat k)), .val (.int ((Int32.ofNat i) + (-1 : Int32))), .val (.long fd), .second] []) := by
    intro i
    induction i with
    | zero =>
      intro k fd T hi Dn X
      obtain ⟨r1, r2, r3⟩ := own_dn0 Dn
      refine X.step (fun hA hx hq t_ k_ => XS.iloadN hA hx rfl (hb hq d9_102) rfl k_) ?_
      show OFin _ _ _ _ _ _ _ _ T (mkF m 103 #[.val (.ref a1), .val (.int (Int32.ofNat f)), .val (.int (Int32.ofNat k)), .val (.int ((Int32.ofNat 0) + (-1 : Int32))), .val (.long fd), .second] [(.int ((Int32.ofNat 0) + (-1 : Int32)))])
      refine X.step (fun hA hx hq t_ k_ => XS.ifYes hA hx rfl (pc0 := 103) (pc' := 129) rfl (hb hq d9_103) rfl ((if0 _ _).trans (tlt ((by decide))).1) (by decide) (by decide) k_) ?_
      show OFin _ _ _ _ _ _ _ _ T (mkF m 129 #[.val (.ref a1), .val (.int (Int32.ofNat f)), .val (.int (Int32.ofNat k)), .val (.int ((Int32.ofNat 0) + (-1 : Int32))), .val (.long fd), .second] [])
      refine X.step (fun hA hx hq t_ k_ => XS.iloadN hA hx rfl (hb hq d9_129) rfl k_) ?_
      show OFin _ _ _ _ _ _ _ _ T (mkF m 130 #[.val (.ref a1), .val (.int (Int32.ofNat f)), .val (.int (Int32.ofNat k)), .val (.int ((Int32.ofNat 0) + (-1 : Int32))), .val (.long fd), .second] [(.int (Int32.ofNat k))])
      exact X.retI d9_130 (by decide) (by decide) (⟨rfl, _, rfl, Or.inr ⟨k, rfl, by have := hS k r1; omega, r1, r2, r3⟩⟩)
    | succ i ih =>
      intro k fd T hi Dn X
      obtain ⟨c2, A2, S2, H2⟩ := id (Va i (by omega))
      have hNi := hNb i (by omega)
      obtain ⟨⟨s0, hs0, es0⟩, -⟩ := id Dn
      have hk : k < N i := by rw [← es0]; exact hNx i (by omega) s0 (hS s0 hs0)
      have hW := own_downNz Dn (O1 i (by omega)) hk
      rw [own_pred i (by omega)]
      show OFin _ _ _ _ _ _ _ _ T (mkF m 102 #[.val (.ref a1), .val (.int (Int32.ofNat f)), .val (.int (Int32.ofNat k)), .val (.int (Int32.ofNat i)), .val (.long fd), .second] [])
      refine X.step (fun hA hx hq t_ k_ => XS.iloadN hA hx rfl (hb hq d9_102) rfl k_) ?_
      show OFin _ _ _ _ _ _ _ _ T (mkF m 103 #[.val (.ref a1), .val (.int (Int32.ofNat f)), .val (.int (Int32.ofNat k)), .val (.int (Int32.ofNat i)), .val (.long fd), .second] [(.int (Int32.ofNat i))])
      refine X.step (fun hA hx hq t_ k_ => XS.ifNo hA hx rfl (hb hq d9_103) rfl ((if0 _ _).trans (flt ((by rw [Int32.lt_iff_toInt_lt, own_i i (by omega)]; have : (0 : Int32).toInt = 0 := (by decide); omega))).1) k_) ?_
      show OFin _ _ _ _ _ _ _ _ T (mkF m 106 #[.val (.ref a1), .val (.int (Int32.ofNat f)), .val (.int (Int32.ofNat k)), .val (.int (Int32.ofNat i)), .val (.long fd), .second] [])
      refine X.step (fun hA hx hq t_ k_ => XS.iloadN hA hx rfl (hb hq d9_106) rfl k_) ?_
      show OFin _ _ _ _ _ _ _ _ T (mkF m 107 #[.val (.ref a1), .val (.int (Int32.ofNat f)), .val (.int (Int32.ofNat k)), .val (.int (Int32.ofNat i)), .val (.long fd), .second] [(.int (Int32.ofNat k))])
      refine X.step (fun hA hx hq t_ k_ => XS.bipush hA hx rfl (hb hq d9_107) k_) ?_
      show OFin _ _ _ _ _ _ _ _ T (mkF m 109 #[.val (.ref a1), .val (.int (Int32.ofNat f)), .val (.int (Int32.ofNat k)), .val (.int (Int32.ofNat i)), .val (.long fd), .second] [(.int (6 : Int32)), (.int (Int32.ofNat k))])
      refine X.step (fun hA hx hq t_ k_ => XS.ishl hA hx rfl (hb hq d9_109) rfl k_) ?_
      show OFin _ _ _ _ _ _ _ _ T (mkF m 110 #[.val (.ref a1), .val (.int (Int32.ofNat f)), .val (.int (Int32.ofNat k)), .val (.int (Int32.ofNat i)), .val (.long fd), .second] [(.int ((Int32.ofNat k) <<< ((6 : Int32) &&& 31)))])
      rw [own_shl6 k (by omega)]
      show OFin _ _ _ _ _ _ _ _ T (mkF m 110 #[.val (.ref a1), .val (.int (Int32.ofNat f)), .val (.int (Int32.ofNat k)), .val (.int (Int32.ofNat i)), .val (.long fd), .second] [(.int (Int32.ofNat (64 * k)))])
      refine X.step (fun hA hx hq t_ k_ => XS.aloadN hA hx rfl (hb hq d9_110) rfl rfl k_) ?_
      show OFin _ _ _ _ _ _ _ _ T (mkF m 111 #[.val (.ref a1), .val (.int (Int32.ofNat f)), .val (.int (Int32.ofNat k)), .val (.int (Int32.ofNat i)), .val (.long fd), .second] [(.ref a1), (.int (Int32.ofNat (64 * k)))])
      refine X.getF (hw _ (List.mem_of_getElem? (i := 20) rfl)) F1 (g := (mkF m 111 #[.val (.ref a1), .val (.int (Int32.ofNat f)), .val (.int (Int32.ofNat k)), .val (.int (Int32.ofNat i)), .val (.long fd), .second] [(.ref a1), (.int (Int32.ofNat (64 * k)))])) rfl rfl d9_111 ?_
      intro T1 X1
      show OFin _ _ _ _ _ _ _ _ T1 (mkF m 114 #[.val (.ref a1), .val (.int (Int32.ofNat f)), .val (.int (Int32.ofNat k)), .val (.int (Int32.ofNat i)), .val (.long fd), .second] [(.ref lv), (.int (Int32.ofNat (64 * k)))])
      refine X1.step (fun hA hx hq t_ k_ => XS.iloadN hA hx rfl (hb hq d9_114) rfl k_) ?_
      show OFin _ _ _ _ _ _ _ _ T1 (mkF m 115 #[.val (.ref a1), .val (.int (Int32.ofNat f)), .val (.int (Int32.ofNat k)), .val (.int (Int32.ofNat i)), .val (.long fd), .second] [(.int (Int32.ofNat i)), (.ref lv), (.int (Int32.ofNat (64 * k)))])
      refine X1.aload0 A1 (v := (.ref (ad i))) (o_in S1 (by rw [own_i _ (by omega)]; omega) (by rw [own_i _ (by omega)]; omega)) (by rw [own_iN _ (by omega)]; exact H1 i (by omega)) (g := (mkF m 115 #[.val (.ref a1), .val (.int (Int32.ofNat f)), .val (.int (Int32.ofNat k)), .val (.int (Int32.ofNat i)), .val (.long fd), .second] [(.int (Int32.ofNat i)), (.ref lv), (.int (Int32.ofNat (64 * k)))])) rfl rfl (Or.inr (Or.inr (Or.inr (Or.inr (⟨rfl, rfl⟩))))) d9_115 ?_
      show OFin _ _ _ _ _ _ _ _ T1 (mkF m 116 #[.val (.ref a1), .val (.int (Int32.ofNat f)), .val (.int (Int32.ofNat k)), .val (.int (Int32.ofNat i)), .val (.long fd), .second] [(.ref (ad i)), (.int (Int32.ofNat (64 * k)))])
      refine X1.step (fun hA hx hq t_ k_ => XS.iloadN hA hx rfl (hb hq d9_116) rfl k_) ?_
      show OFin _ _ _ _ _ _ _ _ T1 (mkF m 117 #[.val (.ref a1), .val (.int (Int32.ofNat f)), .val (.int (Int32.ofNat k)), .val (.int (Int32.ofNat i)), .val (.long fd), .second] [(.int (Int32.ofNat k)), (.ref (ad i)), (.int (Int32.ofNat (64 * k)))])
      refine X1.aload0 A2 (v := (.long (W i k))) (o_in S2 (by rw [own_i _ (by omega)]; omega) (by rw [own_i _ (by omega)]; omega)) (by rw [own_iN _ (by omega)]; exact H2 k hk) (g := (mkF m 117 #[.val (.ref a1), .val (.int (Int32.ofNat f)), .val (.int (Int32.ofNat k)), .val (.int (Int32.ofNat i)), .val (.long fd), .second] [(.int (Int32.ofNat k)), (.ref (ad i)), (.int (Int32.ofNat (64 * k)))])) rfl rfl (Or.inr (Or.inl ⟨rfl, rfl⟩)) d9_117 ?_
      show OFin _ _ _ _ _ _ _ _ T1 (mkF m 118 #[.val (.ref a1), .val (.int (Int32.ofNat f)), .val (.int (Int32.ofNat k)), .val (.int (Int32.ofNat i)), .val (.long fd), .second] [(.long (W i k)), (.int (Int32.ofNat (64 * k)))])
      refine X1.callS (y' := (⟨"java/lang/Long", "numberOfTrailingZeros", "(J)I"⟩ : MethodName)) (hw _ (List.mem_of_getElem? (i := 52) rfl)) (hw _ (List.mem_of_getElem? (i := 53) rfl)) (hw _ (List.mem_of_getElem? (i := 54) rfl)) (hw _ (List.mem_of_getElem? (i := 55) rfl)) (by decide) (argsL := [(.long (W i k))]) (rest := [(.int (Int32.ofNat (64 * k)))]) (rm8 l Z a0 hw (W i k) h0 n0 hW) (g := (mkF m 118 #[.val (.ref a1), .val (.int (Int32.ofNat f)), .val (.int (Int32.ofNat k)), .val (.int (Int32.ofNat i)), .val (.long fd), .second] [(.long (W i k)), (.int (Int32.ofNat (64 * k)))])) rfl rfl pd_pJr_I rfl rfl (W := 1) (by show 2 * 0 + _ ≤ _; exact Nat.le_of_eq rfl) d9_118 (by decide) (by decide) (by decide) (by decide) ?_
      intro v2 T2 h2 X2 q2
      obtain ⟨rfl, t, rfl, ht, t1, t2⟩ := q2
      show OFin _ _ _ _ _ _ _ _ T2 (mkF m 121 #[.val (.ref a1), .val (.int (Int32.ofNat f)), .val (.int (Int32.ofNat k)), .val (.int (Int32.ofNat i)), .val (.long fd), .second] [(.int (Int32.ofNat t)), (.int (Int32.ofNat (64 * k)))])
      have Dn2 := own_down Dn (O1 i (by omega)) hk ht t1 t2
      obtain ⟨⟨s1, hs1, es1⟩, -⟩ := id Dn2
      have b1 := own_lt64 s1 i (by have := hS s1 hs1; omega)
      refine X2.step (fun hA hx hq t_ k_ => XS.iadd hA hx rfl (hb hq d9_121) rfl k_) ?_
      show OFin _ _ _ _ _ _ _ _ T2 (mkF m 122 #[.val (.ref a1), .val (.int (Int32.ofNat f)), .val (.int (Int32.ofNat k)), .val (.int (Int32.ofNat i)), .val (.long fd), .second] [(.int ((Int32.ofNat (64 * k)) + (Int32.ofNat t)))])
      rw [own_add32 (64 * k) t (by omega)]
      show OFin _ _ _ _ _ _ _ _ T2 (mkF m 122 #[.val (.ref a1), .val (.int (Int32.ofNat f)), .val (.int (Int32.ofNat k)), .val (.int (Int32.ofNat i)), .val (.long fd), .second] [(.int (Int32.ofNat (64 * k + t)))])
      refine X2.step (fun hA hx hq t_ k_ => XS.istoreN hA hx rfl (hb hq d9_122) rfl (l' := #[.val (.ref a1), .val (.int (Int32.ofNat f)), .val (.int (Int32.ofNat (64 * k + t))), .val (.int (Int32.ofNat i)), .val (.long fd), .second]) rfl k_) ?_
      show OFin _ _ _ _ _ _ _ _ T2 (mkF m 123 #[.val (.ref a1), .val (.int (Int32.ofNat f)), .val (.int (Int32.ofNat (64 * k + t))), .val (.int (Int32.ofNat i)), .val (.long fd), .second] [])
      refine X2.step (fun hA hx hq t_ k_ => XS.iinc hA hx rfl (hb hq d9_123) rfl (l' := #[.val (.ref a1), .val (.int (Int32.ofNat f)), .val (.int (Int32.ofNat (64 * k + t))), .val (.int ((Int32.ofNat i) + (-1 : Int32))), .val (.long fd), .second]) rfl k_) ?_
      show OFin _ _ _ _ _ _ _ _ T2 (mkF m 126 #[.val (.ref a1), .val (.int (Int32.ofNat f)), .val (.int (Int32.ofNat (64 * k + t))), .val (.int ((Int32.ofNat i) + (-1 : Int32))), .val (.long fd), .second] [])
      refine X2.step (fun hA hx hq t_ k_ => XS.goto hA hx rfl (pc0 := 126) (pc' := 102) rfl (hb hq d9_126) (by decide) (by decide) k_) ?_
      show OFin _ _ _ _ _ _ _ _ T2 (mkF m 102 #[.val (.ref a1), .val (.int (Int32.ofNat f)), .val (.int (Int32.ofNat (64 * k + t))), .val (.int ((Int32.ofNat i) + (-1 : Int32))), .val (.long fd), .second] [])
      exact ih (64 * k + t) fd T2 (by omega) Dn2 X2
  have up : ∀ (j i k : Nat) (T : State), i + j = L → UpI S f i k → (0 < i → 0 < k) → k ≤ 524288 → OAt n0 Z (⟨"com/example/interleave/interleave/NodeSet", "next", "(I)I"⟩ : MethodName) prog_43_method_5_code 6 (some .int) p l e ({ frames := 2, cells := 0, slots := 0, locals := 29 } : Room) s m #[(.ref a1), (.int (Int32.ofNat f))] below meth c T h0 0 0 → OFin n0 p e s below (fun v h => h0 = h ∧ ∃ g, v = some (.int g) ∧ OMin S f g) ({ frames := 2, cells := 0, slots := 0, locals := 29 } : Room).cells ({ frames := 2, cells := 0, slots := 0, locals := 29 } : Room).slots T (mkF m 7 #[.val (.ref a1), .val (.int (Int32.ofNat f)), .val (.int (Int32.ofNat k)), .val (.int (Int32.ofNat i)), .val (.long (0 : Int64)), .second] []) := by
    intro j
    induction j with
    | zero =>
      intro i k T hij U hik hk X
      have hiL : i = L := by omega
      refine X.step (fun hA hx hq t_ k_ => XS.lload hA hx rfl (hb hq d9_7) rfl k_) ?_
      show OFin _ _ _ _ _ _ _ _ T (mkF m 9 #[.val (.ref a1), .val (.int (Int32.ofNat f)), .val (.int (Int32.ofNat k)), .val (.int (Int32.ofNat i)), .val (.long (0 : Int64)), .second] [(.long (0 : Int64))])
      refine X.step (fun hA hx hq t_ k_ => XS.lconst hA hx rfl (hb hq d9_9) k_) ?_
      show OFin _ _ _ _ _ _ _ _ T (mkF m 10 #[.val (.ref a1), .val (.int (Int32.ofNat f)), .val (.int (Int32.ofNat k)), .val (.int (Int32.ofNat i)), .val (.long (0 : Int64)), .second] [(.long (0 : Int64)), (.long (0 : Int64))])
      refine X.step (fun hA hx hq t_ k_ => XS.lcmp hA hx rfl (hb hq d9_10) rfl k_) ?_
      show OFin _ _ _ _ _ _ _ _ T (mkF m 11 #[.val (.ref a1), .val (.int (Int32.ofNat f)), .val (.int (Int32.ofNat k)), .val (.int (Int32.ofNat i)), .val (.long (0 : Int64)), .second] [(.int (lcmpW (0 : Int64) (0 : Int64)))])
      refine X.step (fun hA hx hq t_ k_ => XS.ifNo hA hx rfl (hb hq d9_11) rfl ((if0 _ _).trans (teq ((lw_eq _ _).mpr rfl)).2) k_) ?_
      show OFin _ _ _ _ _ _ _ _ T (mkF m 14 #[.val (.ref a1), .val (.int (Int32.ofNat f)), .val (.int (Int32.ofNat k)), .val (.int (Int32.ofNat i)), .val (.long (0 : Int64)), .second] [])
      refine X.step (fun hA hx hq t_ k_ => XS.iloadN hA hx rfl (hb hq d9_14) rfl k_) ?_
      show OFin _ _ _ _ _ _ _ _ T (mkF m 15 #[.val (.ref a1), .val (.int (Int32.ofNat f)), .val (.int (Int32.ofNat k)), .val (.int (Int32.ofNat i)), .val (.long (0 : Int64)), .second] [(.int (Int32.ofNat i))])
      refine X.step (fun hA hx hq t_ k_ => XS.aloadN hA hx rfl (hb hq d9_15) rfl rfl k_) ?_
      show OFin _ _ _ _ _ _ _ _ T (mkF m 16 #[.val (.ref a1), .val (.int (Int32.ofNat f)), .val (.int (Int32.ofNat k)), .val (.int (Int32.ofNat i)), .val (.long (0 : Int64)), .second] [(.ref a1), (.int (Int32.ofNat i))])
      refine X.getF (hw _ (List.mem_of_getElem? (i := 20) rfl)) F1 (g := (mkF m 16 #[.val (.ref a1), .val (.int (Int32.ofNat f)), .val (.int (Int32.ofNat k)), .val (.int (Int32.ofNat i)), .val (.long (0 : Int64)), .second] [(.ref a1), (.int (Int32.ofNat i))])) rfl rfl d9_16 ?_
      intro T3 X3
      show OFin _ _ _ _ _ _ _ _ T3 (mkF m 19 #[.val (.ref a1), .val (.int (Int32.ofNat f)), .val (.int (Int32.ofNat k)), .val (.int (Int32.ofNat i)), .val (.long (0 : Int64)), .second] [(.ref lv), (.int (Int32.ofNat i))])
      refine X3.alen A1 (n := (Int32.ofNat L)) (by rw [S1]) (g := (mkF m 19 #[.val (.ref a1), .val (.int (Int32.ofNat f)), .val (.int (Int32.ofNat k)), .val (.int (Int32.ofNat i)), .val (.long (0 : Int64)), .second] [(.ref lv), (.int (Int32.ofNat i))])) rfl rfl d9_19 ?_
      show OFin _ _ _ _ _ _ _ _ T3 (mkF m 20 #[.val (.ref a1), .val (.int (Int32.ofNat f)), .val (.int (Int32.ofNat k)), .val (.int (Int32.ofNat i)), .val (.long (0 : Int64)), .second] [(.int (Int32.ofNat L)), (.int (Int32.ofNat i))])
      refine X3.step (fun hA hx hq t_ k_ => XS.icmpYes hA hx rfl (pc0 := 20) (pc' := 79) rfl (hb hq d9_20) rfl (flt (fun c => by rw [own_lt32 i L (by omega) (by omega)] at c; omega)).2.1 (by decide) (by decide) k_) ?_
      show OFin _ _ _ _ _ _ _ _ T3 (mkF m 79 #[.val (.ref a1), .val (.int (Int32.ofNat f)), .val (.int (Int32.ofNat k)), .val (.int (Int32.ofNat i)), .val (.long (0 : Int64)), .second] [])
      refine X3.step (fun hA hx hq t_ k_ => XS.lload hA hx rfl (hb hq d9_79) rfl k_) ?_
      show OFin _ _ _ _ _ _ _ _ T3 (mkF m 81 #[.val (.ref a1), .val (.int (Int32.ofNat f)), .val (.int (Int32.ofNat k)), .val (.int (Int32.ofNat i)), .val (.long (0 : Int64)), .second] [(.long (0 : Int64))])
      refine X3.step (fun hA hx hq t_ k_ => XS.lconst hA hx rfl (hb hq d9_81) k_) ?_
      show OFin _ _ _ _ _ _ _ _ T3 (mkF m 82 #[.val (.ref a1), .val (.int (Int32.ofNat f)), .val (.int (Int32.ofNat k)), .val (.int (Int32.ofNat i)), .val (.long (0 : Int64)), .second] [(.long (0 : Int64)), (.long (0 : Int64))])
      refine X3.step (fun hA hx hq t_ k_ => XS.lcmp hA hx rfl (hb hq d9_82) rfl k_) ?_
      show OFin _ _ _ _ _ _ _ _ T3 (mkF m 83 #[.val (.ref a1), .val (.int (Int32.ofNat f)), .val (.int (Int32.ofNat k)), .val (.int (Int32.ofNat i)), .val (.long (0 : Int64)), .second] [(.int (lcmpW (0 : Int64) (0 : Int64)))])
      refine X3.step (fun hA hx hq t_ k_ => XS.ifNo hA hx rfl (hb hq d9_83) rfl ((if0 _ _).trans (teq ((lw_eq _ _).mpr rfl)).2) k_) ?_
      show OFin _ _ _ _ _ _ _ _ T3 (mkF m 86 #[.val (.ref a1), .val (.int (Int32.ofNat f)), .val (.int (Int32.ofNat k)), .val (.int (Int32.ofNat i)), .val (.long (0 : Int64)), .second] [])
      refine X3.step (fun hA hx hq t_ k_ => XS.iconst hA hx rfl (hb hq d9_86) k_) ?_
      show OFin _ _ _ _ _ _ _ _ T3 (mkF m 87 #[.val (.ref a1), .val (.int (Int32.ofNat f)), .val (.int (Int32.ofNat k)), .val (.int (Int32.ofNat i)), .val (.long (0 : Int64)), .second] [(.int (-1 : Int32))])
      exact X3.retI d9_87 (by decide) (by decide) (⟨rfl, _, rfl, Or.inl ⟨rfl, own_noneL U (fun s hs => by have h1 := hNx (L - 1) (by omega) s (hS s hs); rw [hL1, show L - 1 + 1 = i by omega] at h1; exact h1) (hik (by omega))⟩⟩)
    | succ j ih =>
      intro i k T hij U hik hk X
      have hlt : i < L := by omega
      obtain ⟨c2, A2, S2, H2⟩ := id (Va i hlt)
      have hNi := hNb i hlt
      refine X.step (fun hA hx hq t_ k_ => XS.lload hA hx rfl (hb hq d9_7) rfl k_) ?_
      show OFin _ _ _ _ _ _ _ _ T (mkF m 9 #[.val (.ref a1), .val (.int (Int32.ofNat f)), .val (.int (Int32.ofNat k)), .val (.int (Int32.ofNat i)), .val (.long (0 : Int64)), .second] [(.long (0 : Int64))])
      refine X.step (fun hA hx hq t_ k_ => XS.lconst hA hx rfl (hb hq d9_9) k_) ?_
      show OFin _ _ _ _ _ _ _ _ T (mkF m 10 #[.val (.ref a1), .val (.int (Int32.ofNat f)), .val (.int (Int32.ofNat k)), .val (.int (Int32.ofNat i)), .val (.long (0 : Int64)), .second] [(.long (0 : Int64)), (.long (0 : Int64))])
      refine X.step (fun hA hx hq t_ k_ => XS.lcmp hA hx rfl (hb hq d9_10) rfl k_) ?_
      show OFin _ _ _ _ _ _ _ _ T (mkF m 11 #[.val (.ref a1), .val (.int (Int32.ofNat f)), .val (.int (Int32.ofNat k)), .val (.int (Int32.ofNat i)), .val (.long (0 : Int64)), .second] [(.int (lcmpW (0 : Int64) (0 : Int64)))])
      refine X.step (fun hA hx hq t_ k_ => XS.ifNo hA hx rfl (hb hq d9_11) rfl ((if0 _ _).trans (teq ((lw_eq _ _).mpr rfl)).2) k_) ?_
      show OFin _ _ _ _ _ _ _ _ T (mkF m 14 #[.val (.ref a1), .val (.int (Int32.ofNat f)), .val (.int (Int32.ofNat k)), .val (.int (Int32.ofNat i)), .val (.long (0 : Int64)), .second] [])
      refine X.step (fun hA hx hq t_ k_ => XS.iloadN hA hx rfl (hb hq d9_14) rfl k_) ?_
      show OFin _ _ _ _ _ _ _ _ T (mkF m 15 #[.val (.ref a1), .val (.int (Int32.ofNat f)), .val (.int (Int32.ofNat k)), .val (.int (Int32.ofNat i)), .val (.long (0 : Int64)), .second] [(.int (Int32.ofNat i))])
      refine X.step (fun hA hx hq t_ k_ => XS.aloadN hA hx rfl (hb hq d9_15) rfl rfl k_) ?_
      show OFin _ _ _ _ _ _ _ _ T (mkF m 16 #[.val (.ref a1), .val (.int (Int32.ofNat f)), .val (.int (Int32.ofNat k)), .val (.int (Int32.ofNat i)), .val (.long (0 : Int64)), .second] [(.ref a1), (.int (Int32.ofNat i))])
      refine X.getF (hw _ (List.mem_of_getElem? (i := 20) rfl)) F1 (g := (mkF m 16 #[.val (.ref a1), .val (.int (Int32.ofNat f)), .val (.int (Int32.ofNat k)), .val (.int (Int32.ofNat i)), .val (.long (0 : Int64)), .second] [(.ref a1), (.int (Int32.ofNat i))])) rfl rfl d9_16 ?_
      intro T4 X4
      show OFin _ _ _ _ _ _ _ _ T4 (mkF m 19 #[.val (.ref a1), .val (.int (Int32.ofNat f)), .val (.int (Int32.ofNat k)), .val (.int (Int32.ofNat i)), .val (.long (0 : Int64)), .second] [(.ref lv), (.int (Int32.ofNat i))])
      refine X4.alen A1 (n := (Int32.ofNat L)) (by rw [S1]) (g := (mkF m 19 #[.val (.ref a1), .val (.int (Int32.ofNat f)), .val (.int (Int32.ofNat k)), .val (.int (Int32.ofNat i)), .val (.long (0 : Int64)), .second] [(.ref lv), (.int (Int32.ofNat i))])) rfl rfl d9_19 ?_
      show OFin _ _ _ _ _ _ _ _ T4 (mkF m 20 #[.val (.ref a1), .val (.int (Int32.ofNat f)), .val (.int (Int32.ofNat k)), .val (.int (Int32.ofNat i)), .val (.long (0 : Int64)), .second] [(.int (Int32.ofNat L)), (.int (Int32.ofNat i))])
      refine X4.step (fun hA hx hq t_ k_ => XS.icmpNo hA hx rfl (hb hq d9_20) rfl (tlt ((own_lt32 i L (by omega) (by omega)).mpr hlt)).2.1 k_) ?_
      show OFin _ _ _ _ _ _ _ _ T4 (mkF m 23 #[.val (.ref a1), .val (.int (Int32.ofNat f)), .val (.int (Int32.ofNat k)), .val (.int (Int32.ofNat i)), .val (.long (0 : Int64)), .second] [])
      refine X4.step (fun hA hx hq t_ k_ => XS.iloadN hA hx rfl (hb hq d9_23) rfl k_) ?_
      show OFin _ _ _ _ _ _ _ _ T4 (mkF m 24 #[.val (.ref a1), .val (.int (Int32.ofNat f)), .val (.int (Int32.ofNat k)), .val (.int (Int32.ofNat i)), .val (.long (0 : Int64)), .second] [(.int (Int32.ofNat k))])
      refine X4.step (fun hA hx hq t_ k_ => XS.bipush hA hx rfl (hb hq d9_24) k_) ?_
      show OFin _ _ _ _ _ _ _ _ T4 (mkF m 26 #[.val (.ref a1), .val (.int (Int32.ofNat f)), .val (.int (Int32.ofNat k)), .val (.int (Int32.ofNat i)), .val (.long (0 : Int64)), .second] [(.int (6 : Int32)), (.int (Int32.ofNat k))])
      refine X4.step (fun hA hx hq t_ k_ => XS.iushr hA hx rfl (hb hq d9_26) rfl k_) ?_
      show OFin _ _ _ _ _ _ _ _ T4 (mkF m 27 #[.val (.ref a1), .val (.int (Int32.ofNat f)), .val (.int (Int32.ofNat k)), .val (.int (Int32.ofNat i)), .val (.long (0 : Int64)), .second] [(.int (((Int32.ofNat k).toUInt32 >>> ((6 : Int32) &&& 31).toUInt32).toInt32))])
      rw [own_ush6 k (by omega)]
      show OFin _ _ _ _ _ _ _ _ T4 (mkF m 27 #[.val (.ref a1), .val (.int (Int32.ofNat f)), .val (.int (Int32.ofNat k)), .val (.int (Int32.ofNat i)), .val (.long (0 : Int64)), .second] [(.int (Int32.ofNat (k / 64)))])
      refine X4.step (fun hA hx hq t_ k_ => XS.aloadN hA hx rfl (hb hq d9_27) rfl rfl k_) ?_
      show OFin _ _ _ _ _ _ _ _ T4 (mkF m 28 #[.val (.ref a1), .val (.int (Int32.ofNat f)), .val (.int (Int32.ofNat k)), .val (.int (Int32.ofNat i)), .val (.long (0 : Int64)), .second] [(.ref a1), (.int (Int32.ofNat (k / 64)))])
      refine X4.getF (hw _ (List.mem_of_getElem? (i := 20) rfl)) F1 (g := (mkF m 28 #[.val (.ref a1), .val (.int (Int32.ofNat f)), .val (.int (Int32.ofNat k)), .val (.int (Int32.ofNat i)), .val (.long (0 : Int64)), .second] [(.ref a1), (.int (Int32.ofNat (k / 64)))])) rfl rfl d9_28 ?_
      intro T5 X5
      show OFin _ _ _ _ _ _ _ _ T5 (mkF m 31 #[.val (.ref a1), .val (.int (Int32.ofNat f)), .val (.int (Int32.ofNat k)), .val (.int (Int32.ofNat i)), .val (.long (0 : Int64)), .second] [(.ref lv), (.int (Int32.ofNat (k / 64)))])
      refine X5.step (fun hA hx hq t_ k_ => XS.iloadN hA hx rfl (hb hq d9_31) rfl k_) ?_
      show OFin _ _ _ _ _ _ _ _ T5 (mkF m 32 #[.val (.ref a1), .val (.int (Int32.ofNat f)), .val (.int (Int32.ofNat k)), .val (.int (Int32.ofNat i)), .val (.long (0 : Int64)), .second] [(.int (Int32.ofNat i)), (.ref lv), (.int (Int32.ofNat (k / 64)))])
      refine X5.aload0 A1 (v := (.ref (ad i))) (o_in S1 (by rw [own_i _ (by omega)]; omega) (by rw [own_i _ (by omega)]; omega)) (by rw [own_iN _ (by omega)]; exact H1 i (by omega)) (g := (mkF m 32 #[.val (.ref a1), .val (.int (Int32.ofNat f)), .val (.int (Int32.ofNat k)), .val (.int (Int32.ofNat i)), .val (.long (0 : Int64)), .second] [(.int (Int32.ofNat i)), (.ref lv), (.int (Int32.ofNat (k / 64)))])) rfl rfl (Or.inr (Or.inr (Or.inr (Or.inr (⟨rfl, rfl⟩))))) d9_32 ?_
      show OFin _ _ _ _ _ _ _ _ T5 (mkF m 33 #[.val (.ref a1), .val (.int (Int32.ofNat f)), .val (.int (Int32.ofNat k)), .val (.int (Int32.ofNat i)), .val (.long (0 : Int64)), .second] [(.ref (ad i)), (.int (Int32.ofNat (k / 64)))])
      refine X5.alen A2 (n := (Int32.ofNat (N i))) (by rw [S2]) (g := (mkF m 33 #[.val (.ref a1), .val (.int (Int32.ofNat f)), .val (.int (Int32.ofNat k)), .val (.int (Int32.ofNat i)), .val (.long (0 : Int64)), .second] [(.ref (ad i)), (.int (Int32.ofNat (k / 64)))])) rfl rfl d9_33 ?_
      show OFin _ _ _ _ _ _ _ _ T5 (mkF m 34 #[.val (.ref a1), .val (.int (Int32.ofNat f)), .val (.int (Int32.ofNat k)), .val (.int (Int32.ofNat i)), .val (.long (0 : Int64)), .second] [(.int (Int32.ofNat (N i))), (.int (Int32.ofNat (k / 64)))])
      by_cases kb : (Int32.ofNat (k / 64)) < (Int32.ofNat (N i))
      · refine X5.step (fun hA hx hq t_ k_ => XS.icmpNo hA hx rfl (hb hq d9_34) rfl (tlt (kb)).2.1 k_) ?_
        show OFin _ _ _ _ _ _ _ _ T5 (mkF m 37 #[.val (.ref a1), .val (.int (Int32.ofNat f)), .val (.int (Int32.ofNat k)), .val (.int (Int32.ofNat i)), .val (.long (0 : Int64)), .second] [])
        have kb2 : k / 64 < N i := (own_lt32 _ _ (by omega) (by omega)).mp kb
        refine X5.step (fun hA hx hq t_ k_ => XS.aloadN hA hx rfl (hb hq d9_37) rfl rfl k_) ?_
        show OFin _ _ _ _ _ _ _ _ T5 (mkF m 38 #[.val (.ref a1), .val (.int (Int32.ofNat f)), .val (.int (Int32.ofNat k)), .val (.int (Int32.ofNat i)), .val (.long (0 : Int64)), .second] [(.ref a1)])
        refine X5.getF (hw _ (List.mem_of_getElem? (i := 20) rfl)) F1 (g := (mkF m 38 #[.val (.ref a1), .val (.int (Int32.ofNat f)), .val (.int (Int32.ofNat k)), .val (.int (Int32.ofNat i)), .val (.long (0 : Int64)), .second] [(.ref a1)])) rfl rfl d9_38 ?_
        intro T6 X6
        show OFin _ _ _ _ _ _ _ _ T6 (mkF m 41 #[.val (.ref a1), .val (.int (Int32.ofNat f)), .val (.int (Int32.ofNat k)), .val (.int (Int32.ofNat i)), .val (.long (0 : Int64)), .second] [(.ref lv)])
        refine X6.step (fun hA hx hq t_ k_ => XS.iloadN hA hx rfl (hb hq d9_41) rfl k_) ?_
        show OFin _ _ _ _ _ _ _ _ T6 (mkF m 42 #[.val (.ref a1), .val (.int (Int32.ofNat f)), .val (.int (Int32.ofNat k)), .val (.int (Int32.ofNat i)), .val (.long (0 : Int64)), .second] [(.int (Int32.ofNat i)), (.ref lv)])
        refine X6.aload0 A1 (v := (.ref (ad i))) (o_in S1 (by rw [own_i _ (by omega)]; omega) (by rw [own_i _ (by omega)]; omega)) (by rw [own_iN _ (by omega)]; exact H1 i (by omega)) (g := (mkF m 42 #[.val (.ref a1), .val (.int (Int32.ofNat f)), .val (.int (Int32.ofNat k)), .val (.int (Int32.ofNat i)), .val (.long (0 : Int64)), .second] [(.int (Int32.ofNat i)), (.ref lv)])) rfl rfl (Or.inr (Or.inr (Or.inr (Or.inr (⟨rfl, rfl⟩))))) d9_42 ?_
        show OFin _ _ _ _ _ _ _ _ T6 (mkF m 43 #[.val (.ref a1), .val (.int (Int32.ofNat f)), .val (.int (Int32.ofNat k)), .val (.int (Int32.ofNat i)), .val (.long (0 : Int64)), .second] [(.ref (ad i))])
        refine X6.step (fun hA hx hq t_ k_ => XS.iloadN hA hx rfl (hb hq d9_43) rfl k_) ?_
        show OFin _ _ _ _ _ _ _ _ T6 (mkF m 44 #[.val (.ref a1), .val (.int (Int32.ofNat f)), .val (.int (Int32.ofNat k)), .val (.int (Int32.ofNat i)), .val (.long (0 : Int64)), .second] [(.int (Int32.ofNat k)), (.ref (ad i))])
        refine X6.step (fun hA hx hq t_ k_ => XS.bipush hA hx rfl (hb hq d9_44) k_) ?_
        show OFin _ _ _ _ _ _ _ _ T6 (mkF m 46 #[.val (.ref a1), .val (.int (Int32.ofNat f)), .val (.int (Int32.ofNat k)), .val (.int (Int32.ofNat i)), .val (.long (0 : Int64)), .second] [(.int (6 : Int32)), (.int (Int32.ofNat k)), (.ref (ad i))])
        refine X6.step (fun hA hx hq t_ k_ => XS.iushr hA hx rfl (hb hq d9_46) rfl k_) ?_
        show OFin _ _ _ _ _ _ _ _ T6 (mkF m 47 #[.val (.ref a1), .val (.int (Int32.ofNat f)), .val (.int (Int32.ofNat k)), .val (.int (Int32.ofNat i)), .val (.long (0 : Int64)), .second] [(.int (((Int32.ofNat k).toUInt32 >>> ((6 : Int32) &&& 31).toUInt32).toInt32)), (.ref (ad i))])
        rw [own_ush6 k (by omega)]
        show OFin _ _ _ _ _ _ _ _ T6 (mkF m 47 #[.val (.ref a1), .val (.int (Int32.ofNat f)), .val (.int (Int32.ofNat k)), .val (.int (Int32.ofNat i)), .val (.long (0 : Int64)), .second] [(.int (Int32.ofNat (k / 64))), (.ref (ad i))])
        refine X6.aload0 A2 (v := (.long (W i (k / 64)))) (o_in S2 (by rw [own_i _ (by omega)]; omega) (by rw [own_i _ (by omega)]; omega)) (by rw [own_iN _ (by omega)]; exact H2 _ kb2) (g := (mkF m 47 #[.val (.ref a1), .val (.int (Int32.ofNat f)), .val (.int (Int32.ofNat k)), .val (.int (Int32.ofNat i)), .val (.long (0 : Int64)), .second] [(.int (Int32.ofNat (k / 64))), (.ref (ad i))])) rfl rfl (Or.inr (Or.inl ⟨rfl, rfl⟩)) d9_47 ?_
        show OFin _ _ _ _ _ _ _ _ T6 (mkF m 48 #[.val (.ref a1), .val (.int (Int32.ofNat f)), .val (.int (Int32.ofNat k)), .val (.int (Int32.ofNat i)), .val (.long (0 : Int64)), .second] [(.long (W i (k / 64)))])
        refine X6.ldcL (hw _ (List.mem_of_getElem? (i := 34) rfl)) (g := (mkF m 48 #[.val (.ref a1), .val (.int (Int32.ofNat f)), .val (.int (Int32.ofNat k)), .val (.int (Int32.ofNat i)), .val (.long (0 : Int64)), .second] [(.long (W i (k / 64)))])) rfl d9_48 ?_
        show OFin _ _ _ _ _ _ _ _ T6 (mkF m 51 #[.val (.ref a1), .val (.int (Int32.ofNat f)), .val (.int (Int32.ofNat k)), .val (.int (Int32.ofNat i)), .val (.long (0 : Int64)), .second] [(.long (-1 : Int64)), (.long (W i (k / 64)))])
        refine X6.step (fun hA hx hq t_ k_ => XS.iloadN hA hx rfl (hb hq d9_51) rfl k_) ?_
        show OFin _ _ _ _ _ _ _ _ T6 (mkF m 52 #[.val (.ref a1), .val (.int (Int32.ofNat f)), .val (.int (Int32.ofNat k)), .val (.int (Int32.ofNat i)), .val (.long (0 : Int64)), .second] [(.int (Int32.ofNat k)), (.long (-1 : Int64)), (.long (W i (k / 64)))])
        refine X6.step (fun hA hx hq t_ k_ => XS.bipush hA hx rfl (hb hq d9_52) k_) ?_
        show OFin _ _ _ _ _ _ _ _ T6 (mkF m 54 #[.val (.ref a1), .val (.int (Int32.ofNat f)), .val (.int (Int32.ofNat k)), .val (.int (Int32.ofNat i)), .val (.long (0 : Int64)), .second] [(.int (63 : Int32)), (.int (Int32.ofNat k)), (.long (-1 : Int64)), (.long (W i (k / 64)))])
        refine X6.step (fun hA hx hq t_ k_ => XS.iand hA hx rfl (hb hq d9_54) rfl k_) ?_
        show OFin _ _ _ _ _ _ _ _ T6 (mkF m 55 #[.val (.ref a1), .val (.int (Int32.ofNat f)), .val (.int (Int32.ofNat k)), .val (.int (Int32.ofNat i)), .val (.long (0 : Int64)), .second] [(.int ((Int32.ofNat k) &&& (63 : Int32))), (.long (-1 : Int64)), (.long (W i (k / 64)))])
        refine X6.step (fun hA hx hq t_ k_ => XS.lshl hA hx rfl (hb hq d9_55) rfl k_) ?_
        show OFin _ _ _ _ _ _ _ _ T6 (mkF m 56 #[.val (.ref a1), .val (.int (Int32.ofNat f)), .val (.int (Int32.ofNat k)), .val (.int (Int32.ofNat i)), .val (.long (0 : Int64)), .second] [(.long ((-1 : Int64) <<< (((Int32.ofNat k) &&& (63 : Int32)) &&& 0x3f).toInt64)), (.long (W i (k / 64)))])
        refine X6.step (fun hA hx hq t_ k_ => XS.land hA hx rfl (hb hq d9_56) rfl k_) ?_
        show OFin _ _ _ _ _ _ _ _ T6 (mkF m 57 #[.val (.ref a1), .val (.int (Int32.ofNat f)), .val (.int (Int32.ofNat k)), .val (.int (Int32.ofNat i)), .val (.long (0 : Int64)), .second] [(.long ((W i (k / 64)) &&& ((-1 : Int64) <<< (((Int32.ofNat k) &&& (63 : Int32)) &&& 0x3f).toInt64)))])
        have hm := fun b hb => own_bmsk (W i (k / 64)) k b (by omega) hb
        generalize hF : ((W i (k / 64)) &&& ((-1 : Int64) <<< (((Int32.ofNat k) &&& (63 : Int32)) &&& 0x3f).toInt64)) = F at hm ⊢
        show OFin _ _ _ _ _ _ _ _ T6 (mkF m 57 #[.val (.ref a1), .val (.int (Int32.ofNat f)), .val (.int (Int32.ofNat k)), .val (.int (Int32.ofNat i)), .val (.long (0 : Int64)), .second] [(.long F)])
        refine X6.step (fun hA hx hq t_ k_ => XS.lstore hA hx rfl (hb hq d9_57) rfl (l' := #[.val (.ref a1), .val (.int (Int32.ofNat f)), .val (.int (Int32.ofNat k)), .val (.int (Int32.ofNat i)), .val (.long F), .second]) rfl k_) ?_
        show OFin _ _ _ _ _ _ _ _ T6 (mkF m 59 #[.val (.ref a1), .val (.int (Int32.ofNat f)), .val (.int (Int32.ofNat k)), .val (.int (Int32.ofNat i)), .val (.long F), .second] [])
        refine X6.step (fun hA hx hq t_ k_ => XS.lload hA hx rfl (hb hq d9_59) rfl k_) ?_
        show OFin _ _ _ _ _ _ _ _ T6 (mkF m 61 #[.val (.ref a1), .val (.int (Int32.ofNat f)), .val (.int (Int32.ofNat k)), .val (.int (Int32.ofNat i)), .val (.long F), .second] [(.long F)])
        refine X6.step (fun hA hx hq t_ k_ => XS.lconst hA hx rfl (hb hq d9_61) k_) ?_
        show OFin _ _ _ _ _ _ _ _ T6 (mkF m 62 #[.val (.ref a1), .val (.int (Int32.ofNat f)), .val (.int (Int32.ofNat k)), .val (.int (Int32.ofNat i)), .val (.long F), .second] [(.long (0 : Int64)), (.long F)])
        refine X6.step (fun hA hx hq t_ k_ => XS.lcmp hA hx rfl (hb hq d9_62) rfl k_) ?_
        show OFin _ _ _ _ _ _ _ _ T6 (mkF m 63 #[.val (.ref a1), .val (.int (Int32.ofNat f)), .val (.int (Int32.ofNat k)), .val (.int (Int32.ofNat i)), .val (.long F), .second] [(.int (lcmpW F (0 : Int64)))])
        by_cases kz : (lcmpW F (0 : Int64)) = (0 : Int32)
        · refine X6.step (fun hA hx hq t_ k_ => XS.ifNo hA hx rfl (hb hq d9_63) rfl ((if0 _ _).trans (teq (kz)).2) k_) ?_
          show OFin _ _ _ _ _ _ _ _ T6 (mkF m 66 #[.val (.ref a1), .val (.int (Int32.ofNat f)), .val (.int (Int32.ofNat k)), .val (.int (Int32.ofNat i)), .val (.long F), .second] [])
          obtain rfl := (lw_eq _ _).mp kz
          have U2 := own_upS U (O1 i hlt) kb2 (fun b hb hbk => by
            have h1 := hm b hb
            rw [own_bt0] at h1
            have h2 : decide (k % 64 ≤ b) = true := decide_eq_true hbk
            rw [h2, Bool.and_true] at h1
            exact h1.symm)
          show OFin _ _ _ _ _ _ _ _ T6 (mkF m 66 #[.val (.ref a1), .val (.int (Int32.ofNat f)), .val (.int (Int32.ofNat k)), .val (.int (Int32.ofNat i)), .val (.long (0 : Int64)), .second] [])
          refine X6.step (fun hA hx hq t_ k_ => XS.iloadN hA hx rfl (hb hq d9_66) rfl k_) ?_
          show OFin _ _ _ _ _ _ _ _ T6 (mkF m 67 #[.val (.ref a1), .val (.int (Int32.ofNat f)), .val (.int (Int32.ofNat k)), .val (.int (Int32.ofNat i)), .val (.long (0 : Int64)), .second] [(.int (Int32.ofNat k))])
          refine X6.step (fun hA hx hq t_ k_ => XS.bipush hA hx rfl (hb hq d9_67) k_) ?_
          show OFin _ _ _ _ _ _ _ _ T6 (mkF m 69 #[.val (.ref a1), .val (.int (Int32.ofNat f)), .val (.int (Int32.ofNat k)), .val (.int (Int32.ofNat i)), .val (.long (0 : Int64)), .second] [(.int (6 : Int32)), (.int (Int32.ofNat k))])
          refine X6.step (fun hA hx hq t_ k_ => XS.iushr hA hx rfl (hb hq d9_69) rfl k_) ?_
          show OFin _ _ _ _ _ _ _ _ T6 (mkF m 70 #[.val (.ref a1), .val (.int (Int32.ofNat f)), .val (.int (Int32.ofNat k)), .val (.int (Int32.ofNat i)), .val (.long (0 : Int64)), .second] [(.int (((Int32.ofNat k).toUInt32 >>> ((6 : Int32) &&& 31).toUInt32).toInt32))])
          rw [own_ush6 k (by omega)]
          show OFin _ _ _ _ _ _ _ _ T6 (mkF m 70 #[.val (.ref a1), .val (.int (Int32.ofNat f)), .val (.int (Int32.ofNat k)), .val (.int (Int32.ofNat i)), .val (.long (0 : Int64)), .second] [(.int (Int32.ofNat (k / 64)))])
          refine X6.step (fun hA hx hq t_ k_ => XS.iconst hA hx rfl (hb hq d9_70) k_) ?_
          show OFin _ _ _ _ _ _ _ _ T6 (mkF m 71 #[.val (.ref a1), .val (.int (Int32.ofNat f)), .val (.int (Int32.ofNat k)), .val (.int (Int32.ofNat i)), .val (.long (0 : Int64)), .second] [(.int (1 : Int32)), (.int (Int32.ofNat (k / 64)))])
          refine X6.step (fun hA hx hq t_ k_ => XS.iadd hA hx rfl (hb hq d9_71) rfl k_) ?_
          show OFin _ _ _ _ _ _ _ _ T6 (mkF m 72 #[.val (.ref a1), .val (.int (Int32.ofNat f)), .val (.int (Int32.ofNat k)), .val (.int (Int32.ofNat i)), .val (.long (0 : Int64)), .second] [(.int ((Int32.ofNat (k / 64)) + (1 : Int32)))])
          rw [own_succ (k / 64) (by omega)]
          show OFin _ _ _ _ _ _ _ _ T6 (mkF m 72 #[.val (.ref a1), .val (.int (Int32.ofNat f)), .val (.int (Int32.ofNat k)), .val (.int (Int32.ofNat i)), .val (.long (0 : Int64)), .second] [(.int (Int32.ofNat (k / 64 + 1)))])
          refine X6.step (fun hA hx hq t_ k_ => XS.istoreN hA hx rfl (hb hq d9_72) rfl (l' := #[.val (.ref a1), .val (.int (Int32.ofNat f)), .val (.int (Int32.ofNat (k / 64 + 1))), .val (.int (Int32.ofNat i)), .val (.long (0 : Int64)), .second]) rfl k_) ?_
          show OFin _ _ _ _ _ _ _ _ T6 (mkF m 73 #[.val (.ref a1), .val (.int (Int32.ofNat f)), .val (.int (Int32.ofNat (k / 64 + 1))), .val (.int (Int32.ofNat i)), .val (.long (0 : Int64)), .second] [])
          refine X6.step (fun hA hx hq t_ k_ => XS.iinc hA hx rfl (hb hq d9_73) rfl (l' := #[.val (.ref a1), .val (.int (Int32.ofNat f)), .val (.int (Int32.ofNat (k / 64 + 1))), .val (.int ((Int32.ofNat i) + (1 : Int32))), .val (.long (0 : Int64)), .second]) rfl k_) ?_
          show OFin _ _ _ _ _ _ _ _ T6 (mkF m 76 #[.val (.ref a1), .val (.int (Int32.ofNat f)), .val (.int (Int32.ofNat (k / 64 + 1))), .val (.int ((Int32.ofNat i) + (1 : Int32))), .val (.long (0 : Int64)), .second] [])
          rw [own_succ i (by omega)]
          show OFin _ _ _ _ _ _ _ _ T6 (mkF m 76 #[.val (.ref a1), .val (.int (Int32.ofNat f)), .val (.int (Int32.ofNat (k / 64 + 1))), .val (.int (Int32.ofNat (i + 1))), .val (.long (0 : Int64)), .second] [])
          refine X6.step (fun hA hx hq t_ k_ => XS.goto hA hx rfl (pc0 := 76) (pc' := 7) rfl (hb hq d9_76) (by decide) (by decide) k_) ?_
          show OFin _ _ _ _ _ _ _ _ T6 (mkF m 7 #[.val (.ref a1), .val (.int (Int32.ofNat f)), .val (.int (Int32.ofNat (k / 64 + 1))), .val (.int (Int32.ofNat (i + 1))), .val (.long (0 : Int64)), .second] [])
          exact ih (i + 1) (k / 64 + 1) T6 (by omega) U2 (fun _ => by omega) (by omega) X6
        · refine X6.step (fun hA hx hq t_ k_ => XS.ifYes hA hx rfl (pc0 := 63) (pc' := 7) rfl (hb hq d9_63) rfl ((if0 _ _).trans (feq (kz)).2) (by decide) (by decide) k_) ?_
          show OFin _ _ _ _ _ _ _ _ T6 (mkF m 7 #[.val (.ref a1), .val (.int (Int32.ofNat f)), .val (.int (Int32.ofNat k)), .val (.int (Int32.ofNat i)), .val (.long F), .second] [])
          have hFn : F ≠ 0 := fun q => kz ((lw_eq _ _).mpr q)
          refine X6.step (fun hA hx hq t_ k_ => XS.lload hA hx rfl (hb hq d9_7) rfl k_) ?_
          show OFin _ _ _ _ _ _ _ _ T6 (mkF m 9 #[.val (.ref a1), .val (.int (Int32.ofNat f)), .val (.int (Int32.ofNat k)), .val (.int (Int32.ofNat i)), .val (.long F), .second] [(.long F)])
          refine X6.step (fun hA hx hq t_ k_ => XS.lconst hA hx rfl (hb hq d9_9) k_) ?_
          show OFin _ _ _ _ _ _ _ _ T6 (mkF m 10 #[.val (.ref a1), .val (.int (Int32.ofNat f)), .val (.int (Int32.ofNat k)), .val (.int (Int32.ofNat i)), .val (.long F), .second] [(.long (0 : Int64)), (.long F)])
          refine X6.step (fun hA hx hq t_ k_ => XS.lcmp hA hx rfl (hb hq d9_10) rfl k_) ?_
          show OFin _ _ _ _ _ _ _ _ T6 (mkF m 11 #[.val (.ref a1), .val (.int (Int32.ofNat f)), .val (.int (Int32.ofNat k)), .val (.int (Int32.ofNat i)), .val (.long F), .second] [(.int (lcmpW F (0 : Int64)))])
          refine X6.step (fun hA hx hq t_ k_ => XS.ifYes hA hx rfl (pc0 := 11) (pc' := 79) rfl (hb hq d9_11) rfl ((if0 _ _).trans (feq (kz)).2) (by decide) (by decide) k_) ?_
          show OFin _ _ _ _ _ _ _ _ T6 (mkF m 79 #[.val (.ref a1), .val (.int (Int32.ofNat f)), .val (.int (Int32.ofNat k)), .val (.int (Int32.ofNat i)), .val (.long F), .second] [])
          refine X6.step (fun hA hx hq t_ k_ => XS.lload hA hx rfl (hb hq d9_79) rfl k_) ?_
          show OFin _ _ _ _ _ _ _ _ T6 (mkF m 81 #[.val (.ref a1), .val (.int (Int32.ofNat f)), .val (.int (Int32.ofNat k)), .val (.int (Int32.ofNat i)), .val (.long F), .second] [(.long F)])
          refine X6.step (fun hA hx hq t_ k_ => XS.lconst hA hx rfl (hb hq d9_81) k_) ?_
          show OFin _ _ _ _ _ _ _ _ T6 (mkF m 82 #[.val (.ref a1), .val (.int (Int32.ofNat f)), .val (.int (Int32.ofNat k)), .val (.int (Int32.ofNat i)), .val (.long F), .second] [(.long (0 : Int64)), (.long F)])
          refine X6.step (fun hA hx hq t_ k_ => XS.lcmp hA hx rfl (hb hq d9_82) rfl k_) ?_
          show OFin _ _ _ _ _ _ _ _ T6 (mkF m 83 #[.val (.ref a1), .val (.int (Int32.ofNat f)), .val (.int (Int32.ofNat k)), .val (.int (Int32.ofNat i)), .val (.long F), .second] [(.int (lcmpW F (0 : Int64)))])
          refine X6.step (fun hA hx hq t_ k_ => XS.ifYes hA hx rfl (pc0 := 83) (pc' := 88) rfl (hb hq d9_83) rfl ((if0 _ _).trans (feq (kz)).2) (by decide) (by decide) k_) ?_
          show OFin _ _ _ _ _ _ _ _ T6 (mkF m 88 #[.val (.ref a1), .val (.int (Int32.ofNat f)), .val (.int (Int32.ofNat k)), .val (.int (Int32.ofNat i)), .val (.long F), .second] [])
          refine X6.step (fun hA hx hq t_ k_ => XS.iloadN hA hx rfl (hb hq d9_88) rfl k_) ?_
          show OFin _ _ _ _ _ _ _ _ T6 (mkF m 89 #[.val (.ref a1), .val (.int (Int32.ofNat f)), .val (.int (Int32.ofNat k)), .val (.int (Int32.ofNat i)), .val (.long F), .second] [(.int (Int32.ofNat k))])
          refine X6.step (fun hA hx hq t_ k_ => XS.bipush hA hx rfl (hb hq d9_89) k_) ?_
          show OFin _ _ _ _ _ _ _ _ T6 (mkF m 91 #[.val (.ref a1), .val (.int (Int32.ofNat f)), .val (.int (Int32.ofNat k)), .val (.int (Int32.ofNat i)), .val (.long F), .second] [(.int (-64 : Int32)), (.int (Int32.ofNat k))])
          refine X6.step (fun hA hx hq t_ k_ => XS.iand hA hx rfl (hb hq d9_91) rfl k_) ?_
          show OFin _ _ _ _ _ _ _ _ T6 (mkF m 92 #[.val (.ref a1), .val (.int (Int32.ofNat f)), .val (.int (Int32.ofNat k)), .val (.int (Int32.ofNat i)), .val (.long F), .second] [(.int ((Int32.ofNat k) &&& (-64 : Int32)))])
          rw [own_mask64 k (by omega)]
          show OFin _ _ _ _ _ _ _ _ T6 (mkF m 92 #[.val (.ref a1), .val (.int (Int32.ofNat f)), .val (.int (Int32.ofNat k)), .val (.int (Int32.ofNat i)), .val (.long F), .second] [(.int (Int32.ofNat (k / 64 * 64)))])
          refine X6.step (fun hA hx hq t_ k_ => XS.lload hA hx rfl (hb hq d9_92) rfl k_) ?_
          show OFin _ _ _ _ _ _ _ _ T6 (mkF m 94 #[.val (.ref a1), .val (.int (Int32.ofNat f)), .val (.int (Int32.ofNat k)), .val (.int (Int32.ofNat i)), .val (.long F), .second] [(.long F), (.int (Int32.ofNat (k / 64 * 64)))])
          refine X6.callS (y' := (⟨"java/lang/Long", "numberOfTrailingZeros", "(J)I"⟩ : MethodName)) (hw _ (List.mem_of_getElem? (i := 52) rfl)) (hw _ (List.mem_of_getElem? (i := 53) rfl)) (hw _ (List.mem_of_getElem? (i := 54) rfl)) (hw _ (List.mem_of_getElem? (i := 55) rfl)) (by decide) (argsL := [(.long F)]) (rest := [(.int (Int32.ofNat (k / 64 * 64)))]) (rm8 l Z a0 hw F h0 n0 hFn) (g := (mkF m 94 #[.val (.ref a1), .val (.int (Int32.ofNat f)), .val (.int (Int32.ofNat k)), .val (.int (Int32.ofNat i)), .val (.long F), .second] [(.long F), (.int (Int32.ofNat (k / 64 * 64)))])) rfl rfl pd_pJr_I rfl rfl (W := 1) (by show 2 * 0 + _ ≤ _; exact Nat.le_of_eq rfl) d9_94 (by decide) (by decide) (by decide) (by decide) ?_
          intro v7 T7 h7 X7 q7
          obtain ⟨rfl, t, rfl, ht, t1, t2⟩ := q7
          show OFin _ _ _ _ _ _ _ _ T7 (mkF m 97 #[.val (.ref a1), .val (.int (Int32.ofNat f)), .val (.int (Int32.ofNat k)), .val (.int (Int32.ofNat i)), .val (.long F), .second] [(.int (Int32.ofNat t)), (.int (Int32.ofNat (k / 64 * 64)))])
          rw [hm t ht, Bool.and_eq_true, decide_eq_true_eq] at t1
          have Dn := own_found U (O1 i hlt) kb2 ht t1.2 t1.1 (fun b hb hbk => by
            have h1 := t2 b hb
            rw [hm b (by omega), decide_eq_true hbk, Bool.and_true] at h1
            exact h1)
          refine X7.step (fun hA hx hq t_ k_ => XS.iadd hA hx rfl (hb hq d9_97) rfl k_) ?_
          show OFin _ _ _ _ _ _ _ _ T7 (mkF m 98 #[.val (.ref a1), .val (.int (Int32.ofNat f)), .val (.int (Int32.ofNat k)), .val (.int (Int32.ofNat i)), .val (.long F), .second] [(.int ((Int32.ofNat (k / 64 * 64)) + (Int32.ofNat t)))])
          rw [own_add32 (k / 64 * 64) t (by omega)]
          show OFin _ _ _ _ _ _ _ _ T7 (mkF m 98 #[.val (.ref a1), .val (.int (Int32.ofNat f)), .val (.int (Int32.ofNat k)), .val (.int (Int32.ofNat i)), .val (.long F), .second] [(.int (Int32.ofNat (k / 64 * 64 + t)))])
          refine X7.step (fun hA hx hq t_ k_ => XS.istoreN hA hx rfl (hb hq d9_98) rfl (l' := #[.val (.ref a1), .val (.int (Int32.ofNat f)), .val (.int (Int32.ofNat (k / 64 * 64 + t))), .val (.int (Int32.ofNat i)), .val (.long F), .second]) rfl k_) ?_
          show OFin _ _ _ _ _ _ _ _ T7 (mkF m 99 #[.val (.ref a1), .val (.int (Int32.ofNat f)), .val (.int (Int32.ofNat (k / 64 * 64 + t))), .val (.int (Int32.ofNat i)), .val (.long F), .second] [])
          refine X7.step (fun hA hx hq t_ k_ => XS.iinc hA hx rfl (hb hq d9_99) rfl (l' := #[.val (.ref a1), .val (.int (Int32.ofNat f)), .val (.int (Int32.ofNat (k / 64 * 64 + t))), .val (.int ((Int32.ofNat i) + (-1 : Int32))), .val (.long F), .second]) rfl k_) ?_
          show OFin _ _ _ _ _ _ _ _ T7 (mkF m 102 #[.val (.ref a1), .val (.int (Int32.ofNat f)), .val (.int (Int32.ofNat (k / 64 * 64 + t))), .val (.int ((Int32.ofNat i) + (-1 : Int32))), .val (.long F), .second] [])
          exact down i (k / 64 * 64 + t) F T7 hlt Dn X7
      · refine X5.step (fun hA hx hq t_ k_ => XS.icmpYes hA hx rfl (pc0 := 34) (pc' := 79) rfl (hb hq d9_34) rfl (flt (kb)).2.1 (by decide) (by decide) k_) ?_
        show OFin _ _ _ _ _ _ _ _ T5 (mkF m 79 #[.val (.ref a1), .val (.int (Int32.ofNat f)), .val (.int (Int32.ofNat k)), .val (.int (Int32.ofNat i)), .val (.long (0 : Int64)), .second] [])
        have kb2 : ¬ k / 64 < N i := fun c => kb ((own_lt32 _ _ (by omega) (by omega)).mpr c)
        refine X5.step (fun hA hx hq t_ k_ => XS.lload hA hx rfl (hb hq d9_79) rfl k_) ?_
        show OFin _ _ _ _ _ _ _ _ T5 (mkF m 81 #[.val (.ref a1), .val (.int (Int32.ofNat f)), .val (.int (Int32.ofNat k)), .val (.int (Int32.ofNat i)), .val (.long (0 : Int64)), .second] [(.long (0 : Int64))])
        refine X5.step (fun hA hx hq t_ k_ => XS.lconst hA hx rfl (hb hq d9_81) k_) ?_
        show OFin _ _ _ _ _ _ _ _ T5 (mkF m 82 #[.val (.ref a1), .val (.int (Int32.ofNat f)), .val (.int (Int32.ofNat k)), .val (.int (Int32.ofNat i)), .val (.long (0 : Int64)), .second] [(.long (0 : Int64)), (.long (0 : Int64))])
        refine X5.step (fun hA hx hq t_ k_ => XS.lcmp hA hx rfl (hb hq d9_82) rfl k_) ?_
        show OFin _ _ _ _ _ _ _ _ T5 (mkF m 83 #[.val (.ref a1), .val (.int (Int32.ofNat f)), .val (.int (Int32.ofNat k)), .val (.int (Int32.ofNat i)), .val (.long (0 : Int64)), .second] [(.int (lcmpW (0 : Int64) (0 : Int64)))])
        refine X5.step (fun hA hx hq t_ k_ => XS.ifNo hA hx rfl (hb hq d9_83) rfl ((if0 _ _).trans (teq ((lw_eq _ _).mpr rfl)).2) k_) ?_
        show OFin _ _ _ _ _ _ _ _ T5 (mkF m 86 #[.val (.ref a1), .val (.int (Int32.ofNat f)), .val (.int (Int32.ofNat k)), .val (.int (Int32.ofNat i)), .val (.long (0 : Int64)), .second] [])
        refine X5.step (fun hA hx hq t_ k_ => XS.iconst hA hx rfl (hb hq d9_86) k_) ?_
        show OFin _ _ _ _ _ _ _ _ T5 (mkF m 87 #[.val (.ref a1), .val (.int (Int32.ofNat f)), .val (.int (Int32.ofNat k)), .val (.int (Int32.ofNat i)), .val (.long (0 : Int64)), .second] [(.int (-1 : Int32))])
        exact X5.retI d9_87 (by decide) (by decide) (⟨rfl, _, rfl, Or.inl ⟨rfl, own_none U (fun s hs => hNx i hlt s (hS s hs)) kb2⟩⟩)
  refine X0.step (fun hA hx hq t_ k_ => XS.iloadN hA hx rfl (hb hq d9_0) rfl k_) ?_
  show OFin _ _ _ _ _ _ _ _ T0 (mkF m 1 #[.val (.ref a1), .val (.int (Int32.ofNat f)), .unset, .unset, .unset, .unset] [(.int (Int32.ofNat f))])
  refine X0.step (fun hA hx hq t_ k_ => XS.istoreN hA hx rfl (hb hq d9_1) rfl (l' := #[.val (.ref a1), .val (.int (Int32.ofNat f)), .val (.int (Int32.ofNat f)), .unset, .unset, .unset]) rfl k_) ?_
  show OFin _ _ _ _ _ _ _ _ T0 (mkF m 2 #[.val (.ref a1), .val (.int (Int32.ofNat f)), .val (.int (Int32.ofNat f)), .unset, .unset, .unset] [])
  refine X0.step (fun hA hx hq t_ k_ => XS.iconst hA hx rfl (hb hq d9_2) k_) ?_
  show OFin _ _ _ _ _ _ _ _ T0 (mkF m 3 #[.val (.ref a1), .val (.int (Int32.ofNat f)), .val (.int (Int32.ofNat f)), .unset, .unset, .unset] [(.int (0 : Int32))])
  refine X0.step (fun hA hx hq t_ k_ => XS.istoreN hA hx rfl (hb hq d9_3) rfl (l' := #[.val (.ref a1), .val (.int (Int32.ofNat f)), .val (.int (Int32.ofNat f)), .val (.int (0 : Int32)), .unset, .unset]) rfl k_) ?_
  show OFin _ _ _ _ _ _ _ _ T0 (mkF m 4 #[.val (.ref a1), .val (.int (Int32.ofNat f)), .val (.int (Int32.ofNat f)), .val (.int (0 : Int32)), .unset, .unset] [])
  refine X0.step (fun hA hx hq t_ k_ => XS.lconst hA hx rfl (hb hq d9_4) k_) ?_
  show OFin _ _ _ _ _ _ _ _ T0 (mkF m 5 #[.val (.ref a1), .val (.int (Int32.ofNat f)), .val (.int (Int32.ofNat f)), .val (.int (0 : Int32)), .unset, .unset] [(.long (0 : Int64))])
  refine X0.step (fun hA hx hq t_ k_ => XS.lstore hA hx rfl (hb hq d9_5) rfl (l' := #[.val (.ref a1), .val (.int (Int32.ofNat f)), .val (.int (Int32.ofNat f)), .val (.int (0 : Int32)), .val (.long (0 : Int64)), .second]) rfl k_) ?_
  show OFin _ _ _ _ _ _ _ _ T0 (mkF m 7 #[.val (.ref a1), .val (.int (Int32.ofNat f)), .val (.int (Int32.ofNat f)), .val (.int (0 : Int32)), .val (.long (0 : Int64)), .second] [])
  exact up L 0 f T0 (by omega) (own_up0 S f) (fun q => by omega) (by omega) X0
theorem pn_com_example_interleave_interleave_NodeSetRemovePinLaw : plainName "com/example/interleave/interleave/NodeSetRemovePinLaw" = true := by first | (simp [plainName, overriddenIn]; done) | decide +kernel
theorem d8_0 : decode method_2_code 0 = .ok (.iload_n 1, 1) := by decide +kernel
theorem d8_1 : decode method_2_code 1 = .ok (.ifCond .eq 8, 3) := by decide +kernel
theorem d8_9 : decode method_2_code 9 = .ok (.iload_n 0, 1) := by decide +kernel
theorem d8_10 : decode method_2_code 10 = .ok (.ireturn, 1) := by decide +kernel
theorem d8_4 : decode method_2_code 4 = .ok (.iload_n 2, 1) := by decide +kernel
theorem d8_5 : decode method_2_code 5 = .ok (.iload_n 3, 1) := by decide +kernel
theorem d8_6 : decode method_2_code 6 = .ok (.if_icmp .ge 5, 3) := by decide +kernel
theorem d8_11 : decode method_2_code 11 = .ok (.iload_n 0, 1) := by decide +kernel
theorem d8_12 : decode method_2_code 12 = .ok (.iconst (-1), 1) := by decide +kernel
theorem d8_13 : decode method_2_code 13 = .ok (.if_icmp .eq 8, 3) := by decide +kernel
theorem d8_21 : decode method_2_code 21 = .ok (.iload_n 2, 1) := by decide +kernel
theorem d8_22 : decode method_2_code 22 = .ok (.ireturn, 1) := by decide +kernel
theorem d8_16 : decode method_2_code 16 = .ok (.iload_n 2, 1) := by decide +kernel
theorem d8_17 : decode method_2_code 17 = .ok (.iload_n 0, 1) := by decide +kernel
theorem d8_18 : decode method_2_code 18 = .ok (.if_icmp .ge 5, 3) := by decide +kernel
theorem d8_23 : decode method_2_code 23 = .ok (.iload_n 0, 1) := by decide +kernel
theorem d8_24 : decode method_2_code 24 = .ok (.ireturn, 1) := by decide +kernel
set_option maxRecDepth 65536 in
set_option maxHeartbeats 40000000 in
theorem rm10 (l : Launch) (Z : State) (a0 : Array Value) (hw : ∀ d ∈ tables_1, d.before a0 Z = true) (p0 p1 p2 p3 : Int32) (h0 : Heap) (n0 : Nat)  :
    OMeets l Z (⟨"com/example/interleave/interleave/NodeSetRemovePinLaw", "best", "(IZII)I"⟩ : MethodName) [] method_2_code 4 (some .int) ({ frames := 0, cells := 0, slots := 0, locals := 0 } : Room) #[(.int p0), (.int p1), (.int p2), (.int p3)] h0 n0 (fun v h => v = some (.int (own_best p0 p1 p2 p3)) ∧ h0 = h) := by
  refine o_enter (Z := Z) (plainFor_of_name pn_com_example_interleave_interleave_NodeSetRemovePinLaw) ?_
  intro p e s m below meth c T0 X0
  refine OFin.cast (g' := (mkF m 0 #[.val (.int p0), .val (.int p1), .val (.int p2), .val (.int p3)] [])) (by first | (simp [entryFrame, mkF, argsToLocals, Value.category]; done) | rfl) ?_
  refine X0.step (fun hA hx hq t_ k_ => XS.iloadN hA hx rfl (hb hq d8_0) rfl k_) ?_
  show OFin _ _ _ _ _ _ _ _ T0 (mkF m 1 #[.val (.int p0), .val (.int p1), .val (.int p2), .val (.int p3)] [(.int p1)])
  by_cases k1 : p1 = (0 : Int32)
  · refine X0.step (fun hA hx hq t_ k_ => XS.ifYes hA hx rfl (pc0 := 1) (pc' := 9) rfl (hb hq d8_1) rfl ((if0 _ _).trans (teq (k1)).1) (by decide) (by decide) k_) ?_
    show OFin _ _ _ _ _ _ _ _ T0 (mkF m 9 #[.val (.int p0), .val (.int p1), .val (.int p2), .val (.int p3)] [])
    refine X0.step (fun hA hx hq t_ k_ => XS.iloadN hA hx rfl (hb hq d8_9) rfl k_) ?_
    show OFin _ _ _ _ _ _ _ _ T0 (mkF m 10 #[.val (.int p0), .val (.int p1), .val (.int p2), .val (.int p3)] [(.int p0)])
    exact X0.retI d8_10 (by decide) (by decide) (⟨by unfold own_best; rw [if_pos k1], rfl⟩)
  · refine X0.step (fun hA hx hq t_ k_ => XS.ifNo hA hx rfl (hb hq d8_1) rfl ((if0 _ _).trans (feq (k1)).1) k_) ?_
    show OFin _ _ _ _ _ _ _ _ T0 (mkF m 4 #[.val (.int p0), .val (.int p1), .val (.int p2), .val (.int p3)] [])
    refine X0.step (fun hA hx hq t_ k_ => XS.iloadN hA hx rfl (hb hq d8_4) rfl k_) ?_
    show OFin _ _ _ _ _ _ _ _ T0 (mkF m 5 #[.val (.int p0), .val (.int p1), .val (.int p2), .val (.int p3)] [(.int p2)])
    refine X0.step (fun hA hx hq t_ k_ => XS.iloadN hA hx rfl (hb hq d8_5) rfl k_) ?_
    show OFin _ _ _ _ _ _ _ _ T0 (mkF m 6 #[.val (.int p0), .val (.int p1), .val (.int p2), .val (.int p3)] [(.int p3), (.int p2)])
    by_cases k2 : p2 < p3
    · refine X0.step (fun hA hx hq t_ k_ => XS.icmpNo hA hx rfl (hb hq d8_6) rfl (tlt (k2)).2.1 k_) ?_
      show OFin _ _ _ _ _ _ _ _ T0 (mkF m 9 #[.val (.int p0), .val (.int p1), .val (.int p2), .val (.int p3)] [])
      refine X0.step (fun hA hx hq t_ k_ => XS.iloadN hA hx rfl (hb hq d8_9) rfl k_) ?_
      show OFin _ _ _ _ _ _ _ _ T0 (mkF m 10 #[.val (.int p0), .val (.int p1), .val (.int p2), .val (.int p3)] [(.int p0)])
      exact X0.retI d8_10 (by decide) (by decide) (⟨by unfold own_best; rw [if_neg k1, if_pos k2], rfl⟩)
    · refine X0.step (fun hA hx hq t_ k_ => XS.icmpYes hA hx rfl (pc0 := 6) (pc' := 11) rfl (hb hq d8_6) rfl (flt (k2)).2.1 (by decide) (by decide) k_) ?_
      show OFin _ _ _ _ _ _ _ _ T0 (mkF m 11 #[.val (.int p0), .val (.int p1), .val (.int p2), .val (.int p3)] [])
      refine X0.step (fun hA hx hq t_ k_ => XS.iloadN hA hx rfl (hb hq d8_11) rfl k_) ?_
      show OFin _ _ _ _ _ _ _ _ T0 (mkF m 12 #[.val (.int p0), .val (.int p1), .val (.int p2), .val (.int p3)] [(.int p0)])
      refine X0.step (fun hA hx hq t_ k_ => XS.iconst hA hx rfl (hb hq d8_12) k_) ?_
      show OFin _ _ _ _ _ _ _ _ T0 (mkF m 13 #[.val (.int p0), .val (.int p1), .val (.int p2), .val (.int p3)] [(.int (-1 : Int32)), (.int p0)])
      by_cases k3 : p0 = (-1 : Int32)
      · refine X0.step (fun hA hx hq t_ k_ => XS.icmpYes hA hx rfl (pc0 := 13) (pc' := 21) rfl (hb hq d8_13) rfl (teq (k3)).1 (by decide) (by decide) k_) ?_
        show OFin _ _ _ _ _ _ _ _ T0 (mkF m 21 #[.val (.int p0), .val (.int p1), .val (.int p2), .val (.int p3)] [])
        refine X0.step (fun hA hx hq t_ k_ => XS.iloadN hA hx rfl (hb hq d8_21) rfl k_) ?_
        show OFin _ _ _ _ _ _ _ _ T0 (mkF m 22 #[.val (.int p0), .val (.int p1), .val (.int p2), .val (.int p3)] [(.int p2)])
        exact X0.retI d8_22 (by decide) (by decide) (⟨by unfold own_best; rw [if_neg k1, if_neg k2, if_pos k3], rfl⟩)
      · refine X0.step (fun hA hx hq t_ k_ => XS.icmpNo hA hx rfl (hb hq d8_13) rfl (feq (k3)).1 k_) ?_
        show OFin _ _ _ _ _ _ _ _ T0 (mkF m 16 #[.val (.int p0), .val (.int p1), .val (.int p2), .val (.int p3)] [])
        refine X0.step (fun hA hx hq t_ k_ => XS.iloadN hA hx rfl (hb hq d8_16) rfl k_) ?_
        show OFin _ _ _ _ _ _ _ _ T0 (mkF m 17 #[.val (.int p0), .val (.int p1), .val (.int p2), .val (.int p3)] [(.int p2)])
        refine X0.step (fun hA hx hq t_ k_ => XS.iloadN hA hx rfl (hb hq d8_17) rfl k_) ?_
        show OFin _ _ _ _ _ _ _ _ T0 (mkF m 18 #[.val (.int p0), .val (.int p1), .val (.int p2), .val (.int p3)] [(.int p0), (.int p2)])
        by_cases k4 : p2 < p0
        · refine X0.step (fun hA hx hq t_ k_ => XS.icmpNo hA hx rfl (hb hq d8_18) rfl (tlt (k4)).2.1 k_) ?_
          show OFin _ _ _ _ _ _ _ _ T0 (mkF m 21 #[.val (.int p0), .val (.int p1), .val (.int p2), .val (.int p3)] [])
          refine X0.step (fun hA hx hq t_ k_ => XS.iloadN hA hx rfl (hb hq d8_21) rfl k_) ?_
          show OFin _ _ _ _ _ _ _ _ T0 (mkF m 22 #[.val (.int p0), .val (.int p1), .val (.int p2), .val (.int p3)] [(.int p2)])
          exact X0.retI d8_22 (by decide) (by decide) (⟨by unfold own_best; rw [if_neg k1, if_neg k2, if_neg k3, if_pos k4], rfl⟩)
        · refine X0.step (fun hA hx hq t_ k_ => XS.icmpYes hA hx rfl (pc0 := 18) (pc' := 23) rfl (hb hq d8_18) rfl (flt (k4)).2.1 (by decide) (by decide) k_) ?_
          show OFin _ _ _ _ _ _ _ _ T0 (mkF m 23 #[.val (.int p0), .val (.int p1), .val (.int p2), .val (.int p3)] [])
          refine X0.step (fun hA hx hq t_ k_ => XS.iloadN hA hx rfl (hb hq d8_23) rfl k_) ?_
          show OFin _ _ _ _ _ _ _ _ T0 (mkF m 24 #[.val (.int p0), .val (.int p1), .val (.int p2), .val (.int p3)] [(.int p0)])
          exact X0.retI d8_24 (by decide) (by decide) (⟨by unfold own_best; rw [if_neg k1, if_neg k2, if_neg k3, if_neg k4], rfl⟩)
theorem d7_0 : decode method_3_code 0 = .ok (.iconst (-1), 1) := by decide +kernel
theorem d7_1 : decode method_3_code 1 = .ok (.istore 7, 2) := by decide +kernel
theorem d7_3 : decode method_3_code 3 = .ok (.iload 7, 2) := by decide +kernel
theorem d7_5 : decode method_3_code 5 = .ok (.iload_n 0, 1) := by decide +kernel
theorem d7_6 : decode method_3_code 6 = .ok (.iload_n 1, 1) := by decide +kernel
theorem d7_7 : decode method_3_code 7 = .ok (.iload 6, 2) := by decide +kernel
theorem d7_9 : decode method_3_code 9 = .ok (.invokestatic 7, 3) := by decide +kernel
theorem pd_pIZIIr_I : parseMethodDescriptor "(IZII)I" = some ⟨[.int, .boolean, .int, .int], some .int⟩ := by decide +kernel
theorem d7_12 : decode method_3_code 12 = .ok (.istore 7, 2) := by decide +kernel
theorem d7_14 : decode method_3_code 14 = .ok (.iload 7, 2) := by decide +kernel
theorem d7_16 : decode method_3_code 16 = .ok (.iload_n 2, 1) := by decide +kernel
theorem d7_17 : decode method_3_code 17 = .ok (.iload_n 3, 1) := by decide +kernel
theorem d7_18 : decode method_3_code 18 = .ok (.iload 6, 2) := by decide +kernel
theorem d7_20 : decode method_3_code 20 = .ok (.invokestatic 7, 3) := by decide +kernel
theorem d7_23 : decode method_3_code 23 = .ok (.istore 7, 2) := by decide +kernel
theorem d7_25 : decode method_3_code 25 = .ok (.iload 7, 2) := by decide +kernel
theorem d7_27 : decode method_3_code 27 = .ok (.iload 4, 2) := by decide +kernel
theorem d7_29 : decode method_3_code 29 = .ok (.iload 5, 2) := by decide +kernel
theorem d7_31 : decode method_3_code 31 = .ok (.iload 6, 2) := by decide +kernel
theorem d7_33 : decode method_3_code 33 = .ok (.invokestatic 7, 3) := by decide +kernel
theorem d7_36 : decode method_3_code 36 = .ok (.istore 7, 2) := by decide +kernel
theorem d7_38 : decode method_3_code 38 = .ok (.iload 7, 2) := by decide +kernel
theorem d7_40 : decode method_3_code 40 = .ok (.ireturn, 1) := by decide +kernel
set_option maxRecDepth 65536 in
set_option maxHeartbeats 40000000 in
theorem rm11 (l : Launch) (Z : State) (a0 : Array Value) (hw : ∀ d ∈ tables_1, d.before a0 Z = true) (iA a iB b iC c_ f : Int32) (h0 : Heap) (n0 : Nat)  :
    OMeets l Z (⟨"com/example/interleave/interleave/NodeSetRemovePinLaw", "ref", "(ZIZIZII)I"⟩ : MethodName) [] method_3_code 8 (some .int) ({ frames := 1, cells := 0, slots := 0, locals := 15 } : Room) #[(.int iA), (.int a), (.int iB), (.int b), (.int iC), (.int c_), (.int f)] h0 n0 (fun v h => h0 = h ∧ ∃ g, v = some (.int g) ∧ g = own_ref iA a iB b iC c_ f) := by
  refine o_enter (Z := Z) (plainFor_of_name pn_com_example_interleave_interleave_NodeSetRemovePinLaw) ?_
  intro p e s m below meth c T0 X0
  refine OFin.cast (g' := (mkF m 0 #[.val (.int iA), .val (.int a), .val (.int iB), .val (.int b), .val (.int iC), .val (.int c_), .val (.int f), .unset] [])) (by first | (simp [entryFrame, mkF, argsToLocals, Value.category]; done) | rfl) ?_
  refine X0.step (fun hA hx hq t_ k_ => XS.iconst hA hx rfl (hb hq d7_0) k_) ?_
  show OFin _ _ _ _ _ _ _ _ T0 (mkF m 1 #[.val (.int iA), .val (.int a), .val (.int iB), .val (.int b), .val (.int iC), .val (.int c_), .val (.int f), .unset] [(.int (-1 : Int32))])
  refine X0.step (fun hA hx hq t_ k_ => XS.istore hA hx rfl (hb hq d7_1) rfl (l' := #[.val (.int iA), .val (.int a), .val (.int iB), .val (.int b), .val (.int iC), .val (.int c_), .val (.int f), .val (.int (-1 : Int32))]) rfl k_) ?_
  show OFin _ _ _ _ _ _ _ _ T0 (mkF m 3 #[.val (.int iA), .val (.int a), .val (.int iB), .val (.int b), .val (.int iC), .val (.int c_), .val (.int f), .val (.int (-1 : Int32))] [])
  refine X0.step (fun hA hx hq t_ k_ => XS.iload hA hx rfl (hb hq d7_3) rfl k_) ?_
  show OFin _ _ _ _ _ _ _ _ T0 (mkF m 5 #[.val (.int iA), .val (.int a), .val (.int iB), .val (.int b), .val (.int iC), .val (.int c_), .val (.int f), .val (.int (-1 : Int32))] [(.int (-1 : Int32))])
  refine X0.step (fun hA hx hq t_ k_ => XS.iloadN hA hx rfl (hb hq d7_5) rfl k_) ?_
  show OFin _ _ _ _ _ _ _ _ T0 (mkF m 6 #[.val (.int iA), .val (.int a), .val (.int iB), .val (.int b), .val (.int iC), .val (.int c_), .val (.int f), .val (.int (-1 : Int32))] [(.int iA), (.int (-1 : Int32))])
  refine X0.step (fun hA hx hq t_ k_ => XS.iloadN hA hx rfl (hb hq d7_6) rfl k_) ?_
  show OFin _ _ _ _ _ _ _ _ T0 (mkF m 7 #[.val (.int iA), .val (.int a), .val (.int iB), .val (.int b), .val (.int iC), .val (.int c_), .val (.int f), .val (.int (-1 : Int32))] [(.int a), (.int iA), (.int (-1 : Int32))])
  refine X0.step (fun hA hx hq t_ k_ => XS.iload hA hx rfl (hb hq d7_7) rfl k_) ?_
  show OFin _ _ _ _ _ _ _ _ T0 (mkF m 9 #[.val (.int iA), .val (.int a), .val (.int iB), .val (.int b), .val (.int iC), .val (.int c_), .val (.int f), .val (.int (-1 : Int32))] [(.int f), (.int a), (.int iA), (.int (-1 : Int32))])
  refine X0.callS (y' := (⟨"com/example/interleave/interleave/NodeSetRemovePinLaw", "best", "(IZII)I"⟩ : MethodName)) (hw _ (List.mem_of_getElem? (i := 39) rfl)) (hw _ (List.mem_of_getElem? (i := 40) rfl)) (hw _ (List.mem_of_getElem? (i := 37) rfl)) (hw _ (List.mem_of_getElem? (i := 41) rfl)) (by decide) (argsL := [(.int (-1 : Int32)), (.int iA), (.int a), (.int f)]) (rest := []) (rm10 l Z a0 hw (-1 : Int32) iA a f h0 n0) (g := (mkF m 9 #[.val (.int iA), .val (.int a), .val (.int iB), .val (.int b), .val (.int iC), .val (.int c_), .val (.int f), .val (.int (-1 : Int32))] [(.int f), (.int a), (.int iA), (.int (-1 : Int32))])) rfl rfl pd_pIZIIr_I rfl rfl (W := 0) (by show 2 * 0 + _ ≤ _; exact Nat.le_of_eq rfl) d7_9 (by decide) (by decide) (by decide) (by decide) ?_
  intro v1 T1 h1 X1 q1
  obtain ⟨rfl, rfl⟩ := q1
  show OFin _ _ _ _ _ _ _ _ T1 (mkF m 12 #[.val (.int iA), .val (.int a), .val (.int iB), .val (.int b), .val (.int iC), .val (.int c_), .val (.int f), .val (.int (-1 : Int32))] [(.int (own_best (-1 : Int32) iA a f))])
  refine X1.step (fun hA hx hq t_ k_ => XS.istore hA hx rfl (hb hq d7_12) rfl (l' := #[.val (.int iA), .val (.int a), .val (.int iB), .val (.int b), .val (.int iC), .val (.int c_), .val (.int f), .val (.int (own_best (-1 : Int32) iA a f))]) rfl k_) ?_
  show OFin _ _ _ _ _ _ _ _ T1 (mkF m 14 #[.val (.int iA), .val (.int a), .val (.int iB), .val (.int b), .val (.int iC), .val (.int c_), .val (.int f), .val (.int (own_best (-1 : Int32) iA a f))] [])
  refine X1.step (fun hA hx hq t_ k_ => XS.iload hA hx rfl (hb hq d7_14) rfl k_) ?_
  show OFin _ _ _ _ _ _ _ _ T1 (mkF m 16 #[.val (.int iA), .val (.int a), .val (.int iB), .val (.int b), .val (.int iC), .val (.int c_), .val (.int f), .val (.int (own_best (-1 : Int32) iA a f))] [(.int (own_best (-1 : Int32) iA a f))])
  refine X1.step (fun hA hx hq t_ k_ => XS.iloadN hA hx rfl (hb hq d7_16) rfl k_) ?_
  show OFin _ _ _ _ _ _ _ _ T1 (mkF m 17 #[.val (.int iA), .val (.int a), .val (.int iB), .val (.int b), .val (.int iC), .val (.int c_), .val (.int f), .val (.int (own_best (-1 : Int32) iA a f))] [(.int iB), (.int (own_best (-1 : Int32) iA a f))])
  refine X1.step (fun hA hx hq t_ k_ => XS.iloadN hA hx rfl (hb hq d7_17) rfl k_) ?_
  show OFin _ _ _ _ _ _ _ _ T1 (mkF m 18 #[.val (.int iA), .val (.int a), .val (.int iB), .val (.int b), .val (.int iC), .val (.int c_), .val (.int f), .val (.int (own_best (-1 : Int32) iA a f))] [(.int b), (.int iB), (.int (own_best (-1 : Int32) iA a f))])
  refine X1.step (fun hA hx hq t_ k_ => XS.iload hA hx rfl (hb hq d7_18) rfl k_) ?_
  show OFin _ _ _ _ _ _ _ _ T1 (mkF m 20 #[.val (.int iA), .val (.int a), .val (.int iB), .val (.int b), .val (.int iC), .val (.int c_), .val (.int f), .val (.int (own_best (-1 : Int32) iA a f))] [(.int f), (.int b), (.int iB), (.int (own_best (-1 : Int32) iA a f))])
  refine X1.callS (y' := (⟨"com/example/interleave/interleave/NodeSetRemovePinLaw", "best", "(IZII)I"⟩ : MethodName)) (hw _ (List.mem_of_getElem? (i := 39) rfl)) (hw _ (List.mem_of_getElem? (i := 40) rfl)) (hw _ (List.mem_of_getElem? (i := 37) rfl)) (hw _ (List.mem_of_getElem? (i := 41) rfl)) (by decide) (argsL := [(.int (own_best (-1 : Int32) iA a f)), (.int iB), (.int b), (.int f)]) (rest := []) (rm10 l Z a0 hw (own_best (-1 : Int32) iA a f) iB b f h0 n0) (g := (mkF m 20 #[.val (.int iA), .val (.int a), .val (.int iB), .val (.int b), .val (.int iC), .val (.int c_), .val (.int f), .val (.int (own_best (-1 : Int32) iA a f))] [(.int f), (.int b), (.int iB), (.int (own_best (-1 : Int32) iA a f))])) rfl rfl pd_pIZIIr_I rfl rfl (W := 0) (by show 2 * 0 + _ ≤ _; exact Nat.le_of_eq rfl) d7_20 (by decide) (by decide) (by decide) (by decide) ?_
  intro v2 T2 h2 X2 q2
  obtain ⟨rfl, rfl⟩ := q2
  show OFin _ _ _ _ _ _ _ _ T2 (mkF m 23 #[.val (.int iA), .val (.int a), .val (.int iB), .val (.int b), .val (.int iC), .val (.int c_), .val (.int f), .val (.int (own_best (-1 : Int32) iA a f))] [(.int (own_best (own_best (-1 : Int32) iA a f) iB b f))])
  refine X2.step (fun hA hx hq t_ k_ => XS.istore hA hx rfl (hb hq d7_23) rfl (l' := #[.val (.int iA), .val (.int a), .val (.int iB), .val (.int b), .val (.int iC), .val (.int c_), .val (.int f), .val (.int (own_best (own_best (-1 : Int32) iA a f) iB b f))]) rfl k_) ?_
  show OFin _ _ _ _ _ _ _ _ T2 (mkF m 25 #[.val (.int iA), .val (.int a), .val (.int iB), .val (.int b), .val (.int iC), .val (.int c_), .val (.int f), .val (.int (own_best (own_best (-1 : Int32) iA a f) iB b f))] [])
  refine X2.step (fun hA hx hq t_ k_ => XS.iload hA hx rfl (hb hq d7_25) rfl k_) ?_
  show OFin _ _ _ _ _ _ _ _ T2 (mkF m 27 #[.val (.int iA), .val (.int a), .val (.int iB), .val (.int b), .val (.int iC), .val (.int c_), .val (.int f), .val (.int (own_best (own_best (-1 : Int32) iA a f) iB b f))] [(.int (own_best (own_best (-1 : Int32) iA a f) iB b f))])
  refine X2.step (fun hA hx hq t_ k_ => XS.iload hA hx rfl (hb hq d7_27) rfl k_) ?_
  show OFin _ _ _ _ _ _ _ _ T2 (mkF m 29 #[.val (.int iA), .val (.int a), .val (.int iB), .val (.int b), .val (.int iC), .val (.int c_), .val (.int f), .val (.int (own_best (own_best (-1 : Int32) iA a f) iB b f))] [(.int iC), (.int (own_best (own_best (-1 : Int32) iA a f) iB b f))])
  refine X2.step (fun hA hx hq t_ k_ => XS.iload hA hx rfl (hb hq d7_29) rfl k_) ?_
  show OFin _ _ _ _ _ _ _ _ T2 (mkF m 31 #[.val (.int iA), .val (.int a), .val (.int iB), .val (.int b), .val (.int iC), .val (.int c_), .val (.int f), .val (.int (own_best (own_best (-1 : Int32) iA a f) iB b f))] [(.int c_), (.int iC), (.int (own_best (own_best (-1 : Int32) iA a f) iB b f))])
  refine X2.step (fun hA hx hq t_ k_ => XS.iload hA hx rfl (hb hq d7_31) rfl k_) ?_
  show OFin _ _ _ _ _ _ _ _ T2 (mkF m 33 #[.val (.int iA), .val (.int a), .val (.int iB), .val (.int b), .val (.int iC), .val (.int c_), .val (.int f), .val (.int (own_best (own_best (-1 : Int32) iA a f) iB b f))] [(.int f), (.int c_), (.int iC), (.int (own_best (own_best (-1 : Int32) iA a f) iB b f))])
  refine X2.callS (y' := (⟨"com/example/interleave/interleave/NodeSetRemovePinLaw", "best", "(IZII)I"⟩ : MethodName)) (hw _ (List.mem_of_getElem? (i := 39) rfl)) (hw _ (List.mem_of_getElem? (i := 40) rfl)) (hw _ (List.mem_of_getElem? (i := 37) rfl)) (hw _ (List.mem_of_getElem? (i := 41) rfl)) (by decide) (argsL := [(.int (own_best (own_best (-1 : Int32) iA a f) iB b f)), (.int iC), (.int c_), (.int f)]) (rest := []) (rm10 l Z a0 hw (own_best (own_best (-1 : Int32) iA a f) iB b f) iC c_ f h0 n0) (g := (mkF m 33 #[.val (.int iA), .val (.int a), .val (.int iB), .val (.int b), .val (.int iC), .val (.int c_), .val (.int f), .val (.int (own_best (own_best (-1 : Int32) iA a f) iB b f))] [(.int f), (.int c_), (.int iC), (.int (own_best (own_best (-1 : Int32) iA a f) iB b f))])) rfl rfl pd_pIZIIr_I rfl rfl (W := 0) (by show 2 * 0 + _ ≤ _; exact Nat.le_of_eq rfl) d7_33 (by decide) (by decide) (by decide) (by decide) ?_
  intro v3 T3 h3 X3 q3
  obtain ⟨rfl, rfl⟩ := q3
  show OFin _ _ _ _ _ _ _ _ T3 (mkF m 36 #[.val (.int iA), .val (.int a), .val (.int iB), .val (.int b), .val (.int iC), .val (.int c_), .val (.int f), .val (.int (own_best (own_best (-1 : Int32) iA a f) iB b f))] [(.int (own_best (own_best (own_best (-1 : Int32) iA a f) iB b f) iC c_ f))])
  refine X3.step (fun hA hx hq t_ k_ => XS.istore hA hx rfl (hb hq d7_36) rfl (l' := #[.val (.int iA), .val (.int a), .val (.int iB), .val (.int b), .val (.int iC), .val (.int c_), .val (.int f), .val (.int (own_best (own_best (own_best (-1 : Int32) iA a f) iB b f) iC c_ f))]) rfl k_) ?_
  show OFin _ _ _ _ _ _ _ _ T3 (mkF m 38 #[.val (.int iA), .val (.int a), .val (.int iB), .val (.int b), .val (.int iC), .val (.int c_), .val (.int f), .val (.int (own_best (own_best (own_best (-1 : Int32) iA a f) iB b f) iC c_ f))] [])
  refine X3.step (fun hA hx hq t_ k_ => XS.iload hA hx rfl (hb hq d7_38) rfl k_) ?_
  show OFin _ _ _ _ _ _ _ _ T3 (mkF m 40 #[.val (.int iA), .val (.int a), .val (.int iB), .val (.int b), .val (.int iC), .val (.int c_), .val (.int f), .val (.int (own_best (own_best (own_best (-1 : Int32) iA a f) iB b f) iC c_ f))] [(.int (own_best (own_best (own_best (-1 : Int32) iA a f) iB b f) iC c_ f))])
  exact X3.retI d7_40 (by decide) (by decide) (⟨rfl, _, rfl, rfl⟩)
theorem pd_pIr_V : parseMethodDescriptor "(I)V" = some ⟨[.int], none⟩ := by decide +kernel
theorem pd_pr_Z : parseMethodDescriptor "()Z" = some ⟨[], some .boolean⟩ := by decide +kernel
theorem pd_pZIZIZIIr_I : parseMethodDescriptor "(ZIZIZII)I" = some ⟨[.boolean, .int, .boolean, .int, .boolean, .int, .int], some .int⟩ := by decide +kernel
set_option maxRecDepth 65536 in
set_option maxHeartbeats 40000000 in
theorem rm0 (l : Launch) (Z : State) (a0 : Array Value) (hw : ∀ d ∈ tables_1, d.before a0 Z = true) (ws : List Jvm.Cond) (p0 p1 p2 p3 p4 p5 : Int32) (h0 : Heap) (n0 : Nat) (Z0 : n0 ≤ h0.size) :
    OMeets l Z x ws code maxLocals ret room_1 #[(.int p0), (.int p1), (.int p2), (.int p3), (.int p4), (.int p5)] h0 n0 (fun v h => v = some (.int 1)) := by
  refine o_enter (Z := Z) (plainFor_of_name pn_com_example_interleave_interleave_NodeSetRemovePinLaw) ?_
  intro p e s m below meth c T0 X0
  refine OFin.cast (g' := (mkF m 0 #[.val (.int p0), .val (.int p1), .val (.int p2), .val (.int p3), .val (.int p4), .val (.int p5), .unset, .unset, .unset, .unset, .unset, .unset, .unset, .unset, .unset, .unset, .unset, .unset, .unset, .unset, .unset, .unset, .unset] [])) (by first | (simp [entryFrame, mkF, argsToLocals, Value.category, maxLocals]; done) | rfl) ?_
  obtain ⟨n, hn0, hn1, en⟩ := own_n p0
  obtain ⟨a, ha, ea⟩ := own_remI p1 n hn0 (by omega)
  obtain ⟨f, hf, ef⟩ := own_remI p5 (n + 1) (by omega) (by omega)
  have jD : ∀ (b c_ d : Nat) (sel : Int32) (T : State), b < n → c_ < n → d < n → OAt n0 Z x code maxLocals ret p l e room_1 s m #[(.int p0), (.int p1), (.int p2), (.int p3), (.int p4), (.int p5)] below meth c T h0 0 0 → OFin n0 p e s below (fun v h => v = some (.int 1)) room_1.cells room_1.slots T (mkF m 120 #[.val (.int p0), .val (.int p1), .val (.int p2), .val (.int p3), .val (.int p4), .val (.int p5), .val (.int (Int32.ofNat n)), .val (.int (Int32.ofNat a)), .val (.int (Int32.ofNat b)), .val (.int (Int32.ofNat c_)), .val (.int sel), .val (.int (Int32.ofNat d)), .unset, .unset, .unset, .unset, .unset, .unset, .unset, .unset, .unset, .unset, .unset] []) := by
    intro b c_ d sel T ltb hc hd X
    refine X.step (fun hA hx hq t_ k_ => XS.iload hA hx rfl (hb hq at_120) rfl k_) ?_
    show OFin _ _ _ _ _ _ _ _ T (mkF m 122 #[.val (.int p0), .val (.int p1), .val (.int p2), .val (.int p3), .val (.int p4), .val (.int p5), .val (.int (Int32.ofNat n)), .val (.int (Int32.ofNat a)), .val (.int (Int32.ofNat b)), .val (.int (Int32.ofNat c_)), .val (.int sel), .val (.int (Int32.ofNat d)), .unset, .unset, .unset, .unset, .unset, .unset, .unset, .unset, .unset, .unset, .unset] [(.int p5)])
    refine X.ldcI (hw _ (List.mem_of_getElem? (i := 1) rfl)) (g := (mkF m 122 #[.val (.int p0), .val (.int p1), .val (.int p2), .val (.int p3), .val (.int p4), .val (.int p5), .val (.int (Int32.ofNat n)), .val (.int (Int32.ofNat a)), .val (.int (Int32.ofNat b)), .val (.int (Int32.ofNat c_)), .val (.int sel), .val (.int (Int32.ofNat d)), .unset, .unset, .unset, .unset, .unset, .unset, .unset, .unset, .unset, .unset, .unset] [(.int p5)])) rfl at_122 ?_
    show OFin _ _ _ _ _ _ _ _ T (mkF m 124 #[.val (.int p0), .val (.int p1), .val (.int p2), .val (.int p3), .val (.int p4), .val (.int p5), .val (.int (Int32.ofNat n)), .val (.int (Int32.ofNat a)), .val (.int (Int32.ofNat b)), .val (.int (Int32.ofNat c_)), .val (.int sel), .val (.int (Int32.ofNat d)), .unset, .unset, .unset, .unset, .unset, .unset, .unset, .unset, .unset, .unset, .unset] [(.int (2147483647 : Int32)), (.int p5)])
    refine X.step (fun hA hx hq t_ k_ => XS.iand hA hx rfl (hb hq at_124) rfl k_) ?_
    show OFin _ _ _ _ _ _ _ _ T (mkF m 125 #[.val (.int p0), .val (.int p1), .val (.int p2), .val (.int p3), .val (.int p4), .val (.int p5), .val (.int (Int32.ofNat n)), .val (.int (Int32.ofNat a)), .val (.int (Int32.ofNat b)), .val (.int (Int32.ofNat c_)), .val (.int sel), .val (.int (Int32.ofNat d)), .unset, .unset, .unset, .unset, .unset, .unset, .unset, .unset, .unset, .unset, .unset] [(.int (p5 &&& (2147483647 : Int32)))])
    refine X.step (fun hA hx hq t_ k_ => XS.iload hA hx rfl (hb hq at_125) rfl k_) ?_
    show OFin _ _ _ _ _ _ _ _ T (mkF m 127 #[.val (.int p0), .val (.int p1), .val (.int p2), .val (.int p3), .val (.int p4), .val (.int p5), .val (.int (Int32.ofNat n)), .val (.int (Int32.ofNat a)), .val (.int (Int32.ofNat b)), .val (.int (Int32.ofNat c_)), .val (.int sel), .val (.int (Int32.ofNat d)), .unset, .unset, .unset, .unset, .unset, .unset, .unset, .unset, .unset, .unset, .unset] [(.int (Int32.ofNat n)), (.int (p5 &&& (2147483647 : Int32)))])
    refine X.step (fun hA hx hq t_ k_ => XS.iconst hA hx rfl (hb hq at_127) k_) ?_
    show OFin _ _ _ _ _ _ _ _ T (mkF m 128 #[.val (.int p0), .val (.int p1), .val (.int p2), .val (.int p3), .val (.int p4), .val (.int p5), .val (.int (Int32.ofNat n)), .val (.int (Int32.ofNat a)), .val (.int (Int32.ofNat b)), .val (.int (Int32.ofNat c_)), .val (.int sel), .val (.int (Int32.ofNat d)), .unset, .unset, .unset, .unset, .unset, .unset, .unset, .unset, .unset, .unset, .unset] [(.int (1 : Int32)), (.int (Int32.ofNat n)), (.int (p5 &&& (2147483647 : Int32)))])
    refine X.step (fun hA hx hq t_ k_ => XS.iadd hA hx rfl (hb hq at_128) rfl k_) ?_
    show OFin _ _ _ _ _ _ _ _ T (mkF m 129 #[.val (.int p0), .val (.int p1), .val (.int p2), .val (.int p3), .val (.int p4), .val (.int p5), .val (.int (Int32.ofNat n)), .val (.int (Int32.ofNat a)), .val (.int (Int32.ofNat b)), .val (.int (Int32.ofNat c_)), .val (.int sel), .val (.int (Int32.ofNat d)), .unset, .unset, .unset, .unset, .unset, .unset, .unset, .unset, .unset, .unset, .unset] [(.int ((Int32.ofNat n) + (1 : Int32))), (.int (p5 &&& (2147483647 : Int32)))])
    rw [own_succ n (by omega)]
    show OFin _ _ _ _ _ _ _ _ T (mkF m 129 #[.val (.int p0), .val (.int p1), .val (.int p2), .val (.int p3), .val (.int p4), .val (.int p5), .val (.int (Int32.ofNat n)), .val (.int (Int32.ofNat a)), .val (.int (Int32.ofNat b)), .val (.int (Int32.ofNat c_)), .val (.int sel), .val (.int (Int32.ofNat d)), .unset, .unset, .unset, .unset, .unset, .unset, .unset, .unset, .unset, .unset, .unset] [(.int (Int32.ofNat (n + 1))), (.int (p5 &&& (2147483647 : Int32)))])
    refine X.irem (g := (mkF m 129 #[.val (.int p0), .val (.int p1), .val (.int p2), .val (.int p3), .val (.int p4), .val (.int p5), .val (.int (Int32.ofNat n)), .val (.int (Int32.ofNat a)), .val (.int (Int32.ofNat b)), .val (.int (Int32.ofNat c_)), .val (.int sel), .val (.int (Int32.ofNat d)), .unset, .unset, .unset, .unset, .unset, .unset, .unset, .unset, .unset, .unset, .unset] [(.int (Int32.ofNat (n + 1))), (.int (p5 &&& (2147483647 : Int32)))])) rfl at_129 rfl (own_nz (n + 1) (by omega) (by omega)) ?_
    show OFin _ _ _ _ _ _ _ _ T (mkF m 130 #[.val (.int p0), .val (.int p1), .val (.int p2), .val (.int p3), .val (.int p4), .val (.int p5), .val (.int (Int32.ofNat n)), .val (.int (Int32.ofNat a)), .val (.int (Int32.ofNat b)), .val (.int (Int32.ofNat c_)), .val (.int sel), .val (.int (Int32.ofNat d)), .unset, .unset, .unset, .unset, .unset, .unset, .unset, .unset, .unset, .unset, .unset] [(.int ((p5 &&& (2147483647 : Int32)) % (Int32.ofNat (n + 1))))])
    rw [ef]
    show OFin _ _ _ _ _ _ _ _ T (mkF m 130 #[.val (.int p0), .val (.int p1), .val (.int p2), .val (.int p3), .val (.int p4), .val (.int p5), .val (.int (Int32.ofNat n)), .val (.int (Int32.ofNat a)), .val (.int (Int32.ofNat b)), .val (.int (Int32.ofNat c_)), .val (.int sel), .val (.int (Int32.ofNat d)), .unset, .unset, .unset, .unset, .unset, .unset, .unset, .unset, .unset, .unset, .unset] [(.int (Int32.ofNat f))])
    refine X.step (fun hA hx hq t_ k_ => XS.istore hA hx rfl (hb hq at_130) rfl (l' := #[.val (.int p0), .val (.int p1), .val (.int p2), .val (.int p3), .val (.int p4), .val (.int p5), .val (.int (Int32.ofNat n)), .val (.int (Int32.ofNat a)), .val (.int (Int32.ofNat b)), .val (.int (Int32.ofNat c_)), .val (.int sel), .val (.int (Int32.ofNat d)), .val (.int (Int32.ofNat f)), .unset, .unset, .unset, .unset, .unset, .unset, .unset, .unset, .unset, .unset]) rfl k_) ?_
    show OFin _ _ _ _ _ _ _ _ T (mkF m 132 #[.val (.int p0), .val (.int p1), .val (.int p2), .val (.int p3), .val (.int p4), .val (.int p5), .val (.int (Int32.ofNat n)), .val (.int (Int32.ofNat a)), .val (.int (Int32.ofNat b)), .val (.int (Int32.ofNat c_)), .val (.int sel), .val (.int (Int32.ofNat d)), .val (.int (Int32.ofNat f)), .unset, .unset, .unset, .unset, .unset, .unset, .unset, .unset, .unset, .unset] [])
    refine X.newO (hw _ (List.mem_of_getElem? (i := 2) rfl)) (hw _ (List.mem_of_getElem? (i := 3) rfl)) (hw _ (List.mem_of_getElem? (i := 4) rfl)) (g := (mkF m 132 #[.val (.int p0), .val (.int p1), .val (.int p2), .val (.int p3), .val (.int p4), .val (.int p5), .val (.int (Int32.ofNat n)), .val (.int (Int32.ofNat a)), .val (.int (Int32.ofNat b)), .val (.int (Int32.ofNat c_)), .val (.int sel), .val (.int (Int32.ofNat d)), .val (.int (Int32.ofNat f)), .unset, .unset, .unset, .unset, .unset, .unset, .unset, .unset, .unset, .unset] [])) rfl at_132 (by decide) (by decide) ?_
    intro T1 h1 b1 gb1 X1 E1 A1 D1
    show OFin _ _ _ _ _ _ _ _ T1 (mkF m 135 #[.val (.int p0), .val (.int p1), .val (.int p2), .val (.int p3), .val (.int p4), .val (.int p5), .val (.int (Int32.ofNat n)), .val (.int (Int32.ofNat a)), .val (.int (Int32.ofNat b)), .val (.int (Int32.ofNat c_)), .val (.int sel), .val (.int (Int32.ofNat d)), .val (.int (Int32.ofNat f)), .unset, .unset, .unset, .unset, .unset, .unset, .unset, .unset, .unset, .unset] [(.ref b1)])
    have F0 : Fld Z h1 b1 "com/example/interleave/interleave/NodeSet" "levels" "[[J" .null := D1 (Or.inr (hw _ (List.mem_of_getElem? (i := 21) rfl))) (ty := (.array (.array .long))) (by decide)
    refine X1.step (fun hA hx hq t_ k_ => XS.dup hA hx rfl (hb hq at_135) rfl rfl k_) ?_
    show OFin _ _ _ _ _ _ _ _ T1 (mkF m 136 #[.val (.int p0), .val (.int p1), .val (.int p2), .val (.int p3), .val (.int p4), .val (.int p5), .val (.int (Int32.ofNat n)), .val (.int (Int32.ofNat a)), .val (.int (Int32.ofNat b)), .val (.int (Int32.ofNat c_)), .val (.int sel), .val (.int (Int32.ofNat d)), .val (.int (Int32.ofNat f)), .unset, .unset, .unset, .unset, .unset, .unset, .unset, .unset, .unset, .unset] [(.ref b1), (.ref b1)])
    refine X1.step (fun hA hx hq t_ k_ => XS.iload hA hx rfl (hb hq at_136) rfl k_) ?_
    show OFin _ _ _ _ _ _ _ _ T1 (mkF m 138 #[.val (.int p0), .val (.int p1), .val (.int p2), .val (.int p3), .val (.int p4), .val (.int p5), .val (.int (Int32.ofNat n)), .val (.int (Int32.ofNat a)), .val (.int (Int32.ofNat b)), .val (.int (Int32.ofNat c_)), .val (.int sel), .val (.int (Int32.ofNat d)), .val (.int (Int32.ofNat f)), .unset, .unset, .unset, .unset, .unset, .unset, .unset, .unset, .unset, .unset] [(.int (Int32.ofNat n)), (.ref b1), (.ref b1)])
    refine X1.callI (y' := (⟨"com/example/interleave/interleave/NodeSet", "<init>", "(I)V"⟩ : MethodName)) rfl (hw _ (List.mem_of_getElem? (i := 5) rfl)) (hw _ (List.mem_of_getElem? (i := 6) rfl)) (hw _ (List.mem_of_getElem? (i := 4) rfl)) (hw _ (List.mem_of_getElem? (i := 7) rfl)) (by decide) (a := b1) (argsL := [(.int (Int32.ofNat n))]) (rest := [(.ref b1)]) (rm3 l Z a0 hw b1 n h1 n0 F0 A1 (by rw [gb1]; exact Z0) hn0 (by omega) (Nat.le_trans Z0 E1.1)) (g := (mkF m 138 #[.val (.int p0), .val (.int p1), .val (.int p2), .val (.int p3), .val (.int p4), .val (.int p5), .val (.int (Int32.ofNat n)), .val (.int (Int32.ofNat a)), .val (.int (Int32.ofNat b)), .val (.int (Int32.ofNat c_)), .val (.int sel), .val (.int (Int32.ofNat d)), .val (.int (Int32.ofNat f)), .unset, .unset, .unset, .unset, .unset, .unset, .unset, .unset, .unset, .unset] [(.int (Int32.ofNat n)), (.ref b1), (.ref b1)])) rfl rfl pd_pIr_V rfl rfl (W := 1) (by show 2 * 0 + _ ≤ _; exact Nat.le_of_eq rfl) at_138 (by decide) (by decide) (by decide) (by decide) ?_
    intro v2 T2 h2 X2 q2
    obtain ⟨rfl, K2, lv, L, ad, N, D0, hN⟩ := q2
    show OFin _ _ _ _ _ _ _ _ T2 (mkF m 141 #[.val (.int p0), .val (.int p1), .val (.int p2), .val (.int p3), .val (.int p4), .val (.int p5), .val (.int (Int32.ofNat n)), .val (.int (Int32.ofNat a)), .val (.int (Int32.ofNat b)), .val (.int (Int32.ofNat c_)), .val (.int sel), .val (.int (Int32.ofNat d)), .val (.int (Int32.ofNat f)), .unset, .unset, .unset, .unset, .unset, .unset, .unset, .unset, .unset, .unset] [(.ref b1)])
    have hS0 : ∀ s, (fun _ : Nat => False) s → s < n := fun s q => q.elim
    refine X2.step (fun hA hx hq t_ k_ => XS.astore hA hx rfl (hb hq at_141) rfl rfl (l' := #[.val (.int p0), .val (.int p1), .val (.int p2), .val (.int p3), .val (.int p4), .val (.int p5), .val (.int (Int32.ofNat n)), .val (.int (Int32.ofNat a)), .val (.int (Int32.ofNat b)), .val (.int (Int32.ofNat c_)), .val (.int sel), .val (.int (Int32.ofNat d)), .val (.int (Int32.ofNat f)), .val (.ref b1), .unset, .unset, .unset, .unset, .unset, .unset, .unset, .unset, .unset]) rfl k_) ?_
    show OFin _ _ _ _ _ _ _ _ T2 (mkF m 143 #[.val (.int p0), .val (.int p1), .val (.int p2), .val (.int p3), .val (.int p4), .val (.int p5), .val (.int (Int32.ofNat n)), .val (.int (Int32.ofNat a)), .val (.int (Int32.ofNat b)), .val (.int (Int32.ofNat c_)), .val (.int sel), .val (.int (Int32.ofNat d)), .val (.int (Int32.ofNat f)), .val (.ref b1), .unset, .unset, .unset, .unset, .unset, .unset, .unset, .unset, .unset] [])
    refine X2.step (fun hA hx hq t_ k_ => XS.aload hA hx rfl (hb hq at_143) rfl rfl k_) ?_
    show OFin _ _ _ _ _ _ _ _ T2 (mkF m 145 #[.val (.int p0), .val (.int p1), .val (.int p2), .val (.int p3), .val (.int p4), .val (.int p5), .val (.int (Int32.ofNat n)), .val (.int (Int32.ofNat a)), .val (.int (Int32.ofNat b)), .val (.int (Int32.ofNat c_)), .val (.int sel), .val (.int (Int32.ofNat d)), .val (.int (Int32.ofNat f)), .val (.ref b1), .unset, .unset, .unset, .unset, .unset, .unset, .unset, .unset, .unset] [(.ref b1)])
    refine X2.step (fun hA hx hq t_ k_ => XS.iload hA hx rfl (hb hq at_145) rfl k_) ?_
    show OFin _ _ _ _ _ _ _ _ T2 (mkF m 147 #[.val (.int p0), .val (.int p1), .val (.int p2), .val (.int p3), .val (.int p4), .val (.int p5), .val (.int (Int32.ofNat n)), .val (.int (Int32.ofNat a)), .val (.int (Int32.ofNat b)), .val (.int (Int32.ofNat c_)), .val (.int sel), .val (.int (Int32.ofNat d)), .val (.int (Int32.ofNat f)), .val (.ref b1), .unset, .unset, .unset, .unset, .unset, .unset, .unset, .unset, .unset] [(.int (Int32.ofNat a)), (.ref b1)])
    refine X2.callV (y' := (⟨"com/example/interleave/interleave/NodeSet", "add", "(I)V"⟩ : MethodName)) (z' := (⟨"com/example/interleave/interleave/NodeSet", "add", "(I)V"⟩ : MethodName)) (hw _ (List.mem_of_getElem? (i := 24) rfl)) (hw _ (List.mem_of_getElem? (i := 25) rfl)) (X2.notFace (hw _ (List.mem_of_getElem? (i := 27) rfl)) rfl) (hw _ (List.mem_of_getElem? (i := 27) rfl)) (hw _ (List.mem_of_getElem? (i := 26) rfl)) (hw _ (List.mem_of_getElem? (i := 4) rfl)) (hw _ (List.mem_of_getElem? (i := 28) rfl)) (by decide) (D0.choose_spec.1.1) (argsL := [(.int (Int32.ofNat a))]) (rest := []) (rm4 l Z a0 hw b1 lv L ad N (fun _ => False) n a h2 n0 D0 hN hS0 hn1 ha) (g := (mkF m 147 #[.val (.int p0), .val (.int p1), .val (.int p2), .val (.int p3), .val (.int p4), .val (.int p5), .val (.int (Int32.ofNat n)), .val (.int (Int32.ofNat a)), .val (.int (Int32.ofNat b)), .val (.int (Int32.ofNat c_)), .val (.int sel), .val (.int (Int32.ofNat d)), .val (.int (Int32.ofNat f)), .val (.ref b1), .unset, .unset, .unset, .unset, .unset, .unset, .unset, .unset, .unset] [(.int (Int32.ofNat a)), (.ref b1)])) rfl rfl pd_pIr_V rfl rfl (W := 0) (by show 2 * 0 + _ ≤ _; exact Nat.le_of_eq rfl) at_147 (by decide) (by decide) (by decide) (by decide) ?_
    intro v3 T3 h3 X3 q3
    obtain ⟨rfl, Ds1⟩ := q3
    show OFin _ _ _ _ _ _ _ _ T3 (mkF m 150 #[.val (.int p0), .val (.int p1), .val (.int p2), .val (.int p3), .val (.int p4), .val (.int p5), .val (.int (Int32.ofNat n)), .val (.int (Int32.ofNat a)), .val (.int (Int32.ofNat b)), .val (.int (Int32.ofNat c_)), .val (.int sel), .val (.int (Int32.ofNat d)), .val (.int (Int32.ofNat f)), .val (.ref b1), .unset, .unset, .unset, .unset, .unset, .unset, .unset, .unset, .unset] [])
    have hS1 : ∀ s, (fun s => (fun _ => False) s ∨ s = a) s → s < n := fun s q => q.elim (hS0 s) (fun e => e ▸ ha)
    refine X3.step (fun hA hx hq t_ k_ => XS.aload hA hx rfl (hb hq at_150) rfl rfl k_) ?_
    show OFin _ _ _ _ _ _ _ _ T3 (mkF m 152 #[.val (.int p0), .val (.int p1), .val (.int p2), .val (.int p3), .val (.int p4), .val (.int p5), .val (.int (Int32.ofNat n)), .val (.int (Int32.ofNat a)), .val (.int (Int32.ofNat b)), .val (.int (Int32.ofNat c_)), .val (.int sel), .val (.int (Int32.ofNat d)), .val (.int (Int32.ofNat f)), .val (.ref b1), .unset, .unset, .unset, .unset, .unset, .unset, .unset, .unset, .unset] [(.ref b1)])
    refine X3.step (fun hA hx hq t_ k_ => XS.iload hA hx rfl (hb hq at_152) rfl k_) ?_
    show OFin _ _ _ _ _ _ _ _ T3 (mkF m 154 #[.val (.int p0), .val (.int p1), .val (.int p2), .val (.int p3), .val (.int p4), .val (.int p5), .val (.int (Int32.ofNat n)), .val (.int (Int32.ofNat a)), .val (.int (Int32.ofNat b)), .val (.int (Int32.ofNat c_)), .val (.int sel), .val (.int (Int32.ofNat d)), .val (.int (Int32.ofNat f)), .val (.ref b1), .unset, .unset, .unset, .unset, .unset, .unset, .unset, .unset, .unset] [(.int (Int32.ofNat b)), (.ref b1)])
    refine X3.callV (y' := (⟨"com/example/interleave/interleave/NodeSet", "add", "(I)V"⟩ : MethodName)) (z' := (⟨"com/example/interleave/interleave/NodeSet", "add", "(I)V"⟩ : MethodName)) (hw _ (List.mem_of_getElem? (i := 24) rfl)) (hw _ (List.mem_of_getElem? (i := 25) rfl)) (X3.notFace (hw _ (List.mem_of_getElem? (i := 27) rfl)) rfl) (hw _ (List.mem_of_getElem? (i := 27) rfl)) (hw _ (List.mem_of_getElem? (i := 26) rfl)) (hw _ (List.mem_of_getElem? (i := 4) rfl)) (hw _ (List.mem_of_getElem? (i := 28) rfl)) (by decide) (Ds1.choose_spec.1.1) (argsL := [(.int (Int32.ofNat b))]) (rest := []) (rm4 l Z a0 hw b1 lv L ad N (fun s => (fun _ => False) s ∨ s = a) n b h3 n0 Ds1 hN hS1 hn1 ltb) (g := (mkF m 154 #[.val (.int p0), .val (.int p1), .val (.int p2), .val (.int p3), .val (.int p4), .val (.int p5), .val (.int (Int32.ofNat n)), .val (.int (Int32.ofNat a)), .val (.int (Int32.ofNat b)), .val (.int (Int32.ofNat c_)), .val (.int sel), .val (.int (Int32.ofNat d)), .val (.int (Int32.ofNat f)), .val (.ref b1), .unset, .unset, .unset, .unset, .unset, .unset, .unset, .unset, .unset] [(.int (Int32.ofNat b)), (.ref b1)])) rfl rfl pd_pIr_V rfl rfl (W := 0) (by show 2 * 0 + _ ≤ _; exact Nat.le_of_eq rfl) at_154 (by decide) (by decide) (by decide) (by decide) ?_
    intro v4 T4 h4 X4 q4
    obtain ⟨rfl, Ds2⟩ := q4
    show OFin _ _ _ _ _ _ _ _ T4 (mkF m 157 #[.val (.int p0), .val (.int p1), .val (.int p2), .val (.int p3), .val (.int p4), .val (.int p5), .val (.int (Int32.ofNat n)), .val (.int (Int32.ofNat a)), .val (.int (Int32.ofNat b)), .val (.int (Int32.ofNat c_)), .val (.int sel), .val (.int (Int32.ofNat d)), .val (.int (Int32.ofNat f)), .val (.ref b1), .unset, .unset, .unset, .unset, .unset, .unset, .unset, .unset, .unset] [])
    have hS2 : ∀ s, (fun s => (fun s => (fun _ => False) s ∨ s = a) s ∨ s = b) s → s < n := fun s q => q.elim (hS1 s) (fun e => e ▸ ltb)
    refine X4.step (fun hA hx hq t_ k_ => XS.aload hA hx rfl (hb hq at_157) rfl rfl k_) ?_
    show OFin _ _ _ _ _ _ _ _ T4 (mkF m 159 #[.val (.int p0), .val (.int p1), .val (.int p2), .val (.int p3), .val (.int p4), .val (.int p5), .val (.int (Int32.ofNat n)), .val (.int (Int32.ofNat a)), .val (.int (Int32.ofNat b)), .val (.int (Int32.ofNat c_)), .val (.int sel), .val (.int (Int32.ofNat d)), .val (.int (Int32.ofNat f)), .val (.ref b1), .unset, .unset, .unset, .unset, .unset, .unset, .unset, .unset, .unset] [(.ref b1)])
    refine X4.step (fun hA hx hq t_ k_ => XS.iload hA hx rfl (hb hq at_159) rfl k_) ?_
    show OFin _ _ _ _ _ _ _ _ T4 (mkF m 161 #[.val (.int p0), .val (.int p1), .val (.int p2), .val (.int p3), .val (.int p4), .val (.int p5), .val (.int (Int32.ofNat n)), .val (.int (Int32.ofNat a)), .val (.int (Int32.ofNat b)), .val (.int (Int32.ofNat c_)), .val (.int sel), .val (.int (Int32.ofNat d)), .val (.int (Int32.ofNat f)), .val (.ref b1), .unset, .unset, .unset, .unset, .unset, .unset, .unset, .unset, .unset] [(.int (Int32.ofNat c_)), (.ref b1)])
    refine X4.callV (y' := (⟨"com/example/interleave/interleave/NodeSet", "add", "(I)V"⟩ : MethodName)) (z' := (⟨"com/example/interleave/interleave/NodeSet", "add", "(I)V"⟩ : MethodName)) (hw _ (List.mem_of_getElem? (i := 24) rfl)) (hw _ (List.mem_of_getElem? (i := 25) rfl)) (X4.notFace (hw _ (List.mem_of_getElem? (i := 27) rfl)) rfl) (hw _ (List.mem_of_getElem? (i := 27) rfl)) (hw _ (List.mem_of_getElem? (i := 26) rfl)) (hw _ (List.mem_of_getElem? (i := 4) rfl)) (hw _ (List.mem_of_getElem? (i := 28) rfl)) (by decide) (Ds2.choose_spec.1.1) (argsL := [(.int (Int32.ofNat c_))]) (rest := []) (rm4 l Z a0 hw b1 lv L ad N (fun s => (fun s => (fun _ => False) s ∨ s = a) s ∨ s = b) n c_ h4 n0 Ds2 hN hS2 hn1 hc) (g := (mkF m 161 #[.val (.int p0), .val (.int p1), .val (.int p2), .val (.int p3), .val (.int p4), .val (.int p5), .val (.int (Int32.ofNat n)), .val (.int (Int32.ofNat a)), .val (.int (Int32.ofNat b)), .val (.int (Int32.ofNat c_)), .val (.int sel), .val (.int (Int32.ofNat d)), .val (.int (Int32.ofNat f)), .val (.ref b1), .unset, .unset, .unset, .unset, .unset, .unset, .unset, .unset, .unset] [(.int (Int32.ofNat c_)), (.ref b1)])) rfl rfl pd_pIr_V rfl rfl (W := 0) (by show 2 * 0 + _ ≤ _; exact Nat.le_of_eq rfl) at_161 (by decide) (by decide) (by decide) (by decide) ?_
    intro v5 T5 h5 X5 q5
    obtain ⟨rfl, Ds3⟩ := q5
    show OFin _ _ _ _ _ _ _ _ T5 (mkF m 164 #[.val (.int p0), .val (.int p1), .val (.int p2), .val (.int p3), .val (.int p4), .val (.int p5), .val (.int (Int32.ofNat n)), .val (.int (Int32.ofNat a)), .val (.int (Int32.ofNat b)), .val (.int (Int32.ofNat c_)), .val (.int sel), .val (.int (Int32.ofNat d)), .val (.int (Int32.ofNat f)), .val (.ref b1), .unset, .unset, .unset, .unset, .unset, .unset, .unset, .unset, .unset] [])
    have hS3 : ∀ s, (fun s => (fun s => (fun s => (fun _ => False) s ∨ s = a) s ∨ s = b) s ∨ s = c_) s → s < n := fun s q => q.elim (hS2 s) (fun e => e ▸ hc)
    refine X5.step (fun hA hx hq t_ k_ => XS.aload hA hx rfl (hb hq at_164) rfl rfl k_) ?_
    show OFin _ _ _ _ _ _ _ _ T5 (mkF m 166 #[.val (.int p0), .val (.int p1), .val (.int p2), .val (.int p3), .val (.int p4), .val (.int p5), .val (.int (Int32.ofNat n)), .val (.int (Int32.ofNat a)), .val (.int (Int32.ofNat b)), .val (.int (Int32.ofNat c_)), .val (.int sel), .val (.int (Int32.ofNat d)), .val (.int (Int32.ofNat f)), .val (.ref b1), .unset, .unset, .unset, .unset, .unset, .unset, .unset, .unset, .unset] [(.ref b1)])
    refine X5.step (fun hA hx hq t_ k_ => XS.iload hA hx rfl (hb hq at_166) rfl k_) ?_
    show OFin _ _ _ _ _ _ _ _ T5 (mkF m 168 #[.val (.int p0), .val (.int p1), .val (.int p2), .val (.int p3), .val (.int p4), .val (.int p5), .val (.int (Int32.ofNat n)), .val (.int (Int32.ofNat a)), .val (.int (Int32.ofNat b)), .val (.int (Int32.ofNat c_)), .val (.int sel), .val (.int (Int32.ofNat d)), .val (.int (Int32.ofNat f)), .val (.ref b1), .unset, .unset, .unset, .unset, .unset, .unset, .unset, .unset, .unset] [(.int (Int32.ofNat d)), (.ref b1)])
    refine X5.callV (y' := (⟨"com/example/interleave/interleave/NodeSet", "remove", "(I)V"⟩ : MethodName)) (z' := (⟨"com/example/interleave/interleave/NodeSet", "remove", "(I)V"⟩ : MethodName)) (hw _ (List.mem_of_getElem? (i := 29) rfl)) (hw _ (List.mem_of_getElem? (i := 30) rfl)) (X5.notFace (hw _ (List.mem_of_getElem? (i := 32) rfl)) rfl) (hw _ (List.mem_of_getElem? (i := 32) rfl)) (hw _ (List.mem_of_getElem? (i := 31) rfl)) (hw _ (List.mem_of_getElem? (i := 4) rfl)) (hw _ (List.mem_of_getElem? (i := 33) rfl)) (by decide) (Ds3.choose_spec.1.1) (argsL := [(.int (Int32.ofNat d))]) (rest := []) (rm5 l Z a0 hw b1 lv L ad N (fun s => (fun s => (fun s => (fun _ => False) s ∨ s = a) s ∨ s = b) s ∨ s = c_) n d h5 n0 Ds3 hN hS3 hn1 hd) (g := (mkF m 168 #[.val (.int p0), .val (.int p1), .val (.int p2), .val (.int p3), .val (.int p4), .val (.int p5), .val (.int (Int32.ofNat n)), .val (.int (Int32.ofNat a)), .val (.int (Int32.ofNat b)), .val (.int (Int32.ofNat c_)), .val (.int sel), .val (.int (Int32.ofNat d)), .val (.int (Int32.ofNat f)), .val (.ref b1), .unset, .unset, .unset, .unset, .unset, .unset, .unset, .unset, .unset] [(.int (Int32.ofNat d)), (.ref b1)])) rfl rfl pd_pIr_V rfl rfl (W := 0) (by show 2 * 0 + _ ≤ _; exact Nat.le_of_eq rfl) at_168 (by decide) (by decide) (by decide) (by decide) ?_
    intro v6 T6 h6 X6 q6
    obtain ⟨rfl, Dr⟩ := q6
    show OFin _ _ _ _ _ _ _ _ T6 (mkF m 171 #[.val (.int p0), .val (.int p1), .val (.int p2), .val (.int p3), .val (.int p4), .val (.int p5), .val (.int (Int32.ofNat n)), .val (.int (Int32.ofNat a)), .val (.int (Int32.ofNat b)), .val (.int (Int32.ofNat c_)), .val (.int sel), .val (.int (Int32.ofNat d)), .val (.int (Int32.ofNat f)), .val (.ref b1), .unset, .unset, .unset, .unset, .unset, .unset, .unset, .unset, .unset] [])
    have Dq : OS Z h6 n0 b1 lv L ad N (fun s => (((False ∨ s = a) ∨ s = b) ∨ s = c_) ∧ s ≠ d) := Dr
    have hS4 : ∀ s, (fun s => (((False ∨ s = a) ∨ s = b) ∨ s = c_) ∧ s ≠ d) s → s < n := fun s q => hS3 s q.1
    have EQ := Dq.choose_spec.1.1
    have jE : ∀ (iA iB iC R1 R2 ee : Int32) (T : State), OMin (fun s => (((False ∨ s = a) ∨ s = b) ∨ s = c_) ∧ s ≠ d) f R1 → OMin (fun s => (((False ∨ s = a) ∨ s = b) ∨ s = c_) ∧ s ≠ d) 0 R2 → ((ee = 1 ∧ a = d ∧ b = d ∧ c_ = d) ∨ (ee = 0 ∧ (a ≠ d ∨ b ≠ d ∨ c_ ≠ d))) → OAt n0 Z x code maxLocals ret p l e room_1 s m #[(.int p0), (.int p1), (.int p2), (.int p3), (.int p4), (.int p5)] below meth c T h6 8 16391 → OFin n0 p e s below (fun v h => v = some (.int 1)) room_1.cells room_1.slots T (mkF m 272 #[.val (.int p0), .val (.int p1), .val (.int p2), .val (.int p3), .val (.int p4), .val (.int p5), .val (.int (Int32.ofNat n)), .val (.int (Int32.ofNat a)), .val (.int (Int32.ofNat b)), .val (.int (Int32.ofNat c_)), .val (.int sel), .val (.int (Int32.ofNat d)), .val (.int (Int32.ofNat f)), .val (.ref b1), .val (.int iA), .val (.int iB), .val (.int iC), .val (.int R1), .val (.int R2), .val (.int ee), .unset, .unset, .unset] []) := by
      intro iA iB iC R1 R2 ee T o1 o2 he X
      refine X.step (fun hA hx hq t_ k_ => XS.aload hA hx rfl (hb hq at_272) rfl rfl k_) ?_
      show OFin _ _ _ _ _ _ _ _ T (mkF m 274 #[.val (.int p0), .val (.int p1), .val (.int p2), .val (.int p3), .val (.int p4), .val (.int p5), .val (.int (Int32.ofNat n)), .val (.int (Int32.ofNat a)), .val (.int (Int32.ofNat b)), .val (.int (Int32.ofNat c_)), .val (.int sel), .val (.int (Int32.ofNat d)), .val (.int (Int32.ofNat f)), .val (.ref b1), .val (.int iA), .val (.int iB), .val (.int iC), .val (.int R1), .val (.int R2), .val (.int ee), .unset, .unset, .unset] [(.ref b1)])
      refine X.step (fun hA hx hq t_ k_ => XS.iload hA hx rfl (hb hq at_274) rfl k_) ?_
      show OFin _ _ _ _ _ _ _ _ T (mkF m 276 #[.val (.int p0), .val (.int p1), .val (.int p2), .val (.int p3), .val (.int p4), .val (.int p5), .val (.int (Int32.ofNat n)), .val (.int (Int32.ofNat a)), .val (.int (Int32.ofNat b)), .val (.int (Int32.ofNat c_)), .val (.int sel), .val (.int (Int32.ofNat d)), .val (.int (Int32.ofNat f)), .val (.ref b1), .val (.int iA), .val (.int iB), .val (.int iC), .val (.int R1), .val (.int R2), .val (.int ee), .unset, .unset, .unset] [(.int (Int32.ofNat f)), (.ref b1)])
      refine X.callV (y' := (⟨"com/example/interleave/interleave/NodeSet", "next", "(I)I"⟩ : MethodName)) (z' := (⟨"com/example/interleave/interleave/NodeSet", "next", "(I)I"⟩ : MethodName)) (hw _ (List.mem_of_getElem? (i := 42) rfl)) (hw _ (List.mem_of_getElem? (i := 43) rfl)) (X.notFace (hw _ (List.mem_of_getElem? (i := 45) rfl)) rfl) (hw _ (List.mem_of_getElem? (i := 45) rfl)) (hw _ (List.mem_of_getElem? (i := 44) rfl)) (hw _ (List.mem_of_getElem? (i := 4) rfl)) (hw _ (List.mem_of_getElem? (i := 46) rfl)) (by decide) EQ (argsL := [(.int (Int32.ofNat f))]) (rest := []) (rm9 l Z a0 hw b1 lv L ad N (fun s => (((False ∨ s = a) ∨ s = b) ∨ s = c_) ∧ s ≠ d) n f h6 n0 Dq hN hS4 hn1 (by omega)) (g := (mkF m 276 #[.val (.int p0), .val (.int p1), .val (.int p2), .val (.int p3), .val (.int p4), .val (.int p5), .val (.int (Int32.ofNat n)), .val (.int (Int32.ofNat a)), .val (.int (Int32.ofNat b)), .val (.int (Int32.ofNat c_)), .val (.int sel), .val (.int (Int32.ofNat d)), .val (.int (Int32.ofNat f)), .val (.ref b1), .val (.int iA), .val (.int iB), .val (.int iC), .val (.int R1), .val (.int R2), .val (.int ee), .unset, .unset, .unset] [(.int (Int32.ofNat f)), (.ref b1)])) rfl rfl pd_pIr_I rfl rfl (W := 0) (by show 2 * 0 + _ ≤ _; exact Nat.le_of_eq rfl) at_276 (by decide) (by decide) (by decide) (by decide) ?_
      intro v7 T7 h7 X7 q7
      obtain ⟨rfl, g1, rfl, m1⟩ := q7
      show OFin _ _ _ _ _ _ _ _ T7 (mkF m 279 #[.val (.int p0), .val (.int p1), .val (.int p2), .val (.int p3), .val (.int p4), .val (.int p5), .val (.int (Int32.ofNat n)), .val (.int (Int32.ofNat a)), .val (.int (Int32.ofNat b)), .val (.int (Int32.ofNat c_)), .val (.int sel), .val (.int (Int32.ofNat d)), .val (.int (Int32.ofNat f)), .val (.ref b1), .val (.int iA), .val (.int iB), .val (.int iC), .val (.int R1), .val (.int R2), .val (.int ee), .unset, .unset, .unset] [(.int g1)])
      refine X7.step (fun hA hx hq t_ k_ => XS.istore hA hx rfl (hb hq at_279) rfl (l' := #[.val (.int p0), .val (.int p1), .val (.int p2), .val (.int p3), .val (.int p4), .val (.int p5), .val (.int (Int32.ofNat n)), .val (.int (Int32.ofNat a)), .val (.int (Int32.ofNat b)), .val (.int (Int32.ofNat c_)), .val (.int sel), .val (.int (Int32.ofNat d)), .val (.int (Int32.ofNat f)), .val (.ref b1), .val (.int iA), .val (.int iB), .val (.int iC), .val (.int R1), .val (.int R2), .val (.int ee), .val (.int g1), .unset, .unset]) rfl k_) ?_
      show OFin _ _ _ _ _ _ _ _ T7 (mkF m 281 #[.val (.int p0), .val (.int p1), .val (.int p2), .val (.int p3), .val (.int p4), .val (.int p5), .val (.int (Int32.ofNat n)), .val (.int (Int32.ofNat a)), .val (.int (Int32.ofNat b)), .val (.int (Int32.ofNat c_)), .val (.int sel), .val (.int (Int32.ofNat d)), .val (.int (Int32.ofNat f)), .val (.ref b1), .val (.int iA), .val (.int iB), .val (.int iC), .val (.int R1), .val (.int R2), .val (.int ee), .val (.int g1), .unset, .unset] [])
      refine X7.step (fun hA hx hq t_ k_ => XS.aload hA hx rfl (hb hq at_281) rfl rfl k_) ?_
      show OFin _ _ _ _ _ _ _ _ T7 (mkF m 283 #[.val (.int p0), .val (.int p1), .val (.int p2), .val (.int p3), .val (.int p4), .val (.int p5), .val (.int (Int32.ofNat n)), .val (.int (Int32.ofNat a)), .val (.int (Int32.ofNat b)), .val (.int (Int32.ofNat c_)), .val (.int sel), .val (.int (Int32.ofNat d)), .val (.int (Int32.ofNat f)), .val (.ref b1), .val (.int iA), .val (.int iB), .val (.int iC), .val (.int R1), .val (.int R2), .val (.int ee), .val (.int g1), .unset, .unset] [(.ref b1)])
      refine X7.step (fun hA hx hq t_ k_ => XS.iconst hA hx rfl (hb hq at_283) k_) ?_
      show OFin _ _ _ _ _ _ _ _ T7 (mkF m 284 #[.val (.int p0), .val (.int p1), .val (.int p2), .val (.int p3), .val (.int p4), .val (.int p5), .val (.int (Int32.ofNat n)), .val (.int (Int32.ofNat a)), .val (.int (Int32.ofNat b)), .val (.int (Int32.ofNat c_)), .val (.int sel), .val (.int (Int32.ofNat d)), .val (.int (Int32.ofNat f)), .val (.ref b1), .val (.int iA), .val (.int iB), .val (.int iC), .val (.int R1), .val (.int R2), .val (.int ee), .val (.int g1), .unset, .unset] [(.int (0 : Int32)), (.ref b1)])
      refine X7.callV (y' := (⟨"com/example/interleave/interleave/NodeSet", "next", "(I)I"⟩ : MethodName)) (z' := (⟨"com/example/interleave/interleave/NodeSet", "next", "(I)I"⟩ : MethodName)) (hw _ (List.mem_of_getElem? (i := 42) rfl)) (hw _ (List.mem_of_getElem? (i := 43) rfl)) (X7.notFace (hw _ (List.mem_of_getElem? (i := 45) rfl)) rfl) (hw _ (List.mem_of_getElem? (i := 45) rfl)) (hw _ (List.mem_of_getElem? (i := 44) rfl)) (hw _ (List.mem_of_getElem? (i := 4) rfl)) (hw _ (List.mem_of_getElem? (i := 46) rfl)) (by decide) EQ (argsL := [(.int (0 : Int32))]) (rest := []) (rm9 l Z a0 hw b1 lv L ad N (fun s => (((False ∨ s = a) ∨ s = b) ∨ s = c_) ∧ s ≠ d) n 0 h6 n0 Dq hN hS4 hn1 (by omega)) (g := (mkF m 284 #[.val (.int p0), .val (.int p1), .val (.int p2), .val (.int p3), .val (.int p4), .val (.int p5), .val (.int (Int32.ofNat n)), .val (.int (Int32.ofNat a)), .val (.int (Int32.ofNat b)), .val (.int (Int32.ofNat c_)), .val (.int sel), .val (.int (Int32.ofNat d)), .val (.int (Int32.ofNat f)), .val (.ref b1), .val (.int iA), .val (.int iB), .val (.int iC), .val (.int R1), .val (.int R2), .val (.int ee), .val (.int g1), .unset, .unset] [(.int (0 : Int32)), (.ref b1)])) rfl rfl pd_pIr_I rfl rfl (W := 0) (by show 2 * 0 + _ ≤ _; exact Nat.le_of_eq rfl) at_284 (by decide) (by decide) (by decide) (by decide) ?_
      intro v8 T8 h8 X8 q8
      obtain ⟨rfl, g2, rfl, m2⟩ := q8
      show OFin _ _ _ _ _ _ _ _ T8 (mkF m 287 #[.val (.int p0), .val (.int p1), .val (.int p2), .val (.int p3), .val (.int p4), .val (.int p5), .val (.int (Int32.ofNat n)), .val (.int (Int32.ofNat a)), .val (.int (Int32.ofNat b)), .val (.int (Int32.ofNat c_)), .val (.int sel), .val (.int (Int32.ofNat d)), .val (.int (Int32.ofNat f)), .val (.ref b1), .val (.int iA), .val (.int iB), .val (.int iC), .val (.int R1), .val (.int R2), .val (.int ee), .val (.int g1), .unset, .unset] [(.int g2)])
      refine X8.step (fun hA hx hq t_ k_ => XS.istore hA hx rfl (hb hq at_287) rfl (l' := #[.val (.int p0), .val (.int p1), .val (.int p2), .val (.int p3), .val (.int p4), .val (.int p5), .val (.int (Int32.ofNat n)), .val (.int (Int32.ofNat a)), .val (.int (Int32.ofNat b)), .val (.int (Int32.ofNat c_)), .val (.int sel), .val (.int (Int32.ofNat d)), .val (.int (Int32.ofNat f)), .val (.ref b1), .val (.int iA), .val (.int iB), .val (.int iC), .val (.int R1), .val (.int R2), .val (.int ee), .val (.int g1), .val (.int g2), .unset]) rfl k_) ?_
      show OFin _ _ _ _ _ _ _ _ T8 (mkF m 289 #[.val (.int p0), .val (.int p1), .val (.int p2), .val (.int p3), .val (.int p4), .val (.int p5), .val (.int (Int32.ofNat n)), .val (.int (Int32.ofNat a)), .val (.int (Int32.ofNat b)), .val (.int (Int32.ofNat c_)), .val (.int sel), .val (.int (Int32.ofNat d)), .val (.int (Int32.ofNat f)), .val (.ref b1), .val (.int iA), .val (.int iB), .val (.int iC), .val (.int R1), .val (.int R2), .val (.int ee), .val (.int g1), .val (.int g2), .unset] [])
      refine X8.step (fun hA hx hq t_ k_ => XS.aload hA hx rfl (hb hq at_289) rfl rfl k_) ?_
      show OFin _ _ _ _ _ _ _ _ T8 (mkF m 291 #[.val (.int p0), .val (.int p1), .val (.int p2), .val (.int p3), .val (.int p4), .val (.int p5), .val (.int (Int32.ofNat n)), .val (.int (Int32.ofNat a)), .val (.int (Int32.ofNat b)), .val (.int (Int32.ofNat c_)), .val (.int sel), .val (.int (Int32.ofNat d)), .val (.int (Int32.ofNat f)), .val (.ref b1), .val (.int iA), .val (.int iB), .val (.int iC), .val (.int R1), .val (.int R2), .val (.int ee), .val (.int g1), .val (.int g2), .unset] [(.ref b1)])
      refine X8.callV (y' := (⟨"com/example/interleave/interleave/NodeSet", "isEmpty", "()Z"⟩ : MethodName)) (z' := (⟨"com/example/interleave/interleave/NodeSet", "isEmpty", "()Z"⟩ : MethodName)) (hw _ (List.mem_of_getElem? (i := 47) rfl)) (hw _ (List.mem_of_getElem? (i := 48) rfl)) (X8.notFace (hw _ (List.mem_of_getElem? (i := 50) rfl)) rfl) (hw _ (List.mem_of_getElem? (i := 50) rfl)) (hw _ (List.mem_of_getElem? (i := 49) rfl)) (hw _ (List.mem_of_getElem? (i := 4) rfl)) (hw _ (List.mem_of_getElem? (i := 51) rfl)) (by decide) EQ (argsL := []) (rest := []) (rm6 l Z a0 hw b1 lv L ad N (fun s => (((False ∨ s = a) ∨ s = b) ∨ s = c_) ∧ s ≠ d) n h6 n0 Dq hN hS4 hn1) (g := (mkF m 291 #[.val (.int p0), .val (.int p1), .val (.int p2), .val (.int p3), .val (.int p4), .val (.int p5), .val (.int (Int32.ofNat n)), .val (.int (Int32.ofNat a)), .val (.int (Int32.ofNat b)), .val (.int (Int32.ofNat c_)), .val (.int sel), .val (.int (Int32.ofNat d)), .val (.int (Int32.ofNat f)), .val (.ref b1), .val (.int iA), .val (.int iB), .val (.int iC), .val (.int R1), .val (.int R2), .val (.int ee), .val (.int g1), .val (.int g2), .unset] [(.ref b1)])) rfl rfl pd_pr_Z rfl rfl (W := 0) (by show 2 * 0 + _ ≤ _; exact Nat.le_of_eq rfl) at_291 (by decide) (by decide) (by decide) (by decide) ?_
      intro v9 T9 h9 X9 q9
      obtain ⟨rfl, g3, rfl, m3⟩ := q9
      show OFin _ _ _ _ _ _ _ _ T9 (mkF m 294 #[.val (.int p0), .val (.int p1), .val (.int p2), .val (.int p3), .val (.int p4), .val (.int p5), .val (.int (Int32.ofNat n)), .val (.int (Int32.ofNat a)), .val (.int (Int32.ofNat b)), .val (.int (Int32.ofNat c_)), .val (.int sel), .val (.int (Int32.ofNat d)), .val (.int (Int32.ofNat f)), .val (.ref b1), .val (.int iA), .val (.int iB), .val (.int iC), .val (.int R1), .val (.int R2), .val (.int ee), .val (.int g1), .val (.int g2), .unset] [(.int g3)])
      refine X9.step (fun hA hx hq t_ k_ => XS.istore hA hx rfl (hb hq at_294) rfl (l' := #[.val (.int p0), .val (.int p1), .val (.int p2), .val (.int p3), .val (.int p4), .val (.int p5), .val (.int (Int32.ofNat n)), .val (.int (Int32.ofNat a)), .val (.int (Int32.ofNat b)), .val (.int (Int32.ofNat c_)), .val (.int sel), .val (.int (Int32.ofNat d)), .val (.int (Int32.ofNat f)), .val (.ref b1), .val (.int iA), .val (.int iB), .val (.int iC), .val (.int R1), .val (.int R2), .val (.int ee), .val (.int g1), .val (.int g2), .val (.int g3)]) rfl k_) ?_
      show OFin _ _ _ _ _ _ _ _ T9 (mkF m 296 #[.val (.int p0), .val (.int p1), .val (.int p2), .val (.int p3), .val (.int p4), .val (.int p5), .val (.int (Int32.ofNat n)), .val (.int (Int32.ofNat a)), .val (.int (Int32.ofNat b)), .val (.int (Int32.ofNat c_)), .val (.int sel), .val (.int (Int32.ofNat d)), .val (.int (Int32.ofNat f)), .val (.ref b1), .val (.int iA), .val (.int iB), .val (.int iC), .val (.int R1), .val (.int R2), .val (.int ee), .val (.int g1), .val (.int g2), .val (.int g3)] [])
      refine X9.step (fun hA hx hq t_ k_ => XS.iload hA hx rfl (hb hq at_296) rfl k_) ?_
      show OFin _ _ _ _ _ _ _ _ T9 (mkF m 298 #[.val (.int p0), .val (.int p1), .val (.int p2), .val (.int p3), .val (.int p4), .val (.int p5), .val (.int (Int32.ofNat n)), .val (.int (Int32.ofNat a)), .val (.int (Int32.ofNat b)), .val (.int (Int32.ofNat c_)), .val (.int sel), .val (.int (Int32.ofNat d)), .val (.int (Int32.ofNat f)), .val (.ref b1), .val (.int iA), .val (.int iB), .val (.int iC), .val (.int R1), .val (.int R2), .val (.int ee), .val (.int g1), .val (.int g2), .val (.int g3)] [(.int g1)])
      refine X9.step (fun hA hx hq t_ k_ => XS.iload hA hx rfl (hb hq at_298) rfl k_) ?_
      show OFin _ _ _ _ _ _ _ _ T9 (mkF m 300 #[.val (.int p0), .val (.int p1), .val (.int p2), .val (.int p3), .val (.int p4), .val (.int p5), .val (.int (Int32.ofNat n)), .val (.int (Int32.ofNat a)), .val (.int (Int32.ofNat b)), .val (.int (Int32.ofNat c_)), .val (.int sel), .val (.int (Int32.ofNat d)), .val (.int (Int32.ofNat f)), .val (.ref b1), .val (.int iA), .val (.int iB), .val (.int iC), .val (.int R1), .val (.int R2), .val (.int ee), .val (.int g1), .val (.int g2), .val (.int g3)] [(.int R1), (.int g1)])
      refine X9.step (fun hA hx hq t_ k_ => XS.icmpNo hA hx rfl (hb hq at_300) rfl (teq (m1.unique o1)).2 k_) ?_
      show OFin _ _ _ _ _ _ _ _ T9 (mkF m 303 #[.val (.int p0), .val (.int p1), .val (.int p2), .val (.int p3), .val (.int p4), .val (.int p5), .val (.int (Int32.ofNat n)), .val (.int (Int32.ofNat a)), .val (.int (Int32.ofNat b)), .val (.int (Int32.ofNat c_)), .val (.int sel), .val (.int (Int32.ofNat d)), .val (.int (Int32.ofNat f)), .val (.ref b1), .val (.int iA), .val (.int iB), .val (.int iC), .val (.int R1), .val (.int R2), .val (.int ee), .val (.int g1), .val (.int g2), .val (.int g3)] [])
      refine X9.step (fun hA hx hq t_ k_ => XS.iload hA hx rfl (hb hq at_303) rfl k_) ?_
      show OFin _ _ _ _ _ _ _ _ T9 (mkF m 305 #[.val (.int p0), .val (.int p1), .val (.int p2), .val (.int p3), .val (.int p4), .val (.int p5), .val (.int (Int32.ofNat n)), .val (.int (Int32.ofNat a)), .val (.int (Int32.ofNat b)), .val (.int (Int32.ofNat c_)), .val (.int sel), .val (.int (Int32.ofNat d)), .val (.int (Int32.ofNat f)), .val (.ref b1), .val (.int iA), .val (.int iB), .val (.int iC), .val (.int R1), .val (.int R2), .val (.int ee), .val (.int g1), .val (.int g2), .val (.int g3)] [(.int g2)])
      refine X9.step (fun hA hx hq t_ k_ => XS.iload hA hx rfl (hb hq at_305) rfl k_) ?_
      show OFin _ _ _ _ _ _ _ _ T9 (mkF m 307 #[.val (.int p0), .val (.int p1), .val (.int p2), .val (.int p3), .val (.int p4), .val (.int p5), .val (.int (Int32.ofNat n)), .val (.int (Int32.ofNat a)), .val (.int (Int32.ofNat b)), .val (.int (Int32.ofNat c_)), .val (.int sel), .val (.int (Int32.ofNat d)), .val (.int (Int32.ofNat f)), .val (.ref b1), .val (.int iA), .val (.int iB), .val (.int iC), .val (.int R1), .val (.int R2), .val (.int ee), .val (.int g1), .val (.int g2), .val (.int g3)] [(.int R2), (.int g2)])
      refine X9.step (fun hA hx hq t_ k_ => XS.icmpNo hA hx rfl (hb hq at_307) rfl (teq (m2.unique o2)).2 k_) ?_
      show OFin _ _ _ _ _ _ _ _ T9 (mkF m 310 #[.val (.int p0), .val (.int p1), .val (.int p2), .val (.int p3), .val (.int p4), .val (.int p5), .val (.int (Int32.ofNat n)), .val (.int (Int32.ofNat a)), .val (.int (Int32.ofNat b)), .val (.int (Int32.ofNat c_)), .val (.int sel), .val (.int (Int32.ofNat d)), .val (.int (Int32.ofNat f)), .val (.ref b1), .val (.int iA), .val (.int iB), .val (.int iC), .val (.int R1), .val (.int R2), .val (.int ee), .val (.int g1), .val (.int g2), .val (.int g3)] [])
      refine X9.step (fun hA hx hq t_ k_ => XS.iload hA hx rfl (hb hq at_310) rfl k_) ?_
      show OFin _ _ _ _ _ _ _ _ T9 (mkF m 312 #[.val (.int p0), .val (.int p1), .val (.int p2), .val (.int p3), .val (.int p4), .val (.int p5), .val (.int (Int32.ofNat n)), .val (.int (Int32.ofNat a)), .val (.int (Int32.ofNat b)), .val (.int (Int32.ofNat c_)), .val (.int sel), .val (.int (Int32.ofNat d)), .val (.int (Int32.ofNat f)), .val (.ref b1), .val (.int iA), .val (.int iB), .val (.int iC), .val (.int R1), .val (.int R2), .val (.int ee), .val (.int g1), .val (.int g2), .val (.int g3)] [(.int g3)])
      refine X9.step (fun hA hx hq t_ k_ => XS.iload hA hx rfl (hb hq at_312) rfl k_) ?_
      show OFin _ _ _ _ _ _ _ _ T9 (mkF m 314 #[.val (.int p0), .val (.int p1), .val (.int p2), .val (.int p3), .val (.int p4), .val (.int p5), .val (.int (Int32.ofNat n)), .val (.int (Int32.ofNat a)), .val (.int (Int32.ofNat b)), .val (.int (Int32.ofNat c_)), .val (.int sel), .val (.int (Int32.ofNat d)), .val (.int (Int32.ofNat f)), .val (.ref b1), .val (.int iA), .val (.int iB), .val (.int iC), .val (.int R1), .val (.int R2), .val (.int ee), .val (.int g1), .val (.int g2), .val (.int g3)] [(.int ee), (.int g3)])
      have e3 : g3 = ee := by
        rcases m3 with ⟨rfl, no⟩ | ⟨rfl, s, hs, hsd⟩ <;> rcases he with ⟨rfl, q1, q2, q3⟩ | ⟨rfl, q⟩
        · rfl
        · rcases q with q | q | q
          · exact (no a ⟨Or.inl (Or.inl (Or.inr rfl)), q⟩).elim
          · exact (no b ⟨Or.inl (Or.inr rfl), q⟩).elim
          · exact (no c_ ⟨Or.inr rfl, q⟩).elim
        · exfalso
          rcases hs with ((hs | hs) | hs) | hs
          · exact hs
          all_goals omega
        · rfl
      refine X9.step (fun hA hx hq t_ k_ => XS.icmpNo hA hx rfl (hb hq at_314) rfl (teq (e3)).2 k_) ?_
      show OFin _ _ _ _ _ _ _ _ T9 (mkF m 317 #[.val (.int p0), .val (.int p1), .val (.int p2), .val (.int p3), .val (.int p4), .val (.int p5), .val (.int (Int32.ofNat n)), .val (.int (Int32.ofNat a)), .val (.int (Int32.ofNat b)), .val (.int (Int32.ofNat c_)), .val (.int sel), .val (.int (Int32.ofNat d)), .val (.int (Int32.ofNat f)), .val (.ref b1), .val (.int iA), .val (.int iB), .val (.int iC), .val (.int R1), .val (.int R2), .val (.int ee), .val (.int g1), .val (.int g2), .val (.int g3)] [])
      refine X9.step (fun hA hx hq t_ k_ => XS.iconst hA hx rfl (hb hq at_317) k_) ?_
      show OFin _ _ _ _ _ _ _ _ T9 (mkF m 318 #[.val (.int p0), .val (.int p1), .val (.int p2), .val (.int p3), .val (.int p4), .val (.int p5), .val (.int (Int32.ofNat n)), .val (.int (Int32.ofNat a)), .val (.int (Int32.ofNat b)), .val (.int (Int32.ofNat c_)), .val (.int sel), .val (.int (Int32.ofNat d)), .val (.int (Int32.ofNat f)), .val (.ref b1), .val (.int iA), .val (.int iB), .val (.int iC), .val (.int R1), .val (.int R2), .val (.int ee), .val (.int g1), .val (.int g2), .val (.int g3)] [(.int (1 : Int32))])
      refine X9.step (fun hA hx hq t_ k_ => XS.goto hA hx rfl (pc0 := 318) (pc' := 322) rfl (hb hq at_318) (by decide) (by decide) k_) ?_
      show OFin _ _ _ _ _ _ _ _ T9 (mkF m 322 #[.val (.int p0), .val (.int p1), .val (.int p2), .val (.int p3), .val (.int p4), .val (.int p5), .val (.int (Int32.ofNat n)), .val (.int (Int32.ofNat a)), .val (.int (Int32.ofNat b)), .val (.int (Int32.ofNat c_)), .val (.int sel), .val (.int (Int32.ofNat d)), .val (.int (Int32.ofNat f)), .val (.ref b1), .val (.int iA), .val (.int iB), .val (.int iC), .val (.int R1), .val (.int R2), .val (.int ee), .val (.int g1), .val (.int g2), .val (.int g3)] [(.int (1 : Int32))])
      exact X9.retN (by simp) at_322 (by decide) (by decide) (rfl)
    have jF : ∀ (iA iB iC : Int32) (T : State), (¬ iA = 0 ↔ a ≠ d) → (¬ iB = 0 ↔ b ≠ d) → (¬ iC = 0 ↔ c_ ≠ d) → OAt n0 Z x code maxLocals ret p l e room_1 s m #[(.int p0), (.int p1), (.int p2), (.int p3), (.int p4), (.int p5)] below meth c T h6 8 16391 → OFin n0 p e s below (fun v h => v = some (.int 1)) room_1.cells room_1.slots T (mkF m 213 #[.val (.int p0), .val (.int p1), .val (.int p2), .val (.int p3), .val (.int p4), .val (.int p5), .val (.int (Int32.ofNat n)), .val (.int (Int32.ofNat a)), .val (.int (Int32.ofNat b)), .val (.int (Int32.ofNat c_)), .val (.int sel), .val (.int (Int32.ofNat d)), .val (.int (Int32.ofNat f)), .val (.ref b1), .val (.int iA), .val (.int iB), .val (.int iC), .unset, .unset, .unset, .unset, .unset, .unset] []) := by
      intro iA iB iC T i0 i1 i2 X
      refine X.step (fun hA hx hq t_ k_ => XS.iload hA hx rfl (hb hq at_213) rfl k_) ?_
      show OFin _ _ _ _ _ _ _ _ T (mkF m 215 #[.val (.int p0), .val (.int p1), .val (.int p2), .val (.int p3), .val (.int p4), .val (.int p5), .val (.int (Int32.ofNat n)), .val (.int (Int32.ofNat a)), .val (.int (Int32.ofNat b)), .val (.int (Int32.ofNat c_)), .val (.int sel), .val (.int (Int32.ofNat d)), .val (.int (Int32.ofNat f)), .val (.ref b1), .val (.int iA), .val (.int iB), .val (.int iC), .unset, .unset, .unset, .unset, .unset, .unset] [(.int iA)])
      refine X.step (fun hA hx hq t_ k_ => XS.iload hA hx rfl (hb hq at_215) rfl k_) ?_
      show OFin _ _ _ _ _ _ _ _ T (mkF m 217 #[.val (.int p0), .val (.int p1), .val (.int p2), .val (.int p3), .val (.int p4), .val (.int p5), .val (.int (Int32.ofNat n)), .val (.int (Int32.ofNat a)), .val (.int (Int32.ofNat b)), .val (.int (Int32.ofNat c_)), .val (.int sel), .val (.int (Int32.ofNat d)), .val (.int (Int32.ofNat f)), .val (.ref b1), .val (.int iA), .val (.int iB), .val (.int iC), .unset, .unset, .unset, .unset, .unset, .unset] [(.int (Int32.ofNat a)), (.int iA)])
      refine X.step (fun hA hx hq t_ k_ => XS.iload hA hx rfl (hb hq at_217) rfl k_) ?_
      show OFin _ _ _ _ _ _ _ _ T (mkF m 219 #[.val (.int p0), .val (.int p1), .val (.int p2), .val (.int p3), .val (.int p4), .val (.int p5), .val (.int (Int32.ofNat n)), .val (.int (Int32.ofNat a)), .val (.int (Int32.ofNat b)), .val (.int (Int32.ofNat c_)), .val (.int sel), .val (.int (Int32.ofNat d)), .val (.int (Int32.ofNat f)), .val (.ref b1), .val (.int iA), .val (.int iB), .val (.int iC), .unset, .unset, .unset, .unset, .unset, .unset] [(.int iB), (.int (Int32.ofNat a)), (.int iA)])
      refine X.step (fun hA hx hq t_ k_ => XS.iload hA hx rfl (hb hq at_219) rfl k_) ?_
      show OFin _ _ _ _ _ _ _ _ T (mkF m 221 #[.val (.int p0), .val (.int p1), .val (.int p2), .val (.int p3), .val (.int p4), .val (.int p5), .val (.int (Int32.ofNat n)), .val (.int (Int32.ofNat a)), .val (.int (Int32.ofNat b)), .val (.int (Int32.ofNat c_)), .val (.int sel), .val (.int (Int32.ofNat d)), .val (.int (Int32.ofNat f)), .val (.ref b1), .val (.int iA), .val (.int iB), .val (.int iC), .unset, .unset, .unset, .unset, .unset, .unset] [(.int (Int32.ofNat b)), (.int iB), (.int (Int32.ofNat a)), (.int iA)])
      refine X.step (fun hA hx hq t_ k_ => XS.iload hA hx rfl (hb hq at_221) rfl k_) ?_
      show OFin _ _ _ _ _ _ _ _ T (mkF m 223 #[.val (.int p0), .val (.int p1), .val (.int p2), .val (.int p3), .val (.int p4), .val (.int p5), .val (.int (Int32.ofNat n)), .val (.int (Int32.ofNat a)), .val (.int (Int32.ofNat b)), .val (.int (Int32.ofNat c_)), .val (.int sel), .val (.int (Int32.ofNat d)), .val (.int (Int32.ofNat f)), .val (.ref b1), .val (.int iA), .val (.int iB), .val (.int iC), .unset, .unset, .unset, .unset, .unset, .unset] [(.int iC), (.int (Int32.ofNat b)), (.int iB), (.int (Int32.ofNat a)), (.int iA)])
      refine X.step (fun hA hx hq t_ k_ => XS.iload hA hx rfl (hb hq at_223) rfl k_) ?_
      show OFin _ _ _ _ _ _ _ _ T (mkF m 225 #[.val (.int p0), .val (.int p1), .val (.int p2), .val (.int p3), .val (.int p4), .val (.int p5), .val (.int (Int32.ofNat n)), .val (.int (Int32.ofNat a)), .val (.int (Int32.ofNat b)), .val (.int (Int32.ofNat c_)), .val (.int sel), .val (.int (Int32.ofNat d)), .val (.int (Int32.ofNat f)), .val (.ref b1), .val (.int iA), .val (.int iB), .val (.int iC), .unset, .unset, .unset, .unset, .unset, .unset] [(.int (Int32.ofNat c_)), (.int iC), (.int (Int32.ofNat b)), (.int iB), (.int (Int32.ofNat a)), (.int iA)])
      refine X.step (fun hA hx hq t_ k_ => XS.iload hA hx rfl (hb hq at_225) rfl k_) ?_
      show OFin _ _ _ _ _ _ _ _ T (mkF m 227 #[.val (.int p0), .val (.int p1), .val (.int p2), .val (.int p3), .val (.int p4), .val (.int p5), .val (.int (Int32.ofNat n)), .val (.int (Int32.ofNat a)), .val (.int (Int32.ofNat b)), .val (.int (Int32.ofNat c_)), .val (.int sel), .val (.int (Int32.ofNat d)), .val (.int (Int32.ofNat f)), .val (.ref b1), .val (.int iA), .val (.int iB), .val (.int iC), .unset, .unset, .unset, .unset, .unset, .unset] [(.int (Int32.ofNat f)), (.int (Int32.ofNat c_)), (.int iC), (.int (Int32.ofNat b)), (.int iB), (.int (Int32.ofNat a)), (.int iA)])
      refine X.callS (y' := (⟨"com/example/interleave/interleave/NodeSetRemovePinLaw", "ref", "(ZIZIZII)I"⟩ : MethodName)) (hw _ (List.mem_of_getElem? (i := 35) rfl)) (hw _ (List.mem_of_getElem? (i := 36) rfl)) (hw _ (List.mem_of_getElem? (i := 37) rfl)) (hw _ (List.mem_of_getElem? (i := 38) rfl)) (by decide) (argsL := [(.int iA), (.int (Int32.ofNat a)), (.int iB), (.int (Int32.ofNat b)), (.int iC), (.int (Int32.ofNat c_)), (.int (Int32.ofNat f))]) (rest := []) (rm11 l Z a0 hw iA (Int32.ofNat a) iB (Int32.ofNat b) iC (Int32.ofNat c_) (Int32.ofNat f) h6 n0) (g := (mkF m 227 #[.val (.int p0), .val (.int p1), .val (.int p2), .val (.int p3), .val (.int p4), .val (.int p5), .val (.int (Int32.ofNat n)), .val (.int (Int32.ofNat a)), .val (.int (Int32.ofNat b)), .val (.int (Int32.ofNat c_)), .val (.int sel), .val (.int (Int32.ofNat d)), .val (.int (Int32.ofNat f)), .val (.ref b1), .val (.int iA), .val (.int iB), .val (.int iC), .unset, .unset, .unset, .unset, .unset, .unset] [(.int (Int32.ofNat f)), (.int (Int32.ofNat c_)), (.int iC), (.int (Int32.ofNat b)), (.int iB), (.int (Int32.ofNat a)), (.int iA)])) rfl rfl pd_pZIZIZIIr_I rfl rfl (W := 0) (by show 2 * 0 + _ ≤ _; exact Nat.le_of_eq rfl) at_227 (by decide) (by decide) (by decide) (by decide) ?_
      intro v10 T10 h10 X10 q10
      obtain ⟨rfl, R1, rfl, eR1⟩ := q10
      show OFin _ _ _ _ _ _ _ _ T10 (mkF m 230 #[.val (.int p0), .val (.int p1), .val (.int p2), .val (.int p3), .val (.int p4), .val (.int p5), .val (.int (Int32.ofNat n)), .val (.int (Int32.ofNat a)), .val (.int (Int32.ofNat b)), .val (.int (Int32.ofNat c_)), .val (.int sel), .val (.int (Int32.ofNat d)), .val (.int (Int32.ofNat f)), .val (.ref b1), .val (.int iA), .val (.int iB), .val (.int iC), .unset, .unset, .unset, .unset, .unset, .unset] [(.int R1)])
      refine X10.step (fun hA hx hq t_ k_ => XS.istore hA hx rfl (hb hq at_230) rfl (l' := #[.val (.int p0), .val (.int p1), .val (.int p2), .val (.int p3), .val (.int p4), .val (.int p5), .val (.int (Int32.ofNat n)), .val (.int (Int32.ofNat a)), .val (.int (Int32.ofNat b)), .val (.int (Int32.ofNat c_)), .val (.int sel), .val (.int (Int32.ofNat d)), .val (.int (Int32.ofNat f)), .val (.ref b1), .val (.int iA), .val (.int iB), .val (.int iC), .val (.int R1), .unset, .unset, .unset, .unset, .unset]) rfl k_) ?_
      show OFin _ _ _ _ _ _ _ _ T10 (mkF m 232 #[.val (.int p0), .val (.int p1), .val (.int p2), .val (.int p3), .val (.int p4), .val (.int p5), .val (.int (Int32.ofNat n)), .val (.int (Int32.ofNat a)), .val (.int (Int32.ofNat b)), .val (.int (Int32.ofNat c_)), .val (.int sel), .val (.int (Int32.ofNat d)), .val (.int (Int32.ofNat f)), .val (.ref b1), .val (.int iA), .val (.int iB), .val (.int iC), .val (.int R1), .unset, .unset, .unset, .unset, .unset] [])
      refine X10.step (fun hA hx hq t_ k_ => XS.iload hA hx rfl (hb hq at_232) rfl k_) ?_
      show OFin _ _ _ _ _ _ _ _ T10 (mkF m 234 #[.val (.int p0), .val (.int p1), .val (.int p2), .val (.int p3), .val (.int p4), .val (.int p5), .val (.int (Int32.ofNat n)), .val (.int (Int32.ofNat a)), .val (.int (Int32.ofNat b)), .val (.int (Int32.ofNat c_)), .val (.int sel), .val (.int (Int32.ofNat d)), .val (.int (Int32.ofNat f)), .val (.ref b1), .val (.int iA), .val (.int iB), .val (.int iC), .val (.int R1), .unset, .unset, .unset, .unset, .unset] [(.int iA)])
      refine X10.step (fun hA hx hq t_ k_ => XS.iload hA hx rfl (hb hq at_234) rfl k_) ?_
      show OFin _ _ _ _ _ _ _ _ T10 (mkF m 236 #[.val (.int p0), .val (.int p1), .val (.int p2), .val (.int p3), .val (.int p4), .val (.int p5), .val (.int (Int32.ofNat n)), .val (.int (Int32.ofNat a)), .val (.int (Int32.ofNat b)), .val (.int (Int32.ofNat c_)), .val (.int sel), .val (.int (Int32.ofNat d)), .val (.int (Int32.ofNat f)), .val (.ref b1), .val (.int iA), .val (.int iB), .val (.int iC), .val (.int R1), .unset, .unset, .unset, .unset, .unset] [(.int (Int32.ofNat a)), (.int iA)])
      refine X10.step (fun hA hx hq t_ k_ => XS.iload hA hx rfl (hb hq at_236) rfl k_) ?_
      show OFin _ _ _ _ _ _ _ _ T10 (mkF m 238 #[.val (.int p0), .val (.int p1), .val (.int p2), .val (.int p3), .val (.int p4), .val (.int p5), .val (.int (Int32.ofNat n)), .val (.int (Int32.ofNat a)), .val (.int (Int32.ofNat b)), .val (.int (Int32.ofNat c_)), .val (.int sel), .val (.int (Int32.ofNat d)), .val (.int (Int32.ofNat f)), .val (.ref b1), .val (.int iA), .val (.int iB), .val (.int iC), .val (.int R1), .unset, .unset, .unset, .unset, .unset] [(.int iB), (.int (Int32.ofNat a)), (.int iA)])
      refine X10.step (fun hA hx hq t_ k_ => XS.iload hA hx rfl (hb hq at_238) rfl k_) ?_
      show OFin _ _ _ _ _ _ _ _ T10 (mkF m 240 #[.val (.int p0), .val (.int p1), .val (.int p2), .val (.int p3), .val (.int p4), .val (.int p5), .val (.int (Int32.ofNat n)), .val (.int (Int32.ofNat a)), .val (.int (Int32.ofNat b)), .val (.int (Int32.ofNat c_)), .val (.int sel), .val (.int (Int32.ofNat d)), .val (.int (Int32.ofNat f)), .val (.ref b1), .val (.int iA), .val (.int iB), .val (.int iC), .val (.int R1), .unset, .unset, .unset, .unset, .unset] [(.int (Int32.ofNat b)), (.int iB), (.int (Int32.ofNat a)), (.int iA)])
      refine X10.step (fun hA hx hq t_ k_ => XS.iload hA hx rfl (hb hq at_240) rfl k_) ?_
      show OFin _ _ _ _ _ _ _ _ T10 (mkF m 242 #[.val (.int p0), .val (.int p1), .val (.int p2), .val (.int p3), .val (.int p4), .val (.int p5), .val (.int (Int32.ofNat n)), .val (.int (Int32.ofNat a)), .val (.int (Int32.ofNat b)), .val (.int (Int32.ofNat c_)), .val (.int sel), .val (.int (Int32.ofNat d)), .val (.int (Int32.ofNat f)), .val (.ref b1), .val (.int iA), .val (.int iB), .val (.int iC), .val (.int R1), .unset, .unset, .unset, .unset, .unset] [(.int iC), (.int (Int32.ofNat b)), (.int iB), (.int (Int32.ofNat a)), (.int iA)])
      refine X10.step (fun hA hx hq t_ k_ => XS.iload hA hx rfl (hb hq at_242) rfl k_) ?_
      show OFin _ _ _ _ _ _ _ _ T10 (mkF m 244 #[.val (.int p0), .val (.int p1), .val (.int p2), .val (.int p3), .val (.int p4), .val (.int p5), .val (.int (Int32.ofNat n)), .val (.int (Int32.ofNat a)), .val (.int (Int32.ofNat b)), .val (.int (Int32.ofNat c_)), .val (.int sel), .val (.int (Int32.ofNat d)), .val (.int (Int32.ofNat f)), .val (.ref b1), .val (.int iA), .val (.int iB), .val (.int iC), .val (.int R1), .unset, .unset, .unset, .unset, .unset] [(.int (Int32.ofNat c_)), (.int iC), (.int (Int32.ofNat b)), (.int iB), (.int (Int32.ofNat a)), (.int iA)])
      refine X10.step (fun hA hx hq t_ k_ => XS.iconst hA hx rfl (hb hq at_244) k_) ?_
      show OFin _ _ _ _ _ _ _ _ T10 (mkF m 245 #[.val (.int p0), .val (.int p1), .val (.int p2), .val (.int p3), .val (.int p4), .val (.int p5), .val (.int (Int32.ofNat n)), .val (.int (Int32.ofNat a)), .val (.int (Int32.ofNat b)), .val (.int (Int32.ofNat c_)), .val (.int sel), .val (.int (Int32.ofNat d)), .val (.int (Int32.ofNat f)), .val (.ref b1), .val (.int iA), .val (.int iB), .val (.int iC), .val (.int R1), .unset, .unset, .unset, .unset, .unset] [(.int (0 : Int32)), (.int (Int32.ofNat c_)), (.int iC), (.int (Int32.ofNat b)), (.int iB), (.int (Int32.ofNat a)), (.int iA)])
      refine X10.callS (y' := (⟨"com/example/interleave/interleave/NodeSetRemovePinLaw", "ref", "(ZIZIZII)I"⟩ : MethodName)) (hw _ (List.mem_of_getElem? (i := 35) rfl)) (hw _ (List.mem_of_getElem? (i := 36) rfl)) (hw _ (List.mem_of_getElem? (i := 37) rfl)) (hw _ (List.mem_of_getElem? (i := 38) rfl)) (by decide) (argsL := [(.int iA), (.int (Int32.ofNat a)), (.int iB), (.int (Int32.ofNat b)), (.int iC), (.int (Int32.ofNat c_)), (.int (0 : Int32))]) (rest := []) (rm11 l Z a0 hw iA (Int32.ofNat a) iB (Int32.ofNat b) iC (Int32.ofNat c_) (0 : Int32) h6 n0) (g := (mkF m 245 #[.val (.int p0), .val (.int p1), .val (.int p2), .val (.int p3), .val (.int p4), .val (.int p5), .val (.int (Int32.ofNat n)), .val (.int (Int32.ofNat a)), .val (.int (Int32.ofNat b)), .val (.int (Int32.ofNat c_)), .val (.int sel), .val (.int (Int32.ofNat d)), .val (.int (Int32.ofNat f)), .val (.ref b1), .val (.int iA), .val (.int iB), .val (.int iC), .val (.int R1), .unset, .unset, .unset, .unset, .unset] [(.int (0 : Int32)), (.int (Int32.ofNat c_)), (.int iC), (.int (Int32.ofNat b)), (.int iB), (.int (Int32.ofNat a)), (.int iA)])) rfl rfl pd_pZIZIZIIr_I rfl rfl (W := 0) (by show 2 * 0 + _ ≤ _; exact Nat.le_of_eq rfl) at_245 (by decide) (by decide) (by decide) (by decide) ?_
      intro v11 T11 h11 X11 q11
      obtain ⟨rfl, R2, rfl, eR2⟩ := q11
      show OFin _ _ _ _ _ _ _ _ T11 (mkF m 248 #[.val (.int p0), .val (.int p1), .val (.int p2), .val (.int p3), .val (.int p4), .val (.int p5), .val (.int (Int32.ofNat n)), .val (.int (Int32.ofNat a)), .val (.int (Int32.ofNat b)), .val (.int (Int32.ofNat c_)), .val (.int sel), .val (.int (Int32.ofNat d)), .val (.int (Int32.ofNat f)), .val (.ref b1), .val (.int iA), .val (.int iB), .val (.int iC), .val (.int R1), .unset, .unset, .unset, .unset, .unset] [(.int R2)])
      refine X11.step (fun hA hx hq t_ k_ => XS.istore hA hx rfl (hb hq at_248) rfl (l' := #[.val (.int p0), .val (.int p1), .val (.int p2), .val (.int p3), .val (.int p4), .val (.int p5), .val (.int (Int32.ofNat n)), .val (.int (Int32.ofNat a)), .val (.int (Int32.ofNat b)), .val (.int (Int32.ofNat c_)), .val (.int sel), .val (.int (Int32.ofNat d)), .val (.int (Int32.ofNat f)), .val (.ref b1), .val (.int iA), .val (.int iB), .val (.int iC), .val (.int R1), .val (.int R2), .unset, .unset, .unset, .unset]) rfl k_) ?_
      show OFin _ _ _ _ _ _ _ _ T11 (mkF m 250 #[.val (.int p0), .val (.int p1), .val (.int p2), .val (.int p3), .val (.int p4), .val (.int p5), .val (.int (Int32.ofNat n)), .val (.int (Int32.ofNat a)), .val (.int (Int32.ofNat b)), .val (.int (Int32.ofNat c_)), .val (.int sel), .val (.int (Int32.ofNat d)), .val (.int (Int32.ofNat f)), .val (.ref b1), .val (.int iA), .val (.int iB), .val (.int iC), .val (.int R1), .val (.int R2), .unset, .unset, .unset, .unset] [])
      refine X11.step (fun hA hx hq t_ k_ => XS.iload hA hx rfl (hb hq at_250) rfl k_) ?_
      show OFin _ _ _ _ _ _ _ _ T11 (mkF m 252 #[.val (.int p0), .val (.int p1), .val (.int p2), .val (.int p3), .val (.int p4), .val (.int p5), .val (.int (Int32.ofNat n)), .val (.int (Int32.ofNat a)), .val (.int (Int32.ofNat b)), .val (.int (Int32.ofNat c_)), .val (.int sel), .val (.int (Int32.ofNat d)), .val (.int (Int32.ofNat f)), .val (.ref b1), .val (.int iA), .val (.int iB), .val (.int iC), .val (.int R1), .val (.int R2), .unset, .unset, .unset, .unset] [(.int iA)])
      have o1 : OMin (fun s => (((False ∨ s = a) ∨ s = b) ∨ s = c_) ∧ s ≠ d) f R1 := by rw [eR1]; exact own_refOK (by omega) (by omega) (by omega) (by omega) i0 i1 i2
      have o2 : OMin (fun s => (((False ∨ s = a) ∨ s = b) ∨ s = c_) ∧ s ≠ d) 0 R2 := by rw [eR2]; exact own_refOK (f := 0) (by omega) (by omega) (by omega) (by omega) i0 i1 i2
      by_cases z0 : iA = (0 : Int32)
      · refine X11.step (fun hA hx hq t_ k_ => XS.ifNo hA hx rfl (hb hq at_252) rfl ((if0 _ _).trans (teq (z0)).2) k_) ?_
        show OFin _ _ _ _ _ _ _ _ T11 (mkF m 255 #[.val (.int p0), .val (.int p1), .val (.int p2), .val (.int p3), .val (.int p4), .val (.int p5), .val (.int (Int32.ofNat n)), .val (.int (Int32.ofNat a)), .val (.int (Int32.ofNat b)), .val (.int (Int32.ofNat c_)), .val (.int sel), .val (.int (Int32.ofNat d)), .val (.int (Int32.ofNat f)), .val (.ref b1), .val (.int iA), .val (.int iB), .val (.int iC), .val (.int R1), .val (.int R2), .unset, .unset, .unset, .unset] [])
        refine X11.step (fun hA hx hq t_ k_ => XS.iload hA hx rfl (hb hq at_255) rfl k_) ?_
        show OFin _ _ _ _ _ _ _ _ T11 (mkF m 257 #[.val (.int p0), .val (.int p1), .val (.int p2), .val (.int p3), .val (.int p4), .val (.int p5), .val (.int (Int32.ofNat n)), .val (.int (Int32.ofNat a)), .val (.int (Int32.ofNat b)), .val (.int (Int32.ofNat c_)), .val (.int sel), .val (.int (Int32.ofNat d)), .val (.int (Int32.ofNat f)), .val (.ref b1), .val (.int iA), .val (.int iB), .val (.int iC), .val (.int R1), .val (.int R2), .unset, .unset, .unset, .unset] [(.int iB)])
        by_cases z1 : iB = (0 : Int32)
        · refine X11.step (fun hA hx hq t_ k_ => XS.ifNo hA hx rfl (hb hq at_257) rfl ((if0 _ _).trans (teq (z1)).2) k_) ?_
          show OFin _ _ _ _ _ _ _ _ T11 (mkF m 260 #[.val (.int p0), .val (.int p1), .val (.int p2), .val (.int p3), .val (.int p4), .val (.int p5), .val (.int (Int32.ofNat n)), .val (.int (Int32.ofNat a)), .val (.int (Int32.ofNat b)), .val (.int (Int32.ofNat c_)), .val (.int sel), .val (.int (Int32.ofNat d)), .val (.int (Int32.ofNat f)), .val (.ref b1), .val (.int iA), .val (.int iB), .val (.int iC), .val (.int R1), .val (.int R2), .unset, .unset, .unset, .unset] [])
          refine X11.step (fun hA hx hq t_ k_ => XS.iload hA hx rfl (hb hq at_260) rfl k_) ?_
          show OFin _ _ _ _ _ _ _ _ T11 (mkF m 262 #[.val (.int p0), .val (.int p1), .val (.int p2), .val (.int p3), .val (.int p4), .val (.int p5), .val (.int (Int32.ofNat n)), .val (.int (Int32.ofNat a)), .val (.int (Int32.ofNat b)), .val (.int (Int32.ofNat c_)), .val (.int sel), .val (.int (Int32.ofNat d)), .val (.int (Int32.ofNat f)), .val (.ref b1), .val (.int iA), .val (.int iB), .val (.int iC), .val (.int R1), .val (.int R2), .unset, .unset, .unset, .unset] [(.int iC)])
          by_cases z2 : iC = (0 : Int32)
          · refine X11.step (fun hA hx hq t_ k_ => XS.ifNo hA hx rfl (hb hq at_262) rfl ((if0 _ _).trans (teq (z2)).2) k_) ?_
            show OFin _ _ _ _ _ _ _ _ T11 (mkF m 265 #[.val (.int p0), .val (.int p1), .val (.int p2), .val (.int p3), .val (.int p4), .val (.int p5), .val (.int (Int32.ofNat n)), .val (.int (Int32.ofNat a)), .val (.int (Int32.ofNat b)), .val (.int (Int32.ofNat c_)), .val (.int sel), .val (.int (Int32.ofNat d)), .val (.int (Int32.ofNat f)), .val (.ref b1), .val (.int iA), .val (.int iB), .val (.int iC), .val (.int R1), .val (.int R2), .unset, .unset, .unset, .unset] [])
            refine X11.step (fun hA hx hq t_ k_ => XS.iconst hA hx rfl (hb hq at_265) k_) ?_
            show OFin _ _ _ _ _ _ _ _ T11 (mkF m 266 #[.val (.int p0), .val (.int p1), .val (.int p2), .val (.int p3), .val (.int p4), .val (.int p5), .val (.int (Int32.ofNat n)), .val (.int (Int32.ofNat a)), .val (.int (Int32.ofNat b)), .val (.int (Int32.ofNat c_)), .val (.int sel), .val (.int (Int32.ofNat d)), .val (.int (Int32.ofNat f)), .val (.ref b1), .val (.int iA), .val (.int iB), .val (.int iC), .val (.int R1), .val (.int R2), .unset, .unset, .unset, .unset] [(.int (1 : Int32))])
            refine X11.step (fun hA hx hq t_ k_ => XS.goto hA hx rfl (pc0 := 266) (pc' := 270) rfl (hb hq at_266) (by decide) (by decide) k_) ?_
            show OFin _ _ _ _ _ _ _ _ T11 (mkF m 270 #[.val (.int p0), .val (.int p1), .val (.int p2), .val (.int p3), .val (.int p4), .val (.int p5), .val (.int (Int32.ofNat n)), .val (.int (Int32.ofNat a)), .val (.int (Int32.ofNat b)), .val (.int (Int32.ofNat c_)), .val (.int sel), .val (.int (Int32.ofNat d)), .val (.int (Int32.ofNat f)), .val (.ref b1), .val (.int iA), .val (.int iB), .val (.int iC), .val (.int R1), .val (.int R2), .unset, .unset, .unset, .unset] [(.int (1 : Int32))])
            refine X11.step (fun hA hx hq t_ k_ => XS.istore hA hx rfl (hb hq at_270) rfl (l' := #[.val (.int p0), .val (.int p1), .val (.int p2), .val (.int p3), .val (.int p4), .val (.int p5), .val (.int (Int32.ofNat n)), .val (.int (Int32.ofNat a)), .val (.int (Int32.ofNat b)), .val (.int (Int32.ofNat c_)), .val (.int sel), .val (.int (Int32.ofNat d)), .val (.int (Int32.ofNat f)), .val (.ref b1), .val (.int iA), .val (.int iB), .val (.int iC), .val (.int R1), .val (.int R2), .val (.int (1 : Int32)), .unset, .unset, .unset]) rfl k_) ?_
            show OFin _ _ _ _ _ _ _ _ T11 (mkF m 272 #[.val (.int p0), .val (.int p1), .val (.int p2), .val (.int p3), .val (.int p4), .val (.int p5), .val (.int (Int32.ofNat n)), .val (.int (Int32.ofNat a)), .val (.int (Int32.ofNat b)), .val (.int (Int32.ofNat c_)), .val (.int sel), .val (.int (Int32.ofNat d)), .val (.int (Int32.ofNat f)), .val (.ref b1), .val (.int iA), .val (.int iB), .val (.int iC), .val (.int R1), .val (.int R2), .val (.int (1 : Int32)), .unset, .unset, .unset] [])
            exact jE iA iB iC R1 R2 _ T11 o1 o2 (Or.inl ⟨rfl, Decidable.not_not.mp fun q => i0.mpr q z0, Decidable.not_not.mp fun q => i1.mpr q z1, Decidable.not_not.mp fun q => i2.mpr q z2⟩) X11
          · refine X11.step (fun hA hx hq t_ k_ => XS.ifYes hA hx rfl (pc0 := 262) (pc' := 269) rfl (hb hq at_262) rfl ((if0 _ _).trans (feq (z2)).2) (by decide) (by decide) k_) ?_
            show OFin _ _ _ _ _ _ _ _ T11 (mkF m 269 #[.val (.int p0), .val (.int p1), .val (.int p2), .val (.int p3), .val (.int p4), .val (.int p5), .val (.int (Int32.ofNat n)), .val (.int (Int32.ofNat a)), .val (.int (Int32.ofNat b)), .val (.int (Int32.ofNat c_)), .val (.int sel), .val (.int (Int32.ofNat d)), .val (.int (Int32.ofNat f)), .val (.ref b1), .val (.int iA), .val (.int iB), .val (.int iC), .val (.int R1), .val (.int R2), .unset, .unset, .unset, .unset] [])
            refine X11.step (fun hA hx hq t_ k_ => XS.iconst hA hx rfl (hb hq at_269) k_) ?_
            show OFin _ _ _ _ _ _ _ _ T11 (mkF m 270 #[.val (.int p0), .val (.int p1), .val (.int p2), .val (.int p3), .val (.int p4), .val (.int p5), .val (.int (Int32.ofNat n)), .val (.int (Int32.ofNat a)), .val (.int (Int32.ofNat b)), .val (.int (Int32.ofNat c_)), .val (.int sel), .val (.int (Int32.ofNat d)), .val (.int (Int32.ofNat f)), .val (.ref b1), .val (.int iA), .val (.int iB), .val (.int iC), .val (.int R1), .val (.int R2), .unset, .unset, .unset, .unset] [(.int (0 : Int32))])
            refine X11.step (fun hA hx hq t_ k_ => XS.istore hA hx rfl (hb hq at_270) rfl (l' := #[.val (.int p0), .val (.int p1), .val (.int p2), .val (.int p3), .val (.int p4), .val (.int p5), .val (.int (Int32.ofNat n)), .val (.int (Int32.ofNat a)), .val (.int (Int32.ofNat b)), .val (.int (Int32.ofNat c_)), .val (.int sel), .val (.int (Int32.ofNat d)), .val (.int (Int32.ofNat f)), .val (.ref b1), .val (.int iA), .val (.int iB), .val (.int iC), .val (.int R1), .val (.int R2), .val (.int (0 : Int32)), .unset, .unset, .unset]) rfl k_) ?_
            show OFin _ _ _ _ _ _ _ _ T11 (mkF m 272 #[.val (.int p0), .val (.int p1), .val (.int p2), .val (.int p3), .val (.int p4), .val (.int p5), .val (.int (Int32.ofNat n)), .val (.int (Int32.ofNat a)), .val (.int (Int32.ofNat b)), .val (.int (Int32.ofNat c_)), .val (.int sel), .val (.int (Int32.ofNat d)), .val (.int (Int32.ofNat f)), .val (.ref b1), .val (.int iA), .val (.int iB), .val (.int iC), .val (.int R1), .val (.int R2), .val (.int (0 : Int32)), .unset, .unset, .unset] [])
            exact jE iA iB iC R1 R2 _ T11 o1 o2 (Or.inr ⟨rfl, Or.inr (Or.inr (i2.mp z2))⟩) X11
        · refine X11.step (fun hA hx hq t_ k_ => XS.ifYes hA hx rfl (pc0 := 257) (pc' := 269) rfl (hb hq at_257) rfl ((if0 _ _).trans (feq (z1)).2) (by decide) (by decide) k_) ?_
          show OFin _ _ _ _ _ _ _ _ T11 (mkF m 269 #[.val (.int p0), .val (.int p1), .val (.int p2), .val (.int p3), .val (.int p4), .val (.int p5), .val (.int (Int32.ofNat n)), .val (.int (Int32.ofNat a)), .val (.int (Int32.ofNat b)), .val (.int (Int32.ofNat c_)), .val (.int sel), .val (.int (Int32.ofNat d)), .val (.int (Int32.ofNat f)), .val (.ref b1), .val (.int iA), .val (.int iB), .val (.int iC), .val (.int R1), .val (.int R2), .unset, .unset, .unset, .unset] [])
          refine X11.step (fun hA hx hq t_ k_ => XS.iconst hA hx rfl (hb hq at_269) k_) ?_
          show OFin _ _ _ _ _ _ _ _ T11 (mkF m 270 #[.val (.int p0), .val (.int p1), .val (.int p2), .val (.int p3), .val (.int p4), .val (.int p5), .val (.int (Int32.ofNat n)), .val (.int (Int32.ofNat a)), .val (.int (Int32.ofNat b)), .val (.int (Int32.ofNat c_)), .val (.int sel), .val (.int (Int32.ofNat d)), .val (.int (Int32.ofNat f)), .val (.ref b1), .val (.int iA), .val (.int iB), .val (.int iC), .val (.int R1), .val (.int R2), .unset, .unset, .unset, .unset] [(.int (0 : Int32))])
          refine X11.step (fun hA hx hq t_ k_ => XS.istore hA hx rfl (hb hq at_270) rfl (l' := #[.val (.int p0), .val (.int p1), .val (.int p2), .val (.int p3), .val (.int p4), .val (.int p5), .val (.int (Int32.ofNat n)), .val (.int (Int32.ofNat a)), .val (.int (Int32.ofNat b)), .val (.int (Int32.ofNat c_)), .val (.int sel), .val (.int (Int32.ofNat d)), .val (.int (Int32.ofNat f)), .val (.ref b1), .val (.int iA), .val (.int iB), .val (.int iC), .val (.int R1), .val (.int R2), .val (.int (0 : Int32)), .unset, .unset, .unset]) rfl k_) ?_
          show OFin _ _ _ _ _ _ _ _ T11 (mkF m 272 #[.val (.int p0), .val (.int p1), .val (.int p2), .val (.int p3), .val (.int p4), .val (.int p5), .val (.int (Int32.ofNat n)), .val (.int (Int32.ofNat a)), .val (.int (Int32.ofNat b)), .val (.int (Int32.ofNat c_)), .val (.int sel), .val (.int (Int32.ofNat d)), .val (.int (Int32.ofNat f)), .val (.ref b1), .val (.int iA), .val (.int iB), .val (.int iC), .val (.int R1), .val (.int R2), .val (.int (0 : Int32)), .unset, .unset, .unset] [])
          exact jE iA iB iC R1 R2 _ T11 o1 o2 (Or.inr ⟨rfl, Or.inr (Or.inl (i1.mp z1))⟩) X11
      · refine X11.step (fun hA hx hq t_ k_ => XS.ifYes hA hx rfl (pc0 := 252) (pc' := 269) rfl (hb hq at_252) rfl ((if0 _ _).trans (feq (z0)).2) (by decide) (by decide) k_) ?_
        show OFin _ _ _ _ _ _ _ _ T11 (mkF m 269 #[.val (.int p0), .val (.int p1), .val (.int p2), .val (.int p3), .val (.int p4), .val (.int p5), .val (.int (Int32.ofNat n)), .val (.int (Int32.ofNat a)), .val (.int (Int32.ofNat b)), .val (.int (Int32.ofNat c_)), .val (.int sel), .val (.int (Int32.ofNat d)), .val (.int (Int32.ofNat f)), .val (.ref b1), .val (.int iA), .val (.int iB), .val (.int iC), .val (.int R1), .val (.int R2), .unset, .unset, .unset, .unset] [])
        refine X11.step (fun hA hx hq t_ k_ => XS.iconst hA hx rfl (hb hq at_269) k_) ?_
        show OFin _ _ _ _ _ _ _ _ T11 (mkF m 270 #[.val (.int p0), .val (.int p1), .val (.int p2), .val (.int p3), .val (.int p4), .val (.int p5), .val (.int (Int32.ofNat n)), .val (.int (Int32.ofNat a)), .val (.int (Int32.ofNat b)), .val (.int (Int32.ofNat c_)), .val (.int sel), .val (.int (Int32.ofNat d)), .val (.int (Int32.ofNat f)), .val (.ref b1), .val (.int iA), .val (.int iB), .val (.int iC), .val (.int R1), .val (.int R2), .unset, .unset, .unset, .unset] [(.int (0 : Int32))])
        refine X11.step (fun hA hx hq t_ k_ => XS.istore hA hx rfl (hb hq at_270) rfl (l' := #[.val (.int p0), .val (.int p1), .val (.int p2), .val (.int p3), .val (.int p4), .val (.int p5), .val (.int (Int32.ofNat n)), .val (.int (Int32.ofNat a)), .val (.int (Int32.ofNat b)), .val (.int (Int32.ofNat c_)), .val (.int sel), .val (.int (Int32.ofNat d)), .val (.int (Int32.ofNat f)), .val (.ref b1), .val (.int iA), .val (.int iB), .val (.int iC), .val (.int R1), .val (.int R2), .val (.int (0 : Int32)), .unset, .unset, .unset]) rfl k_) ?_
        show OFin _ _ _ _ _ _ _ _ T11 (mkF m 272 #[.val (.int p0), .val (.int p1), .val (.int p2), .val (.int p3), .val (.int p4), .val (.int p5), .val (.int (Int32.ofNat n)), .val (.int (Int32.ofNat a)), .val (.int (Int32.ofNat b)), .val (.int (Int32.ofNat c_)), .val (.int sel), .val (.int (Int32.ofNat d)), .val (.int (Int32.ofNat f)), .val (.ref b1), .val (.int iA), .val (.int iB), .val (.int iC), .val (.int R1), .val (.int R2), .val (.int (0 : Int32)), .unset, .unset, .unset] [])
        exact jE iA iB iC R1 R2 _ T11 o1 o2 (Or.inr ⟨rfl, Or.inl (i0.mp z0)⟩) X11
    refine X6.step (fun hA hx hq t_ k_ => XS.iload hA hx rfl (hb hq at_171) rfl k_) ?_
    show OFin _ _ _ _ _ _ _ _ T6 (mkF m 173 #[.val (.int p0), .val (.int p1), .val (.int p2), .val (.int p3), .val (.int p4), .val (.int p5), .val (.int (Int32.ofNat n)), .val (.int (Int32.ofNat a)), .val (.int (Int32.ofNat b)), .val (.int (Int32.ofNat c_)), .val (.int sel), .val (.int (Int32.ofNat d)), .val (.int (Int32.ofNat f)), .val (.ref b1), .unset, .unset, .unset, .unset, .unset, .unset, .unset, .unset, .unset] [(.int (Int32.ofNat a))])
    refine X6.step (fun hA hx hq t_ k_ => XS.iload hA hx rfl (hb hq at_173) rfl k_) ?_
    show OFin _ _ _ _ _ _ _ _ T6 (mkF m 175 #[.val (.int p0), .val (.int p1), .val (.int p2), .val (.int p3), .val (.int p4), .val (.int p5), .val (.int (Int32.ofNat n)), .val (.int (Int32.ofNat a)), .val (.int (Int32.ofNat b)), .val (.int (Int32.ofNat c_)), .val (.int sel), .val (.int (Int32.ofNat d)), .val (.int (Int32.ofNat f)), .val (.ref b1), .unset, .unset, .unset, .unset, .unset, .unset, .unset, .unset, .unset] [(.int (Int32.ofNat d)), (.int (Int32.ofNat a))])
    by_cases f0 : (Int32.ofNat a) = (Int32.ofNat d)
    · refine X6.step (fun hA hx hq t_ k_ => XS.icmpYes hA hx rfl (pc0 := 175) (pc' := 182) rfl (hb hq at_175) rfl (teq (f0)).1 (by decide) (by decide) k_) ?_
      show OFin _ _ _ _ _ _ _ _ T6 (mkF m 182 #[.val (.int p0), .val (.int p1), .val (.int p2), .val (.int p3), .val (.int p4), .val (.int p5), .val (.int (Int32.ofNat n)), .val (.int (Int32.ofNat a)), .val (.int (Int32.ofNat b)), .val (.int (Int32.ofNat c_)), .val (.int sel), .val (.int (Int32.ofNat d)), .val (.int (Int32.ofNat f)), .val (.ref b1), .unset, .unset, .unset, .unset, .unset, .unset, .unset, .unset, .unset] [])
      rw [own_eq32 a d (by omega) (by omega)] at f0
      refine X6.step (fun hA hx hq t_ k_ => XS.iconst hA hx rfl (hb hq at_182) k_) ?_
      show OFin _ _ _ _ _ _ _ _ T6 (mkF m 183 #[.val (.int p0), .val (.int p1), .val (.int p2), .val (.int p3), .val (.int p4), .val (.int p5), .val (.int (Int32.ofNat n)), .val (.int (Int32.ofNat a)), .val (.int (Int32.ofNat b)), .val (.int (Int32.ofNat c_)), .val (.int sel), .val (.int (Int32.ofNat d)), .val (.int (Int32.ofNat f)), .val (.ref b1), .unset, .unset, .unset, .unset, .unset, .unset, .unset, .unset, .unset] [(.int (0 : Int32))])
      refine X6.step (fun hA hx hq t_ k_ => XS.istore hA hx rfl (hb hq at_183) rfl (l' := #[.val (.int p0), .val (.int p1), .val (.int p2), .val (.int p3), .val (.int p4), .val (.int p5), .val (.int (Int32.ofNat n)), .val (.int (Int32.ofNat a)), .val (.int (Int32.ofNat b)), .val (.int (Int32.ofNat c_)), .val (.int sel), .val (.int (Int32.ofNat d)), .val (.int (Int32.ofNat f)), .val (.ref b1), .val (.int (0 : Int32)), .unset, .unset, .unset, .unset, .unset, .unset, .unset, .unset]) rfl k_) ?_
      show OFin _ _ _ _ _ _ _ _ T6 (mkF m 185 #[.val (.int p0), .val (.int p1), .val (.int p2), .val (.int p3), .val (.int p4), .val (.int p5), .val (.int (Int32.ofNat n)), .val (.int (Int32.ofNat a)), .val (.int (Int32.ofNat b)), .val (.int (Int32.ofNat c_)), .val (.int sel), .val (.int (Int32.ofNat d)), .val (.int (Int32.ofNat f)), .val (.ref b1), .val (.int (0 : Int32)), .unset, .unset, .unset, .unset, .unset, .unset, .unset, .unset] [])
      refine X6.step (fun hA hx hq t_ k_ => XS.iload hA hx rfl (hb hq at_185) rfl k_) ?_
      show OFin _ _ _ _ _ _ _ _ T6 (mkF m 187 #[.val (.int p0), .val (.int p1), .val (.int p2), .val (.int p3), .val (.int p4), .val (.int p5), .val (.int (Int32.ofNat n)), .val (.int (Int32.ofNat a)), .val (.int (Int32.ofNat b)), .val (.int (Int32.ofNat c_)), .val (.int sel), .val (.int (Int32.ofNat d)), .val (.int (Int32.ofNat f)), .val (.ref b1), .val (.int (0 : Int32)), .unset, .unset, .unset, .unset, .unset, .unset, .unset, .unset] [(.int (Int32.ofNat b))])
      refine X6.step (fun hA hx hq t_ k_ => XS.iload hA hx rfl (hb hq at_187) rfl k_) ?_
      show OFin _ _ _ _ _ _ _ _ T6 (mkF m 189 #[.val (.int p0), .val (.int p1), .val (.int p2), .val (.int p3), .val (.int p4), .val (.int p5), .val (.int (Int32.ofNat n)), .val (.int (Int32.ofNat a)), .val (.int (Int32.ofNat b)), .val (.int (Int32.ofNat c_)), .val (.int sel), .val (.int (Int32.ofNat d)), .val (.int (Int32.ofNat f)), .val (.ref b1), .val (.int (0 : Int32)), .unset, .unset, .unset, .unset, .unset, .unset, .unset, .unset] [(.int (Int32.ofNat d)), (.int (Int32.ofNat b))])
      by_cases f1 : (Int32.ofNat b) = (Int32.ofNat d)
      · refine X6.step (fun hA hx hq t_ k_ => XS.icmpYes hA hx rfl (pc0 := 189) (pc' := 196) rfl (hb hq at_189) rfl (teq (f1)).1 (by decide) (by decide) k_) ?_
        show OFin _ _ _ _ _ _ _ _ T6 (mkF m 196 #[.val (.int p0), .val (.int p1), .val (.int p2), .val (.int p3), .val (.int p4), .val (.int p5), .val (.int (Int32.ofNat n)), .val (.int (Int32.ofNat a)), .val (.int (Int32.ofNat b)), .val (.int (Int32.ofNat c_)), .val (.int sel), .val (.int (Int32.ofNat d)), .val (.int (Int32.ofNat f)), .val (.ref b1), .val (.int (0 : Int32)), .unset, .unset, .unset, .unset, .unset, .unset, .unset, .unset] [])
        rw [own_eq32 b d (by omega) (by omega)] at f1
        refine X6.step (fun hA hx hq t_ k_ => XS.iconst hA hx rfl (hb hq at_196) k_) ?_
        show OFin _ _ _ _ _ _ _ _ T6 (mkF m 197 #[.val (.int p0), .val (.int p1), .val (.int p2), .val (.int p3), .val (.int p4), .val (.int p5), .val (.int (Int32.ofNat n)), .val (.int (Int32.ofNat a)), .val (.int (Int32.ofNat b)), .val (.int (Int32.ofNat c_)), .val (.int sel), .val (.int (Int32.ofNat d)), .val (.int (Int32.ofNat f)), .val (.ref b1), .val (.int (0 : Int32)), .unset, .unset, .unset, .unset, .unset, .unset, .unset, .unset] [(.int (0 : Int32))])
        refine X6.step (fun hA hx hq t_ k_ => XS.istore hA hx rfl (hb hq at_197) rfl (l' := #[.val (.int p0), .val (.int p1), .val (.int p2), .val (.int p3), .val (.int p4), .val (.int p5), .val (.int (Int32.ofNat n)), .val (.int (Int32.ofNat a)), .val (.int (Int32.ofNat b)), .val (.int (Int32.ofNat c_)), .val (.int sel), .val (.int (Int32.ofNat d)), .val (.int (Int32.ofNat f)), .val (.ref b1), .val (.int (0 : Int32)), .val (.int (0 : Int32)), .unset, .unset, .unset, .unset, .unset, .unset, .unset]) rfl k_) ?_
        show OFin _ _ _ _ _ _ _ _ T6 (mkF m 199 #[.val (.int p0), .val (.int p1), .val (.int p2), .val (.int p3), .val (.int p4), .val (.int p5), .val (.int (Int32.ofNat n)), .val (.int (Int32.ofNat a)), .val (.int (Int32.ofNat b)), .val (.int (Int32.ofNat c_)), .val (.int sel), .val (.int (Int32.ofNat d)), .val (.int (Int32.ofNat f)), .val (.ref b1), .val (.int (0 : Int32)), .val (.int (0 : Int32)), .unset, .unset, .unset, .unset, .unset, .unset, .unset] [])
        refine X6.step (fun hA hx hq t_ k_ => XS.iload hA hx rfl (hb hq at_199) rfl k_) ?_
        show OFin _ _ _ _ _ _ _ _ T6 (mkF m 201 #[.val (.int p0), .val (.int p1), .val (.int p2), .val (.int p3), .val (.int p4), .val (.int p5), .val (.int (Int32.ofNat n)), .val (.int (Int32.ofNat a)), .val (.int (Int32.ofNat b)), .val (.int (Int32.ofNat c_)), .val (.int sel), .val (.int (Int32.ofNat d)), .val (.int (Int32.ofNat f)), .val (.ref b1), .val (.int (0 : Int32)), .val (.int (0 : Int32)), .unset, .unset, .unset, .unset, .unset, .unset, .unset] [(.int (Int32.ofNat c_))])
        refine X6.step (fun hA hx hq t_ k_ => XS.iload hA hx rfl (hb hq at_201) rfl k_) ?_
        show OFin _ _ _ _ _ _ _ _ T6 (mkF m 203 #[.val (.int p0), .val (.int p1), .val (.int p2), .val (.int p3), .val (.int p4), .val (.int p5), .val (.int (Int32.ofNat n)), .val (.int (Int32.ofNat a)), .val (.int (Int32.ofNat b)), .val (.int (Int32.ofNat c_)), .val (.int sel), .val (.int (Int32.ofNat d)), .val (.int (Int32.ofNat f)), .val (.ref b1), .val (.int (0 : Int32)), .val (.int (0 : Int32)), .unset, .unset, .unset, .unset, .unset, .unset, .unset] [(.int (Int32.ofNat d)), (.int (Int32.ofNat c_))])
        by_cases f2 : (Int32.ofNat c_) = (Int32.ofNat d)
        · refine X6.step (fun hA hx hq t_ k_ => XS.icmpYes hA hx rfl (pc0 := 203) (pc' := 210) rfl (hb hq at_203) rfl (teq (f2)).1 (by decide) (by decide) k_) ?_
          show OFin _ _ _ _ _ _ _ _ T6 (mkF m 210 #[.val (.int p0), .val (.int p1), .val (.int p2), .val (.int p3), .val (.int p4), .val (.int p5), .val (.int (Int32.ofNat n)), .val (.int (Int32.ofNat a)), .val (.int (Int32.ofNat b)), .val (.int (Int32.ofNat c_)), .val (.int sel), .val (.int (Int32.ofNat d)), .val (.int (Int32.ofNat f)), .val (.ref b1), .val (.int (0 : Int32)), .val (.int (0 : Int32)), .unset, .unset, .unset, .unset, .unset, .unset, .unset] [])
          rw [own_eq32 c_ d (by omega) (by omega)] at f2
          refine X6.step (fun hA hx hq t_ k_ => XS.iconst hA hx rfl (hb hq at_210) k_) ?_
          show OFin _ _ _ _ _ _ _ _ T6 (mkF m 211 #[.val (.int p0), .val (.int p1), .val (.int p2), .val (.int p3), .val (.int p4), .val (.int p5), .val (.int (Int32.ofNat n)), .val (.int (Int32.ofNat a)), .val (.int (Int32.ofNat b)), .val (.int (Int32.ofNat c_)), .val (.int sel), .val (.int (Int32.ofNat d)), .val (.int (Int32.ofNat f)), .val (.ref b1), .val (.int (0 : Int32)), .val (.int (0 : Int32)), .unset, .unset, .unset, .unset, .unset, .unset, .unset] [(.int (0 : Int32))])
          refine X6.step (fun hA hx hq t_ k_ => XS.istore hA hx rfl (hb hq at_211) rfl (l' := #[.val (.int p0), .val (.int p1), .val (.int p2), .val (.int p3), .val (.int p4), .val (.int p5), .val (.int (Int32.ofNat n)), .val (.int (Int32.ofNat a)), .val (.int (Int32.ofNat b)), .val (.int (Int32.ofNat c_)), .val (.int sel), .val (.int (Int32.ofNat d)), .val (.int (Int32.ofNat f)), .val (.ref b1), .val (.int (0 : Int32)), .val (.int (0 : Int32)), .val (.int (0 : Int32)), .unset, .unset, .unset, .unset, .unset, .unset]) rfl k_) ?_
          show OFin _ _ _ _ _ _ _ _ T6 (mkF m 213 #[.val (.int p0), .val (.int p1), .val (.int p2), .val (.int p3), .val (.int p4), .val (.int p5), .val (.int (Int32.ofNat n)), .val (.int (Int32.ofNat a)), .val (.int (Int32.ofNat b)), .val (.int (Int32.ofNat c_)), .val (.int sel), .val (.int (Int32.ofNat d)), .val (.int (Int32.ofNat f)), .val (.ref b1), .val (.int (0 : Int32)), .val (.int (0 : Int32)), .val (.int (0 : Int32)), .unset, .unset, .unset, .unset, .unset, .unset] [])
          exact jF _ _ _ T6 ⟨fun q => (q rfl).elim, fun q => (q f0).elim⟩ ⟨fun q => (q rfl).elim, fun q => (q f1).elim⟩ ⟨fun q => (q rfl).elim, fun q => (q f2).elim⟩ X6
        · refine X6.step (fun hA hx hq t_ k_ => XS.icmpNo hA hx rfl (hb hq at_203) rfl (feq (f2)).1 k_) ?_
          show OFin _ _ _ _ _ _ _ _ T6 (mkF m 206 #[.val (.int p0), .val (.int p1), .val (.int p2), .val (.int p3), .val (.int p4), .val (.int p5), .val (.int (Int32.ofNat n)), .val (.int (Int32.ofNat a)), .val (.int (Int32.ofNat b)), .val (.int (Int32.ofNat c_)), .val (.int sel), .val (.int (Int32.ofNat d)), .val (.int (Int32.ofNat f)), .val (.ref b1), .val (.int (0 : Int32)), .val (.int (0 : Int32)), .unset, .unset, .unset, .unset, .unset, .unset, .unset] [])
          rw [own_eq32 c_ d (by omega) (by omega)] at f2
          refine X6.step (fun hA hx hq t_ k_ => XS.iconst hA hx rfl (hb hq at_206) k_) ?_
          show OFin _ _ _ _ _ _ _ _ T6 (mkF m 207 #[.val (.int p0), .val (.int p1), .val (.int p2), .val (.int p3), .val (.int p4), .val (.int p5), .val (.int (Int32.ofNat n)), .val (.int (Int32.ofNat a)), .val (.int (Int32.ofNat b)), .val (.int (Int32.ofNat c_)), .val (.int sel), .val (.int (Int32.ofNat d)), .val (.int (Int32.ofNat f)), .val (.ref b1), .val (.int (0 : Int32)), .val (.int (0 : Int32)), .unset, .unset, .unset, .unset, .unset, .unset, .unset] [(.int (1 : Int32))])
          refine X6.step (fun hA hx hq t_ k_ => XS.goto hA hx rfl (pc0 := 207) (pc' := 211) rfl (hb hq at_207) (by decide) (by decide) k_) ?_
          show OFin _ _ _ _ _ _ _ _ T6 (mkF m 211 #[.val (.int p0), .val (.int p1), .val (.int p2), .val (.int p3), .val (.int p4), .val (.int p5), .val (.int (Int32.ofNat n)), .val (.int (Int32.ofNat a)), .val (.int (Int32.ofNat b)), .val (.int (Int32.ofNat c_)), .val (.int sel), .val (.int (Int32.ofNat d)), .val (.int (Int32.ofNat f)), .val (.ref b1), .val (.int (0 : Int32)), .val (.int (0 : Int32)), .unset, .unset, .unset, .unset, .unset, .unset, .unset] [(.int (1 : Int32))])
          refine X6.step (fun hA hx hq t_ k_ => XS.istore hA hx rfl (hb hq at_211) rfl (l' := #[.val (.int p0), .val (.int p1), .val (.int p2), .val (.int p3), .val (.int p4), .val (.int p5), .val (.int (Int32.ofNat n)), .val (.int (Int32.ofNat a)), .val (.int (Int32.ofNat b)), .val (.int (Int32.ofNat c_)), .val (.int sel), .val (.int (Int32.ofNat d)), .val (.int (Int32.ofNat f)), .val (.ref b1), .val (.int (0 : Int32)), .val (.int (0 : Int32)), .val (.int (1 : Int32)), .unset, .unset, .unset, .unset, .unset, .unset]) rfl k_) ?_
          show OFin _ _ _ _ _ _ _ _ T6 (mkF m 213 #[.val (.int p0), .val (.int p1), .val (.int p2), .val (.int p3), .val (.int p4), .val (.int p5), .val (.int (Int32.ofNat n)), .val (.int (Int32.ofNat a)), .val (.int (Int32.ofNat b)), .val (.int (Int32.ofNat c_)), .val (.int sel), .val (.int (Int32.ofNat d)), .val (.int (Int32.ofNat f)), .val (.ref b1), .val (.int (0 : Int32)), .val (.int (0 : Int32)), .val (.int (1 : Int32)), .unset, .unset, .unset, .unset, .unset, .unset] [])
          exact jF _ _ _ T6 ⟨fun q => (q rfl).elim, fun q => (q f0).elim⟩ ⟨fun q => (q rfl).elim, fun q => (q f1).elim⟩ ⟨fun _ => f2, fun _ => by decide⟩ X6
      · refine X6.step (fun hA hx hq t_ k_ => XS.icmpNo hA hx rfl (hb hq at_189) rfl (feq (f1)).1 k_) ?_
        show OFin _ _ _ _ _ _ _ _ T6 (mkF m 192 #[.val (.int p0), .val (.int p1), .val (.int p2), .val (.int p3), .val (.int p4), .val (.int p5), .val (.int (Int32.ofNat n)), .val (.int (Int32.ofNat a)), .val (.int (Int32.ofNat b)), .val (.int (Int32.ofNat c_)), .val (.int sel), .val (.int (Int32.ofNat d)), .val (.int (Int32.ofNat f)), .val (.ref b1), .val (.int (0 : Int32)), .unset, .unset, .unset, .unset, .unset, .unset, .unset, .unset] [])
        rw [own_eq32 b d (by omega) (by omega)] at f1
        refine X6.step (fun hA hx hq t_ k_ => XS.iconst hA hx rfl (hb hq at_192) k_) ?_
        show OFin _ _ _ _ _ _ _ _ T6 (mkF m 193 #[.val (.int p0), .val (.int p1), .val (.int p2), .val (.int p3), .val (.int p4), .val (.int p5), .val (.int (Int32.ofNat n)), .val (.int (Int32.ofNat a)), .val (.int (Int32.ofNat b)), .val (.int (Int32.ofNat c_)), .val (.int sel), .val (.int (Int32.ofNat d)), .val (.int (Int32.ofNat f)), .val (.ref b1), .val (.int (0 : Int32)), .unset, .unset, .unset, .unset, .unset, .unset, .unset, .unset] [(.int (1 : Int32))])
        refine X6.step (fun hA hx hq t_ k_ => XS.goto hA hx rfl (pc0 := 193) (pc' := 197) rfl (hb hq at_193) (by decide) (by decide) k_) ?_
        show OFin _ _ _ _ _ _ _ _ T6 (mkF m 197 #[.val (.int p0), .val (.int p1), .val (.int p2), .val (.int p3), .val (.int p4), .val (.int p5), .val (.int (Int32.ofNat n)), .val (.int (Int32.ofNat a)), .val (.int (Int32.ofNat b)), .val (.int (Int32.ofNat c_)), .val (.int sel), .val (.int (Int32.ofNat d)), .val (.int (Int32.ofNat f)), .val (.ref b1), .val (.int (0 : Int32)), .unset, .unset, .unset, .unset, .unset, .unset, .unset, .unset] [(.int (1 : Int32))])
        refine X6.step (fun hA hx hq t_ k_ => XS.istore hA hx rfl (hb hq at_197) rfl (l' := #[.val (.int p0), .val (.int p1), .val (.int p2), .val (.int p3), .val (.int p4), .val (.int p5), .val (.int (Int32.ofNat n)), .val (.int (Int32.ofNat a)), .val (.int (Int32.ofNat b)), .val (.int (Int32.ofNat c_)), .val (.int sel), .val (.int (Int32.ofNat d)), .val (.int (Int32.ofNat f)), .val (.ref b1), .val (.int (0 : Int32)), .val (.int (1 : Int32)), .unset, .unset, .unset, .unset, .unset, .unset, .unset]) rfl k_) ?_
        show OFin _ _ _ _ _ _ _ _ T6 (mkF m 199 #[.val (.int p0), .val (.int p1), .val (.int p2), .val (.int p3), .val (.int p4), .val (.int p5), .val (.int (Int32.ofNat n)), .val (.int (Int32.ofNat a)), .val (.int (Int32.ofNat b)), .val (.int (Int32.ofNat c_)), .val (.int sel), .val (.int (Int32.ofNat d)), .val (.int (Int32.ofNat f)), .val (.ref b1), .val (.int (0 : Int32)), .val (.int (1 : Int32)), .unset, .unset, .unset, .unset, .unset, .unset, .unset] [])
        refine X6.step (fun hA hx hq t_ k_ => XS.iload hA hx rfl (hb hq at_199) rfl k_) ?_
        show OFin _ _ _ _ _ _ _ _ T6 (mkF m 201 #[.val (.int p0), .val (.int p1), .val (.int p2), .val (.int p3), .val (.int p4), .val (.int p5), .val (.int (Int32.ofNat n)), .val (.int (Int32.ofNat a)), .val (.int (Int32.ofNat b)), .val (.int (Int32.ofNat c_)), .val (.int sel), .val (.int (Int32.ofNat d)), .val (.int (Int32.ofNat f)), .val (.ref b1), .val (.int (0 : Int32)), .val (.int (1 : Int32)), .unset, .unset, .unset, .unset, .unset, .unset, .unset] [(.int (Int32.ofNat c_))])
        refine X6.step (fun hA hx hq t_ k_ => XS.iload hA hx rfl (hb hq at_201) rfl k_) ?_
        show OFin _ _ _ _ _ _ _ _ T6 (mkF m 203 #[.val (.int p0), .val (.int p1), .val (.int p2), .val (.int p3), .val (.int p4), .val (.int p5), .val (.int (Int32.ofNat n)), .val (.int (Int32.ofNat a)), .val (.int (Int32.ofNat b)), .val (.int (Int32.ofNat c_)), .val (.int sel), .val (.int (Int32.ofNat d)), .val (.int (Int32.ofNat f)), .val (.ref b1), .val (.int (0 : Int32)), .val (.int (1 : Int32)), .unset, .unset, .unset, .unset, .unset, .unset, .unset] [(.int (Int32.ofNat d)), (.int (Int32.ofNat c_))])
        by_cases f2 : (Int32.ofNat c_) = (Int32.ofNat d)
        · refine X6.step (fun hA hx hq t_ k_ => XS.icmpYes hA hx rfl (pc0 := 203) (pc' := 210) rfl (hb hq at_203) rfl (teq (f2)).1 (by decide) (by decide) k_) ?_
          show OFin _ _ _ _ _ _ _ _ T6 (mkF m 210 #[.val (.int p0), .val (.int p1), .val (.int p2), .val (.int p3), .val (.int p4), .val (.int p5), .val (.int (Int32.ofNat n)), .val (.int (Int32.ofNat a)), .val (.int (Int32.ofNat b)), .val (.int (Int32.ofNat c_)), .val (.int sel), .val (.int (Int32.ofNat d)), .val (.int (Int32.ofNat f)), .val (.ref b1), .val (.int (0 : Int32)), .val (.int (1 : Int32)), .unset, .unset, .unset, .unset, .unset, .unset, .unset] [])
          rw [own_eq32 c_ d (by omega) (by omega)] at f2
          refine X6.step (fun hA hx hq t_ k_ => XS.iconst hA hx rfl (hb hq at_210) k_) ?_
          show OFin _ _ _ _ _ _ _ _ T6 (mkF m 211 #[.val (.int p0), .val (.int p1), .val (.int p2), .val (.int p3), .val (.int p4), .val (.int p5), .val (.int (Int32.ofNat n)), .val (.int (Int32.ofNat a)), .val (.int (Int32.ofNat b)), .val (.int (Int32.ofNat c_)), .val (.int sel), .val (.int (Int32.ofNat d)), .val (.int (Int32.ofNat f)), .val (.ref b1), .val (.int (0 : Int32)), .val (.int (1 : Int32)), .unset, .unset, .unset, .unset, .unset, .unset, .unset] [(.int (0 : Int32))])
          refine X6.step (fun hA hx hq t_ k_ => XS.istore hA hx rfl (hb hq at_211) rfl (l' := #[.val (.int p0), .val (.int p1), .val (.int p2), .val (.int p3), .val (.int p4), .val (.int p5), .val (.int (Int32.ofNat n)), .val (.int (Int32.ofNat a)), .val (.int (Int32.ofNat b)), .val (.int (Int32.ofNat c_)), .val (.int sel), .val (.int (Int32.ofNat d)), .val (.int (Int32.ofNat f)), .val (.ref b1), .val (.int (0 : Int32)), .val (.int (1 : Int32)), .val (.int (0 : Int32)), .unset, .unset, .unset, .unset, .unset, .unset]) rfl k_) ?_
          show OFin _ _ _ _ _ _ _ _ T6 (mkF m 213 #[.val (.int p0), .val (.int p1), .val (.int p2), .val (.int p3), .val (.int p4), .val (.int p5), .val (.int (Int32.ofNat n)), .val (.int (Int32.ofNat a)), .val (.int (Int32.ofNat b)), .val (.int (Int32.ofNat c_)), .val (.int sel), .val (.int (Int32.ofNat d)), .val (.int (Int32.ofNat f)), .val (.ref b1), .val (.int (0 : Int32)), .val (.int (1 : Int32)), .val (.int (0 : Int32)), .unset, .unset, .unset, .unset, .unset, .unset] [])
          exact jF _ _ _ T6 ⟨fun q => (q rfl).elim, fun q => (q f0).elim⟩ ⟨fun _ => f1, fun _ => by decide⟩ ⟨fun q => (q rfl).elim, fun q => (q f2).elim⟩ X6
        · refine X6.step (fun hA hx hq t_ k_ => XS.icmpNo hA hx rfl (hb hq at_203) rfl (feq (f2)).1 k_) ?_
          show OFin _ _ _ _ _ _ _ _ T6 (mkF m 206 #[.val (.int p0), .val (.int p1), .val (.int p2), .val (.int p3), .val (.int p4), .val (.int p5), .val (.int (Int32.ofNat n)), .val (.int (Int32.ofNat a)), .val (.int (Int32.ofNat b)), .val (.int (Int32.ofNat c_)), .val (.int sel), .val (.int (Int32.ofNat d)), .val (.int (Int32.ofNat f)), .val (.ref b1), .val (.int (0 : Int32)), .val (.int (1 : Int32)), .unset, .unset, .unset, .unset, .unset, .unset, .unset] [])
          rw [own_eq32 c_ d (by omega) (by omega)] at f2
          refine X6.step (fun hA hx hq t_ k_ => XS.iconst hA hx rfl (hb hq at_206) k_) ?_
          show OFin _ _ _ _ _ _ _ _ T6 (mkF m 207 #[.val (.int p0), .val (.int p1), .val (.int p2), .val (.int p3), .val (.int p4), .val (.int p5), .val (.int (Int32.ofNat n)), .val (.int (Int32.ofNat a)), .val (.int (Int32.ofNat b)), .val (.int (Int32.ofNat c_)), .val (.int sel), .val (.int (Int32.ofNat d)), .val (.int (Int32.ofNat f)), .val (.ref b1), .val (.int (0 : Int32)), .val (.int (1 : Int32)), .unset, .unset, .unset, .unset, .unset, .unset, .unset] [(.int (1 : Int32))])
          refine X6.step (fun hA hx hq t_ k_ => XS.goto hA hx rfl (pc0 := 207) (pc' := 211) rfl (hb hq at_207) (by decide) (by decide) k_) ?_
          show OFin _ _ _ _ _ _ _ _ T6 (mkF m 211 #[.val (.int p0), .val (.int p1), .val (.int p2), .val (.int p3), .val (.int p4), .val (.int p5), .val (.int (Int32.ofNat n)), .val (.int (Int32.ofNat a)), .val (.int (Int32.ofNat b)), .val (.int (Int32.ofNat c_)), .val (.int sel), .val (.int (Int32.ofNat d)), .val (.int (Int32.ofNat f)), .val (.ref b1), .val (.int (0 : Int32)), .val (.int (1 : Int32)), .unset, .unset, .unset, .unset, .unset, .unset, .unset] [(.int (1 : Int32))])
          refine X6.step (fun hA hx hq t_ k_ => XS.istore hA hx rfl (hb hq at_211) rfl (l' := #[.val (.int p0), .val (.int p1), .val (.int p2), .val (.int p3), .val (.int p4), .val (.int p5), .val (.int (Int32.ofNat n)), .val (.int (Int32.ofNat a)), .val (.int (Int32.ofNat b)), .val (.int (Int32.ofNat c_)), .val (.int sel), .val (.int (Int32.ofNat d)), .val (.int (Int32.ofNat f)), .val (.ref b1), .val (.int (0 : Int32)), .val (.int (1 : Int32)), .val (.int (1 : Int32)), .unset, .unset, .unset, .unset, .unset, .unset]) rfl k_) ?_
          show OFin _ _ _ _ _ _ _ _ T6 (mkF m 213 #[.val (.int p0), .val (.int p1), .val (.int p2), .val (.int p3), .val (.int p4), .val (.int p5), .val (.int (Int32.ofNat n)), .val (.int (Int32.ofNat a)), .val (.int (Int32.ofNat b)), .val (.int (Int32.ofNat c_)), .val (.int sel), .val (.int (Int32.ofNat d)), .val (.int (Int32.ofNat f)), .val (.ref b1), .val (.int (0 : Int32)), .val (.int (1 : Int32)), .val (.int (1 : Int32)), .unset, .unset, .unset, .unset, .unset, .unset] [])
          exact jF _ _ _ T6 ⟨fun q => (q rfl).elim, fun q => (q f0).elim⟩ ⟨fun _ => f1, fun _ => by decide⟩ ⟨fun _ => f2, fun _ => by decide⟩ X6
    · refine X6.step (fun hA hx hq t_ k_ => XS.icmpNo hA hx rfl (hb hq at_175) rfl (feq (f0)).1 k_) ?_
      show OFin _ _ _ _ _ _ _ _ T6 (mkF m 178 #[.val (.int p0), .val (.int p1), .val (.int p2), .val (.int p3), .val (.int p4), .val (.int p5), .val (.int (Int32.ofNat n)), .val (.int (Int32.ofNat a)), .val (.int (Int32.ofNat b)), .val (.int (Int32.ofNat c_)), .val (.int sel), .val (.int (Int32.ofNat d)), .val (.int (Int32.ofNat f)), .val (.ref b1), .unset, .unset, .unset, .unset, .unset, .unset, .unset, .unset, .unset] [])
      rw [own_eq32 a d (by omega) (by omega)] at f0
      refine X6.step (fun hA hx hq t_ k_ => XS.iconst hA hx rfl (hb hq at_178) k_) ?_
      show OFin _ _ _ _ _ _ _ _ T6 (mkF m 179 #[.val (.int p0), .val (.int p1), .val (.int p2), .val (.int p3), .val (.int p4), .val (.int p5), .val (.int (Int32.ofNat n)), .val (.int (Int32.ofNat a)), .val (.int (Int32.ofNat b)), .val (.int (Int32.ofNat c_)), .val (.int sel), .val (.int (Int32.ofNat d)), .val (.int (Int32.ofNat f)), .val (.ref b1), .unset, .unset, .unset, .unset, .unset, .unset, .unset, .unset, .unset] [(.int (1 : Int32))])
      refine X6.step (fun hA hx hq t_ k_ => XS.goto hA hx rfl (pc0 := 179) (pc' := 183) rfl (hb hq at_179) (by decide) (by decide) k_) ?_
      show OFin _ _ _ _ _ _ _ _ T6 (mkF m 183 #[.val (.int p0), .val (.int p1), .val (.int p2), .val (.int p3), .val (.int p4), .val (.int p5), .val (.int (Int32.ofNat n)), .val (.int (Int32.ofNat a)), .val (.int (Int32.ofNat b)), .val (.int (Int32.ofNat c_)), .val (.int sel), .val (.int (Int32.ofNat d)), .val (.int (Int32.ofNat f)), .val (.ref b1), .unset, .unset, .unset, .unset, .unset, .unset, .unset, .unset, .unset] [(.int (1 : Int32))])
      refine X6.step (fun hA hx hq t_ k_ => XS.istore hA hx rfl (hb hq at_183) rfl (l' := #[.val (.int p0), .val (.int p1), .val (.int p2), .val (.int p3), .val (.int p4), .val (.int p5), .val (.int (Int32.ofNat n)), .val (.int (Int32.ofNat a)), .val (.int (Int32.ofNat b)), .val (.int (Int32.ofNat c_)), .val (.int sel), .val (.int (Int32.ofNat d)), .val (.int (Int32.ofNat f)), .val (.ref b1), .val (.int (1 : Int32)), .unset, .unset, .unset, .unset, .unset, .unset, .unset, .unset]) rfl k_) ?_
      show OFin _ _ _ _ _ _ _ _ T6 (mkF m 185 #[.val (.int p0), .val (.int p1), .val (.int p2), .val (.int p3), .val (.int p4), .val (.int p5), .val (.int (Int32.ofNat n)), .val (.int (Int32.ofNat a)), .val (.int (Int32.ofNat b)), .val (.int (Int32.ofNat c_)), .val (.int sel), .val (.int (Int32.ofNat d)), .val (.int (Int32.ofNat f)), .val (.ref b1), .val (.int (1 : Int32)), .unset, .unset, .unset, .unset, .unset, .unset, .unset, .unset] [])
      refine X6.step (fun hA hx hq t_ k_ => XS.iload hA hx rfl (hb hq at_185) rfl k_) ?_
      show OFin _ _ _ _ _ _ _ _ T6 (mkF m 187 #[.val (.int p0), .val (.int p1), .val (.int p2), .val (.int p3), .val (.int p4), .val (.int p5), .val (.int (Int32.ofNat n)), .val (.int (Int32.ofNat a)), .val (.int (Int32.ofNat b)), .val (.int (Int32.ofNat c_)), .val (.int sel), .val (.int (Int32.ofNat d)), .val (.int (Int32.ofNat f)), .val (.ref b1), .val (.int (1 : Int32)), .unset, .unset, .unset, .unset, .unset, .unset, .unset, .unset] [(.int (Int32.ofNat b))])
      refine X6.step (fun hA hx hq t_ k_ => XS.iload hA hx rfl (hb hq at_187) rfl k_) ?_
      show OFin _ _ _ _ _ _ _ _ T6 (mkF m 189 #[.val (.int p0), .val (.int p1), .val (.int p2), .val (.int p3), .val (.int p4), .val (.int p5), .val (.int (Int32.ofNat n)), .val (.int (Int32.ofNat a)), .val (.int (Int32.ofNat b)), .val (.int (Int32.ofNat c_)), .val (.int sel), .val (.int (Int32.ofNat d)), .val (.int (Int32.ofNat f)), .val (.ref b1), .val (.int (1 : Int32)), .unset, .unset, .unset, .unset, .unset, .unset, .unset, .unset] [(.int (Int32.ofNat d)), (.int (Int32.ofNat b))])
      by_cases f1 : (Int32.ofNat b) = (Int32.ofNat d)
      · refine X6.step (fun hA hx hq t_ k_ => XS.icmpYes hA hx rfl (pc0 := 189) (pc' := 196) rfl (hb hq at_189) rfl (teq (f1)).1 (by decide) (by decide) k_) ?_
        show OFin _ _ _ _ _ _ _ _ T6 (mkF m 196 #[.val (.int p0), .val (.int p1), .val (.int p2), .val (.int p3), .val (.int p4), .val (.int p5), .val (.int (Int32.ofNat n)), .val (.int (Int32.ofNat a)), .val (.int (Int32.ofNat b)), .val (.int (Int32.ofNat c_)), .val (.int sel), .val (.int (Int32.ofNat d)), .val (.int (Int32.ofNat f)), .val (.ref b1), .val (.int (1 : Int32)), .unset, .unset, .unset, .unset, .unset, .unset, .unset, .unset] [])
        rw [own_eq32 b d (by omega) (by omega)] at f1
        refine X6.step (fun hA hx hq t_ k_ => XS.iconst hA hx rfl (hb hq at_196) k_) ?_
        show OFin _ _ _ _ _ _ _ _ T6 (mkF m 197 #[.val (.int p0), .val (.int p1), .val (.int p2), .val (.int p3), .val (.int p4), .val (.int p5), .val (.int (Int32.ofNat n)), .val (.int (Int32.ofNat a)), .val (.int (Int32.ofNat b)), .val (.int (Int32.ofNat c_)), .val (.int sel), .val (.int (Int32.ofNat d)), .val (.int (Int32.ofNat f)), .val (.ref b1), .val (.int (1 : Int32)), .unset, .unset, .unset, .unset, .unset, .unset, .unset, .unset] [(.int (0 : Int32))])
        refine X6.step (fun hA hx hq t_ k_ => XS.istore hA hx rfl (hb hq at_197) rfl (l' := #[.val (.int p0), .val (.int p1), .val (.int p2), .val (.int p3), .val (.int p4), .val (.int p5), .val (.int (Int32.ofNat n)), .val (.int (Int32.ofNat a)), .val (.int (Int32.ofNat b)), .val (.int (Int32.ofNat c_)), .val (.int sel), .val (.int (Int32.ofNat d)), .val (.int (Int32.ofNat f)), .val (.ref b1), .val (.int (1 : Int32)), .val (.int (0 : Int32)), .unset, .unset, .unset, .unset, .unset, .unset, .unset]) rfl k_) ?_
        show OFin _ _ _ _ _ _ _ _ T6 (mkF m 199 #[.val (.int p0), .val (.int p1), .val (.int p2), .val (.int p3), .val (.int p4), .val (.int p5), .val (.int (Int32.ofNat n)), .val (.int (Int32.ofNat a)), .val (.int (Int32.ofNat b)), .val (.int (Int32.ofNat c_)), .val (.int sel), .val (.int (Int32.ofNat d)), .val (.int (Int32.ofNat f)), .val (.ref b1), .val (.int (1 : Int32)), .val (.int (0 : Int32)), .unset, .unset, .unset, .unset, .unset, .unset, .unset] [])
        refine X6.step (fun hA hx hq t_ k_ => XS.iload hA hx rfl (hb hq at_199) rfl k_) ?_
        show OFin _ _ _ _ _ _ _ _ T6 (mkF m 201 #[.val (.int p0), .val (.int p1), .val (.int p2), .val (.int p3), .val (.int p4), .val (.int p5), .val (.int (Int32.ofNat n)), .val (.int (Int32.ofNat a)), .val (.int (Int32.ofNat b)), .val (.int (Int32.ofNat c_)), .val (.int sel), .val (.int (Int32.ofNat d)), .val (.int (Int32.ofNat f)), .val (.ref b1), .val (.int (1 : Int32)), .val (.int (0 : Int32)), .unset, .unset, .unset, .unset, .unset, .unset, .unset] [(.int (Int32.ofNat c_))])
        refine X6.step (fun hA hx hq t_ k_ => XS.iload hA hx rfl (hb hq at_201) rfl k_) ?_
        show OFin _ _ _ _ _ _ _ _ T6 (mkF m 203 #[.val (.int p0), .val (.int p1), .val (.int p2), .val (.int p3), .val (.int p4), .val (.int p5), .val (.int (Int32.ofNat n)), .val (.int (Int32.ofNat a)), .val (.int (Int32.ofNat b)), .val (.int (Int32.ofNat c_)), .val (.int sel), .val (.int (Int32.ofNat d)), .val (.int (Int32.ofNat f)), .val (.ref b1), .val (.int (1 : Int32)), .val (.int (0 : Int32)), .unset, .unset, .unset, .unset, .unset, .unset, .unset] [(.int (Int32.ofNat d)), (.int (Int32.ofNat c_))])
        by_cases f2 : (Int32.ofNat c_) = (Int32.ofNat d)
        · refine X6.step (fun hA hx hq t_ k_ => XS.icmpYes hA hx rfl (pc0 := 203) (pc' := 210) rfl (hb hq at_203) rfl (teq (f2)).1 (by decide) (by decide) k_) ?_
          show OFin _ _ _ _ _ _ _ _ T6 (mkF m 210 #[.val (.int p0), .val (.int p1), .val (.int p2), .val (.int p3), .val (.int p4), .val (.int p5), .val (.int (Int32.ofNat n)), .val (.int (Int32.ofNat a)), .val (.int (Int32.ofNat b)), .val (.int (Int32.ofNat c_)), .val (.int sel), .val (.int (Int32.ofNat d)), .val (.int (Int32.ofNat f)), .val (.ref b1), .val (.int (1 : Int32)), .val (.int (0 : Int32)), .unset, .unset, .unset, .unset, .unset, .unset, .unset] [])
          rw [own_eq32 c_ d (by omega) (by omega)] at f2
          refine X6.step (fun hA hx hq t_ k_ => XS.iconst hA hx rfl (hb hq at_210) k_) ?_
          show OFin _ _ _ _ _ _ _ _ T6 (mkF m 211 #[.val (.int p0), .val (.int p1), .val (.int p2), .val (.int p3), .val (.int p4), .val (.int p5), .val (.int (Int32.ofNat n)), .val (.int (Int32.ofNat a)), .val (.int (Int32.ofNat b)), .val (.int (Int32.ofNat c_)), .val (.int sel), .val (.int (Int32.ofNat d)), .val (.int (Int32.ofNat f)), .val (.ref b1), .val (.int (1 : Int32)), .val (.int (0 : Int32)), .unset, .unset, .unset, .unset, .unset, .unset, .unset] [(.int (0 : Int32))])
          refine X6.step (fun hA hx hq t_ k_ => XS.istore hA hx rfl (hb hq at_211) rfl (l' := #[.val (.int p0), .val (.int p1), .val (.int p2), .val (.int p3), .val (.int p4), .val (.int p5), .val (.int (Int32.ofNat n)), .val (.int (Int32.ofNat a)), .val (.int (Int32.ofNat b)), .val (.int (Int32.ofNat c_)), .val (.int sel), .val (.int (Int32.ofNat d)), .val (.int (Int32.ofNat f)), .val (.ref b1), .val (.int (1 : Int32)), .val (.int (0 : Int32)), .val (.int (0 : Int32)), .unset, .unset, .unset, .unset, .unset, .unset]) rfl k_) ?_
          show OFin _ _ _ _ _ _ _ _ T6 (mkF m 213 #[.val (.int p0), .val (.int p1), .val (.int p2), .val (.int p3), .val (.int p4), .val (.int p5), .val (.int (Int32.ofNat n)), .val (.int (Int32.ofNat a)), .val (.int (Int32.ofNat b)), .val (.int (Int32.ofNat c_)), .val (.int sel), .val (.int (Int32.ofNat d)), .val (.int (Int32.ofNat f)), .val (.ref b1), .val (.int (1 : Int32)), .val (.int (0 : Int32)), .val (.int (0 : Int32)), .unset, .unset, .unset, .unset, .unset, .unset] [])
          exact jF _ _ _ T6 ⟨fun _ => f0, fun _ => by decide⟩ ⟨fun q => (q rfl).elim, fun q => (q f1).elim⟩ ⟨fun q => (q rfl).elim, fun q => (q f2).elim⟩ X6
        · refine X6.step (fun hA hx hq t_ k_ => XS.icmpNo hA hx rfl (hb hq at_203) rfl (feq (f2)).1 k_) ?_
          show OFin _ _ _ _ _ _ _ _ T6 (mkF m 206 #[.val (.int p0), .val (.int p1), .val (.int p2), .val (.int p3), .val (.int p4), .val (.int p5), .val (.int (Int32.ofNat n)), .val (.int (Int32.ofNat a)), .val (.int (Int32.ofNat b)), .val (.int (Int32.ofNat c_)), .val (.int sel), .val (.int (Int32.ofNat d)), .val (.int (Int32.ofNat f)), .val (.ref b1), .val (.int (1 : Int32)), .val (.int (0 : Int32)), .unset, .unset, .unset, .unset, .unset, .unset, .unset] [])
          rw [own_eq32 c_ d (by omega) (by omega)] at f2
          refine X6.step (fun hA hx hq t_ k_ => XS.iconst hA hx rfl (hb hq at_206) k_) ?_
          show OFin _ _ _ _ _ _ _ _ T6 (mkF m 207 #[.val (.int p0), .val (.int p1), .val (.int p2), .val (.int p3), .val (.int p4), .val (.int p5), .val (.int (Int32.ofNat n)), .val (.int (Int32.ofNat a)), .val (.int (Int32.ofNat b)), .val (.int (Int32.ofNat c_)), .val (.int sel), .val (.int (Int32.ofNat d)), .val (.int (Int32.ofNat f)), .val (.ref b1), .val (.int (1 : Int32)), .val (.int (0 : Int32)), .unset, .unset, .unset, .unset, .unset, .unset, .unset] [(.int (1 : Int32))])
          refine X6.step (fun hA hx hq t_ k_ => XS.goto hA hx rfl (pc0 := 207) (pc' := 211) rfl (hb hq at_207) (by decide) (by decide) k_) ?_
          show OFin _ _ _ _ _ _ _ _ T6 (mkF m 211 #[.val (.int p0), .val (.int p1), .val (.int p2), .val (.int p3), .val (.int p4), .val (.int p5), .val (.int (Int32.ofNat n)), .val (.int (Int32.ofNat a)), .val (.int (Int32.ofNat b)), .val (.int (Int32.ofNat c_)), .val (.int sel), .val (.int (Int32.ofNat d)), .val (.int (Int32.ofNat f)), .val (.ref b1), .val (.int (1 : Int32)), .val (.int (0 : Int32)), .unset, .unset, .unset, .unset, .unset, .unset, .unset] [(.int (1 : Int32))])
          refine X6.step (fun hA hx hq t_ k_ => XS.istore hA hx rfl (hb hq at_211) rfl (l' := #[.val (.int p0), .val (.int p1), .val (.int p2), .val (.int p3), .val (.int p4), .val (.int p5), .val (.int (Int32.ofNat n)), .val (.int (Int32.ofNat a)), .val (.int (Int32.ofNat b)), .val (.int (Int32.ofNat c_)), .val (.int sel), .val (.int (Int32.ofNat d)), .val (.int (Int32.ofNat f)), .val (.ref b1), .val (.int (1 : Int32)), .val (.int (0 : Int32)), .val (.int (1 : Int32)), .unset, .unset, .unset, .unset, .unset, .unset]) rfl k_) ?_
          show OFin _ _ _ _ _ _ _ _ T6 (mkF m 213 #[.val (.int p0), .val (.int p1), .val (.int p2), .val (.int p3), .val (.int p4), .val (.int p5), .val (.int (Int32.ofNat n)), .val (.int (Int32.ofNat a)), .val (.int (Int32.ofNat b)), .val (.int (Int32.ofNat c_)), .val (.int sel), .val (.int (Int32.ofNat d)), .val (.int (Int32.ofNat f)), .val (.ref b1), .val (.int (1 : Int32)), .val (.int (0 : Int32)), .val (.int (1 : Int32)), .unset, .unset, .unset, .unset, .unset, .unset] [])
          exact jF _ _ _ T6 ⟨fun _ => f0, fun _ => by decide⟩ ⟨fun q => (q rfl).elim, fun q => (q f1).elim⟩ ⟨fun _ => f2, fun _ => by decide⟩ X6
      · refine X6.step (fun hA hx hq t_ k_ => XS.icmpNo hA hx rfl (hb hq at_189) rfl (feq (f1)).1 k_) ?_
        show OFin _ _ _ _ _ _ _ _ T6 (mkF m 192 #[.val (.int p0), .val (.int p1), .val (.int p2), .val (.int p3), .val (.int p4), .val (.int p5), .val (.int (Int32.ofNat n)), .val (.int (Int32.ofNat a)), .val (.int (Int32.ofNat b)), .val (.int (Int32.ofNat c_)), .val (.int sel), .val (.int (Int32.ofNat d)), .val (.int (Int32.ofNat f)), .val (.ref b1), .val (.int (1 : Int32)), .unset, .unset, .unset, .unset, .unset, .unset, .unset, .unset] [])
        rw [own_eq32 b d (by omega) (by omega)] at f1
        refine X6.step (fun hA hx hq t_ k_ => XS.iconst hA hx rfl (hb hq at_192) k_) ?_
        show OFin _ _ _ _ _ _ _ _ T6 (mkF m 193 #[.val (.int p0), .val (.int p1), .val (.int p2), .val (.int p3), .val (.int p4), .val (.int p5), .val (.int (Int32.ofNat n)), .val (.int (Int32.ofNat a)), .val (.int (Int32.ofNat b)), .val (.int (Int32.ofNat c_)), .val (.int sel), .val (.int (Int32.ofNat d)), .val (.int (Int32.ofNat f)), .val (.ref b1), .val (.int (1 : Int32)), .unset, .unset, .unset, .unset, .unset, .unset, .unset, .unset] [(.int (1 : Int32))])
        refine X6.step (fun hA hx hq t_ k_ => XS.goto hA hx rfl (pc0 := 193) (pc' := 197) rfl (hb hq at_193) (by decide) (by decide) k_) ?_
        show OFin _ _ _ _ _ _ _ _ T6 (mkF m 197 #[.val (.int p0), .val (.int p1), .val (.int p2), .val (.int p3), .val (.int p4), .val (.int p5), .val (.int (Int32.ofNat n)), .val (.int (Int32.ofNat a)), .val (.int (Int32.ofNat b)), .val (.int (Int32.ofNat c_)), .val (.int sel), .val (.int (Int32.ofNat d)), .val (.int (Int32.ofNat f)), .val (.ref b1), .val (.int (1 : Int32)), .unset, .unset, .unset, .unset, .unset, .unset, .unset, .unset] [(.int (1 : Int32))])
        refine X6.step (fun hA hx hq t_ k_ => XS.istore hA hx rfl (hb hq at_197) rfl (l' := #[.val (.int p0), .val (.int p1), .val (.int p2), .val (.int p3), .val (.int p4), .val (.int p5), .val (.int (Int32.ofNat n)), .val (.int (Int32.ofNat a)), .val (.int (Int32.ofNat b)), .val (.int (Int32.ofNat c_)), .val (.int sel), .val (.int (Int32.ofNat d)), .val (.int (Int32.ofNat f)), .val (.ref b1), .val (.int (1 : Int32)), .val (.int (1 : Int32)), .unset, .unset, .unset, .unset, .unset, .unset, .unset]) rfl k_) ?_
        show OFin _ _ _ _ _ _ _ _ T6 (mkF m 199 #[.val (.int p0), .val (.int p1), .val (.int p2), .val (.int p3), .val (.int p4), .val (.int p5), .val (.int (Int32.ofNat n)), .val (.int (Int32.ofNat a)), .val (.int (Int32.ofNat b)), .val (.int (Int32.ofNat c_)), .val (.int sel), .val (.int (Int32.ofNat d)), .val (.int (Int32.ofNat f)), .val (.ref b1), .val (.int (1 : Int32)), .val (.int (1 : Int32)), .unset, .unset, .unset, .unset, .unset, .unset, .unset] [])
        refine X6.step (fun hA hx hq t_ k_ => XS.iload hA hx rfl (hb hq at_199) rfl k_) ?_
        show OFin _ _ _ _ _ _ _ _ T6 (mkF m 201 #[.val (.int p0), .val (.int p1), .val (.int p2), .val (.int p3), .val (.int p4), .val (.int p5), .val (.int (Int32.ofNat n)), .val (.int (Int32.ofNat a)), .val (.int (Int32.ofNat b)), .val (.int (Int32.ofNat c_)), .val (.int sel), .val (.int (Int32.ofNat d)), .val (.int (Int32.ofNat f)), .val (.ref b1), .val (.int (1 : Int32)), .val (.int (1 : Int32)), .unset, .unset, .unset, .unset, .unset, .unset, .unset] [(.int (Int32.ofNat c_))])
        refine X6.step (fun hA hx hq t_ k_ => XS.iload hA hx rfl (hb hq at_201) rfl k_) ?_
        show OFin _ _ _ _ _ _ _ _ T6 (mkF m 203 #[.val (.int p0), .val (.int p1), .val (.int p2), .val (.int p3), .val (.int p4), .val (.int p5), .val (.int (Int32.ofNat n)), .val (.int (Int32.ofNat a)), .val (.int (Int32.ofNat b)), .val (.int (Int32.ofNat c_)), .val (.int sel), .val (.int (Int32.ofNat d)), .val (.int (Int32.ofNat f)), .val (.ref b1), .val (.int (1 : Int32)), .val (.int (1 : Int32)), .unset, .unset, .unset, .unset, .unset, .unset, .unset] [(.int (Int32.ofNat d)), (.int (Int32.ofNat c_))])
        by_cases f2 : (Int32.ofNat c_) = (Int32.ofNat d)
        · refine X6.step (fun hA hx hq t_ k_ => XS.icmpYes hA hx rfl (pc0 := 203) (pc' := 210) rfl (hb hq at_203) rfl (teq (f2)).1 (by decide) (by decide) k_) ?_
          show OFin _ _ _ _ _ _ _ _ T6 (mkF m 210 #[.val (.int p0), .val (.int p1), .val (.int p2), .val (.int p3), .val (.int p4), .val (.int p5), .val (.int (Int32.ofNat n)), .val (.int (Int32.ofNat a)), .val (.int (Int32.ofNat b)), .val (.int (Int32.ofNat c_)), .val (.int sel), .val (.int (Int32.ofNat d)), .val (.int (Int32.ofNat f)), .val (.ref b1), .val (.int (1 : Int32)), .val (.int (1 : Int32)), .unset, .unset, .unset, .unset, .unset, .unset, .unset] [])
          rw [own_eq32 c_ d (by omega) (by omega)] at f2
          refine X6.step (fun hA hx hq t_ k_ => XS.iconst hA hx rfl (hb hq at_210) k_) ?_
          show OFin _ _ _ _ _ _ _ _ T6 (mkF m 211 #[.val (.int p0), .val (.int p1), .val (.int p2), .val (.int p3), .val (.int p4), .val (.int p5), .val (.int (Int32.ofNat n)), .val (.int (Int32.ofNat a)), .val (.int (Int32.ofNat b)), .val (.int (Int32.ofNat c_)), .val (.int sel), .val (.int (Int32.ofNat d)), .val (.int (Int32.ofNat f)), .val (.ref b1), .val (.int (1 : Int32)), .val (.int (1 : Int32)), .unset, .unset, .unset, .unset, .unset, .unset, .unset] [(.int (0 : Int32))])
          refine X6.step (fun hA hx hq t_ k_ => XS.istore hA hx rfl (hb hq at_211) rfl (l' := #[.val (.int p0), .val (.int p1), .val (.int p2), .val (.int p3), .val (.int p4), .val (.int p5), .val (.int (Int32.ofNat n)), .val (.int (Int32.ofNat a)), .val (.int (Int32.ofNat b)), .val (.int (Int32.ofNat c_)), .val (.int sel), .val (.int (Int32.ofNat d)), .val (.int (Int32.ofNat f)), .val (.ref b1), .val (.int (1 : Int32)), .val (.int (1 : Int32)), .val (.int (0 : Int32)), .unset, .unset, .unset, .unset, .unset, .unset]) rfl k_) ?_
          show OFin _ _ _ _ _ _ _ _ T6 (mkF m 213 #[.val (.int p0), .val (.int p1), .val (.int p2), .val (.int p3), .val (.int p4), .val (.int p5), .val (.int (Int32.ofNat n)), .val (.int (Int32.ofNat a)), .val (.int (Int32.ofNat b)), .val (.int (Int32.ofNat c_)), .val (.int sel), .val (.int (Int32.ofNat d)), .val (.int (Int32.ofNat f)), .val (.ref b1), .val (.int (1 : Int32)), .val (.int (1 : Int32)), .val (.int (0 : Int32)), .unset, .unset, .unset, .unset, .unset, .unset] [])
          exact jF _ _ _ T6 ⟨fun _ => f0, fun _ => by decide⟩ ⟨fun _ => f1, fun _ => by decide⟩ ⟨fun q => (q rfl).elim, fun q => (q f2).elim⟩ X6
        · refine X6.step (fun hA hx hq t_ k_ => XS.icmpNo hA hx rfl (hb hq at_203) rfl (feq (f2)).1 k_) ?_
          show OFin _ _ _ _ _ _ _ _ T6 (mkF m 206 #[.val (.int p0), .val (.int p1), .val (.int p2), .val (.int p3), .val (.int p4), .val (.int p5), .val (.int (Int32.ofNat n)), .val (.int (Int32.ofNat a)), .val (.int (Int32.ofNat b)), .val (.int (Int32.ofNat c_)), .val (.int sel), .val (.int (Int32.ofNat d)), .val (.int (Int32.ofNat f)), .val (.ref b1), .val (.int (1 : Int32)), .val (.int (1 : Int32)), .unset, .unset, .unset, .unset, .unset, .unset, .unset] [])
          rw [own_eq32 c_ d (by omega) (by omega)] at f2
          refine X6.step (fun hA hx hq t_ k_ => XS.iconst hA hx rfl (hb hq at_206) k_) ?_
          show OFin _ _ _ _ _ _ _ _ T6 (mkF m 207 #[.val (.int p0), .val (.int p1), .val (.int p2), .val (.int p3), .val (.int p4), .val (.int p5), .val (.int (Int32.ofNat n)), .val (.int (Int32.ofNat a)), .val (.int (Int32.ofNat b)), .val (.int (Int32.ofNat c_)), .val (.int sel), .val (.int (Int32.ofNat d)), .val (.int (Int32.ofNat f)), .val (.ref b1), .val (.int (1 : Int32)), .val (.int (1 : Int32)), .unset, .unset, .unset, .unset, .unset, .unset, .unset] [(.int (1 : Int32))])
          refine X6.step (fun hA hx hq t_ k_ => XS.goto hA hx rfl (pc0 := 207) (pc' := 211) rfl (hb hq at_207) (by decide) (by decide) k_) ?_
          show OFin _ _ _ _ _ _ _ _ T6 (mkF m 211 #[.val (.int p0), .val (.int p1), .val (.int p2), .val (.int p3), .val (.int p4), .val (.int p5), .val (.int (Int32.ofNat n)), .val (.int (Int32.ofNat a)), .val (.int (Int32.ofNat b)), .val (.int (Int32.ofNat c_)), .val (.int sel), .val (.int (Int32.ofNat d)), .val (.int (Int32.ofNat f)), .val (.ref b1), .val (.int (1 : Int32)), .val (.int (1 : Int32)), .unset, .unset, .unset, .unset, .unset, .unset, .unset] [(.int (1 : Int32))])
          refine X6.step (fun hA hx hq t_ k_ => XS.istore hA hx rfl (hb hq at_211) rfl (l' := #[.val (.int p0), .val (.int p1), .val (.int p2), .val (.int p3), .val (.int p4), .val (.int p5), .val (.int (Int32.ofNat n)), .val (.int (Int32.ofNat a)), .val (.int (Int32.ofNat b)), .val (.int (Int32.ofNat c_)), .val (.int sel), .val (.int (Int32.ofNat d)), .val (.int (Int32.ofNat f)), .val (.ref b1), .val (.int (1 : Int32)), .val (.int (1 : Int32)), .val (.int (1 : Int32)), .unset, .unset, .unset, .unset, .unset, .unset]) rfl k_) ?_
          show OFin _ _ _ _ _ _ _ _ T6 (mkF m 213 #[.val (.int p0), .val (.int p1), .val (.int p2), .val (.int p3), .val (.int p4), .val (.int p5), .val (.int (Int32.ofNat n)), .val (.int (Int32.ofNat a)), .val (.int (Int32.ofNat b)), .val (.int (Int32.ofNat c_)), .val (.int sel), .val (.int (Int32.ofNat d)), .val (.int (Int32.ofNat f)), .val (.ref b1), .val (.int (1 : Int32)), .val (.int (1 : Int32)), .val (.int (1 : Int32)), .unset, .unset, .unset, .unset, .unset, .unset] [])
          exact jF _ _ _ T6 ⟨fun _ => f0, fun _ => by decide⟩ ⟨fun _ => f1, fun _ => by decide⟩ ⟨fun _ => f2, fun _ => by decide⟩ X6
  have jC : ∀ (b c_ : Nat) (T : State), b < n → c_ < n → OAt n0 Z x code maxLocals ret p l e room_1 s m #[(.int p0), (.int p1), (.int p2), (.int p3), (.int p4), (.int p5)] below meth c T h0 0 0 → OFin n0 p e s below (fun v h => v = some (.int 1)) room_1.cells room_1.slots T (mkF m 67 #[.val (.int p0), .val (.int p1), .val (.int p2), .val (.int p3), .val (.int p4), .val (.int p5), .val (.int (Int32.ofNat n)), .val (.int (Int32.ofNat a)), .val (.int (Int32.ofNat b)), .val (.int (Int32.ofNat c_)), .unset, .unset, .unset, .unset, .unset, .unset, .unset, .unset, .unset, .unset, .unset, .unset, .unset] []) := by
    intro b c_ T ltb hc X
    refine X.step (fun hA hx hq t_ k_ => XS.iload hA hx rfl (hb hq at_67) rfl k_) ?_
    show OFin _ _ _ _ _ _ _ _ T (mkF m 69 #[.val (.int p0), .val (.int p1), .val (.int p2), .val (.int p3), .val (.int p4), .val (.int p5), .val (.int (Int32.ofNat n)), .val (.int (Int32.ofNat a)), .val (.int (Int32.ofNat b)), .val (.int (Int32.ofNat c_)), .unset, .unset, .unset, .unset, .unset, .unset, .unset, .unset, .unset, .unset, .unset, .unset, .unset] [(.int p4)])
    refine X.step (fun hA hx hq t_ k_ => XS.iconst hA hx rfl (hb hq at_69) k_) ?_
    show OFin _ _ _ _ _ _ _ _ T (mkF m 70 #[.val (.int p0), .val (.int p1), .val (.int p2), .val (.int p3), .val (.int p4), .val (.int p5), .val (.int (Int32.ofNat n)), .val (.int (Int32.ofNat a)), .val (.int (Int32.ofNat b)), .val (.int (Int32.ofNat c_)), .unset, .unset, .unset, .unset, .unset, .unset, .unset, .unset, .unset, .unset, .unset, .unset, .unset] [(.int (3 : Int32)), (.int p4)])
    refine X.step (fun hA hx hq t_ k_ => XS.iand hA hx rfl (hb hq at_70) rfl k_) ?_
    show OFin _ _ _ _ _ _ _ _ T (mkF m 71 #[.val (.int p0), .val (.int p1), .val (.int p2), .val (.int p3), .val (.int p4), .val (.int p5), .val (.int (Int32.ofNat n)), .val (.int (Int32.ofNat a)), .val (.int (Int32.ofNat b)), .val (.int (Int32.ofNat c_)), .unset, .unset, .unset, .unset, .unset, .unset, .unset, .unset, .unset, .unset, .unset, .unset, .unset] [(.int (p4 &&& (3 : Int32)))])
    refine X.step (fun hA hx hq t_ k_ => XS.istore hA hx rfl (hb hq at_71) rfl (l' := #[.val (.int p0), .val (.int p1), .val (.int p2), .val (.int p3), .val (.int p4), .val (.int p5), .val (.int (Int32.ofNat n)), .val (.int (Int32.ofNat a)), .val (.int (Int32.ofNat b)), .val (.int (Int32.ofNat c_)), .val (.int (p4 &&& (3 : Int32))), .unset, .unset, .unset, .unset, .unset, .unset, .unset, .unset, .unset, .unset, .unset, .unset]) rfl k_) ?_
    show OFin _ _ _ _ _ _ _ _ T (mkF m 73 #[.val (.int p0), .val (.int p1), .val (.int p2), .val (.int p3), .val (.int p4), .val (.int p5), .val (.int (Int32.ofNat n)), .val (.int (Int32.ofNat a)), .val (.int (Int32.ofNat b)), .val (.int (Int32.ofNat c_)), .val (.int (p4 &&& (3 : Int32))), .unset, .unset, .unset, .unset, .unset, .unset, .unset, .unset, .unset, .unset, .unset, .unset] [])
    refine X.step (fun hA hx hq t_ k_ => XS.iload hA hx rfl (hb hq at_73) rfl k_) ?_
    show OFin _ _ _ _ _ _ _ _ T (mkF m 75 #[.val (.int p0), .val (.int p1), .val (.int p2), .val (.int p3), .val (.int p4), .val (.int p5), .val (.int (Int32.ofNat n)), .val (.int (Int32.ofNat a)), .val (.int (Int32.ofNat b)), .val (.int (Int32.ofNat c_)), .val (.int (p4 &&& (3 : Int32))), .unset, .unset, .unset, .unset, .unset, .unset, .unset, .unset, .unset, .unset, .unset, .unset] [(.int (p4 &&& (3 : Int32)))])
    by_cases s0 : (p4 &&& (3 : Int32)) = (0 : Int32)
    · refine X.step (fun hA hx hq t_ k_ => XS.ifNo hA hx rfl (hb hq at_75) rfl ((if0 _ _).trans (teq (s0)).2) k_) ?_
      show OFin _ _ _ _ _ _ _ _ T (mkF m 78 #[.val (.int p0), .val (.int p1), .val (.int p2), .val (.int p3), .val (.int p4), .val (.int p5), .val (.int (Int32.ofNat n)), .val (.int (Int32.ofNat a)), .val (.int (Int32.ofNat b)), .val (.int (Int32.ofNat c_)), .val (.int (p4 &&& (3 : Int32))), .unset, .unset, .unset, .unset, .unset, .unset, .unset, .unset, .unset, .unset, .unset, .unset] [])
      refine X.step (fun hA hx hq t_ k_ => XS.iload hA hx rfl (hb hq at_78) rfl k_) ?_
      show OFin _ _ _ _ _ _ _ _ T (mkF m 80 #[.val (.int p0), .val (.int p1), .val (.int p2), .val (.int p3), .val (.int p4), .val (.int p5), .val (.int (Int32.ofNat n)), .val (.int (Int32.ofNat a)), .val (.int (Int32.ofNat b)), .val (.int (Int32.ofNat c_)), .val (.int (p4 &&& (3 : Int32))), .unset, .unset, .unset, .unset, .unset, .unset, .unset, .unset, .unset, .unset, .unset, .unset] [(.int (Int32.ofNat a))])
      refine X.step (fun hA hx hq t_ k_ => XS.istore hA hx rfl (hb hq at_80) rfl (l' := #[.val (.int p0), .val (.int p1), .val (.int p2), .val (.int p3), .val (.int p4), .val (.int p5), .val (.int (Int32.ofNat n)), .val (.int (Int32.ofNat a)), .val (.int (Int32.ofNat b)), .val (.int (Int32.ofNat c_)), .val (.int (p4 &&& (3 : Int32))), .val (.int (Int32.ofNat a)), .unset, .unset, .unset, .unset, .unset, .unset, .unset, .unset, .unset, .unset, .unset]) rfl k_) ?_
      show OFin _ _ _ _ _ _ _ _ T (mkF m 82 #[.val (.int p0), .val (.int p1), .val (.int p2), .val (.int p3), .val (.int p4), .val (.int p5), .val (.int (Int32.ofNat n)), .val (.int (Int32.ofNat a)), .val (.int (Int32.ofNat b)), .val (.int (Int32.ofNat c_)), .val (.int (p4 &&& (3 : Int32))), .val (.int (Int32.ofNat a)), .unset, .unset, .unset, .unset, .unset, .unset, .unset, .unset, .unset, .unset, .unset] [])
      refine X.step (fun hA hx hq t_ k_ => XS.goto hA hx rfl (pc0 := 82) (pc' := 120) rfl (hb hq at_82) (by decide) (by decide) k_) ?_
      show OFin _ _ _ _ _ _ _ _ T (mkF m 120 #[.val (.int p0), .val (.int p1), .val (.int p2), .val (.int p3), .val (.int p4), .val (.int p5), .val (.int (Int32.ofNat n)), .val (.int (Int32.ofNat a)), .val (.int (Int32.ofNat b)), .val (.int (Int32.ofNat c_)), .val (.int (p4 &&& (3 : Int32))), .val (.int (Int32.ofNat a)), .unset, .unset, .unset, .unset, .unset, .unset, .unset, .unset, .unset, .unset, .unset] [])
      exact jD b c_ a _ T ltb hc ha X
    · refine X.step (fun hA hx hq t_ k_ => XS.ifYes hA hx rfl (pc0 := 75) (pc' := 85) rfl (hb hq at_75) rfl ((if0 _ _).trans (feq (s0)).2) (by decide) (by decide) k_) ?_
      show OFin _ _ _ _ _ _ _ _ T (mkF m 85 #[.val (.int p0), .val (.int p1), .val (.int p2), .val (.int p3), .val (.int p4), .val (.int p5), .val (.int (Int32.ofNat n)), .val (.int (Int32.ofNat a)), .val (.int (Int32.ofNat b)), .val (.int (Int32.ofNat c_)), .val (.int (p4 &&& (3 : Int32))), .unset, .unset, .unset, .unset, .unset, .unset, .unset, .unset, .unset, .unset, .unset, .unset] [])
      refine X.step (fun hA hx hq t_ k_ => XS.iload hA hx rfl (hb hq at_85) rfl k_) ?_
      show OFin _ _ _ _ _ _ _ _ T (mkF m 87 #[.val (.int p0), .val (.int p1), .val (.int p2), .val (.int p3), .val (.int p4), .val (.int p5), .val (.int (Int32.ofNat n)), .val (.int (Int32.ofNat a)), .val (.int (Int32.ofNat b)), .val (.int (Int32.ofNat c_)), .val (.int (p4 &&& (3 : Int32))), .unset, .unset, .unset, .unset, .unset, .unset, .unset, .unset, .unset, .unset, .unset, .unset] [(.int (p4 &&& (3 : Int32)))])
      refine X.step (fun hA hx hq t_ k_ => XS.iconst hA hx rfl (hb hq at_87) k_) ?_
      show OFin _ _ _ _ _ _ _ _ T (mkF m 88 #[.val (.int p0), .val (.int p1), .val (.int p2), .val (.int p3), .val (.int p4), .val (.int p5), .val (.int (Int32.ofNat n)), .val (.int (Int32.ofNat a)), .val (.int (Int32.ofNat b)), .val (.int (Int32.ofNat c_)), .val (.int (p4 &&& (3 : Int32))), .unset, .unset, .unset, .unset, .unset, .unset, .unset, .unset, .unset, .unset, .unset, .unset] [(.int (1 : Int32)), (.int (p4 &&& (3 : Int32)))])
      by_cases s1 : (p4 &&& (3 : Int32)) = (1 : Int32)
      · refine X.step (fun hA hx hq t_ k_ => XS.icmpNo hA hx rfl (hb hq at_88) rfl (teq (s1)).2 k_) ?_
        show OFin _ _ _ _ _ _ _ _ T (mkF m 91 #[.val (.int p0), .val (.int p1), .val (.int p2), .val (.int p3), .val (.int p4), .val (.int p5), .val (.int (Int32.ofNat n)), .val (.int (Int32.ofNat a)), .val (.int (Int32.ofNat b)), .val (.int (Int32.ofNat c_)), .val (.int (p4 &&& (3 : Int32))), .unset, .unset, .unset, .unset, .unset, .unset, .unset, .unset, .unset, .unset, .unset, .unset] [])
        refine X.step (fun hA hx hq t_ k_ => XS.iload hA hx rfl (hb hq at_91) rfl k_) ?_
        show OFin _ _ _ _ _ _ _ _ T (mkF m 93 #[.val (.int p0), .val (.int p1), .val (.int p2), .val (.int p3), .val (.int p4), .val (.int p5), .val (.int (Int32.ofNat n)), .val (.int (Int32.ofNat a)), .val (.int (Int32.ofNat b)), .val (.int (Int32.ofNat c_)), .val (.int (p4 &&& (3 : Int32))), .unset, .unset, .unset, .unset, .unset, .unset, .unset, .unset, .unset, .unset, .unset, .unset] [(.int (Int32.ofNat b))])
        refine X.step (fun hA hx hq t_ k_ => XS.istore hA hx rfl (hb hq at_93) rfl (l' := #[.val (.int p0), .val (.int p1), .val (.int p2), .val (.int p3), .val (.int p4), .val (.int p5), .val (.int (Int32.ofNat n)), .val (.int (Int32.ofNat a)), .val (.int (Int32.ofNat b)), .val (.int (Int32.ofNat c_)), .val (.int (p4 &&& (3 : Int32))), .val (.int (Int32.ofNat b)), .unset, .unset, .unset, .unset, .unset, .unset, .unset, .unset, .unset, .unset, .unset]) rfl k_) ?_
        show OFin _ _ _ _ _ _ _ _ T (mkF m 95 #[.val (.int p0), .val (.int p1), .val (.int p2), .val (.int p3), .val (.int p4), .val (.int p5), .val (.int (Int32.ofNat n)), .val (.int (Int32.ofNat a)), .val (.int (Int32.ofNat b)), .val (.int (Int32.ofNat c_)), .val (.int (p4 &&& (3 : Int32))), .val (.int (Int32.ofNat b)), .unset, .unset, .unset, .unset, .unset, .unset, .unset, .unset, .unset, .unset, .unset] [])
        refine X.step (fun hA hx hq t_ k_ => XS.goto hA hx rfl (pc0 := 95) (pc' := 120) rfl (hb hq at_95) (by decide) (by decide) k_) ?_
        show OFin _ _ _ _ _ _ _ _ T (mkF m 120 #[.val (.int p0), .val (.int p1), .val (.int p2), .val (.int p3), .val (.int p4), .val (.int p5), .val (.int (Int32.ofNat n)), .val (.int (Int32.ofNat a)), .val (.int (Int32.ofNat b)), .val (.int (Int32.ofNat c_)), .val (.int (p4 &&& (3 : Int32))), .val (.int (Int32.ofNat b)), .unset, .unset, .unset, .unset, .unset, .unset, .unset, .unset, .unset, .unset, .unset] [])
        exact jD b c_ b _ T ltb hc ltb X
      · refine X.step (fun hA hx hq t_ k_ => XS.icmpYes hA hx rfl (pc0 := 88) (pc' := 98) rfl (hb hq at_88) rfl (feq (s1)).2 (by decide) (by decide) k_) ?_
        show OFin _ _ _ _ _ _ _ _ T (mkF m 98 #[.val (.int p0), .val (.int p1), .val (.int p2), .val (.int p3), .val (.int p4), .val (.int p5), .val (.int (Int32.ofNat n)), .val (.int (Int32.ofNat a)), .val (.int (Int32.ofNat b)), .val (.int (Int32.ofNat c_)), .val (.int (p4 &&& (3 : Int32))), .unset, .unset, .unset, .unset, .unset, .unset, .unset, .unset, .unset, .unset, .unset, .unset] [])
        refine X.step (fun hA hx hq t_ k_ => XS.iload hA hx rfl (hb hq at_98) rfl k_) ?_
        show OFin _ _ _ _ _ _ _ _ T (mkF m 100 #[.val (.int p0), .val (.int p1), .val (.int p2), .val (.int p3), .val (.int p4), .val (.int p5), .val (.int (Int32.ofNat n)), .val (.int (Int32.ofNat a)), .val (.int (Int32.ofNat b)), .val (.int (Int32.ofNat c_)), .val (.int (p4 &&& (3 : Int32))), .unset, .unset, .unset, .unset, .unset, .unset, .unset, .unset, .unset, .unset, .unset, .unset] [(.int (p4 &&& (3 : Int32)))])
        refine X.step (fun hA hx hq t_ k_ => XS.iconst hA hx rfl (hb hq at_100) k_) ?_
        show OFin _ _ _ _ _ _ _ _ T (mkF m 101 #[.val (.int p0), .val (.int p1), .val (.int p2), .val (.int p3), .val (.int p4), .val (.int p5), .val (.int (Int32.ofNat n)), .val (.int (Int32.ofNat a)), .val (.int (Int32.ofNat b)), .val (.int (Int32.ofNat c_)), .val (.int (p4 &&& (3 : Int32))), .unset, .unset, .unset, .unset, .unset, .unset, .unset, .unset, .unset, .unset, .unset, .unset] [(.int (2 : Int32)), (.int (p4 &&& (3 : Int32)))])
        by_cases s2 : (p4 &&& (3 : Int32)) = (2 : Int32)
        · refine X.step (fun hA hx hq t_ k_ => XS.icmpNo hA hx rfl (hb hq at_101) rfl (teq (s2)).2 k_) ?_
          show OFin _ _ _ _ _ _ _ _ T (mkF m 104 #[.val (.int p0), .val (.int p1), .val (.int p2), .val (.int p3), .val (.int p4), .val (.int p5), .val (.int (Int32.ofNat n)), .val (.int (Int32.ofNat a)), .val (.int (Int32.ofNat b)), .val (.int (Int32.ofNat c_)), .val (.int (p4 &&& (3 : Int32))), .unset, .unset, .unset, .unset, .unset, .unset, .unset, .unset, .unset, .unset, .unset, .unset] [])
          refine X.step (fun hA hx hq t_ k_ => XS.iload hA hx rfl (hb hq at_104) rfl k_) ?_
          show OFin _ _ _ _ _ _ _ _ T (mkF m 106 #[.val (.int p0), .val (.int p1), .val (.int p2), .val (.int p3), .val (.int p4), .val (.int p5), .val (.int (Int32.ofNat n)), .val (.int (Int32.ofNat a)), .val (.int (Int32.ofNat b)), .val (.int (Int32.ofNat c_)), .val (.int (p4 &&& (3 : Int32))), .unset, .unset, .unset, .unset, .unset, .unset, .unset, .unset, .unset, .unset, .unset, .unset] [(.int (Int32.ofNat c_))])
          refine X.step (fun hA hx hq t_ k_ => XS.istore hA hx rfl (hb hq at_106) rfl (l' := #[.val (.int p0), .val (.int p1), .val (.int p2), .val (.int p3), .val (.int p4), .val (.int p5), .val (.int (Int32.ofNat n)), .val (.int (Int32.ofNat a)), .val (.int (Int32.ofNat b)), .val (.int (Int32.ofNat c_)), .val (.int (p4 &&& (3 : Int32))), .val (.int (Int32.ofNat c_)), .unset, .unset, .unset, .unset, .unset, .unset, .unset, .unset, .unset, .unset, .unset]) rfl k_) ?_
          show OFin _ _ _ _ _ _ _ _ T (mkF m 108 #[.val (.int p0), .val (.int p1), .val (.int p2), .val (.int p3), .val (.int p4), .val (.int p5), .val (.int (Int32.ofNat n)), .val (.int (Int32.ofNat a)), .val (.int (Int32.ofNat b)), .val (.int (Int32.ofNat c_)), .val (.int (p4 &&& (3 : Int32))), .val (.int (Int32.ofNat c_)), .unset, .unset, .unset, .unset, .unset, .unset, .unset, .unset, .unset, .unset, .unset] [])
          refine X.step (fun hA hx hq t_ k_ => XS.goto hA hx rfl (pc0 := 108) (pc' := 120) rfl (hb hq at_108) (by decide) (by decide) k_) ?_
          show OFin _ _ _ _ _ _ _ _ T (mkF m 120 #[.val (.int p0), .val (.int p1), .val (.int p2), .val (.int p3), .val (.int p4), .val (.int p5), .val (.int (Int32.ofNat n)), .val (.int (Int32.ofNat a)), .val (.int (Int32.ofNat b)), .val (.int (Int32.ofNat c_)), .val (.int (p4 &&& (3 : Int32))), .val (.int (Int32.ofNat c_)), .unset, .unset, .unset, .unset, .unset, .unset, .unset, .unset, .unset, .unset, .unset] [])
          exact jD b c_ c_ _ T ltb hc hc X
        · refine X.step (fun hA hx hq t_ k_ => XS.icmpYes hA hx rfl (pc0 := 101) (pc' := 111) rfl (hb hq at_101) rfl (feq (s2)).2 (by decide) (by decide) k_) ?_
          show OFin _ _ _ _ _ _ _ _ T (mkF m 111 #[.val (.int p0), .val (.int p1), .val (.int p2), .val (.int p3), .val (.int p4), .val (.int p5), .val (.int (Int32.ofNat n)), .val (.int (Int32.ofNat a)), .val (.int (Int32.ofNat b)), .val (.int (Int32.ofNat c_)), .val (.int (p4 &&& (3 : Int32))), .unset, .unset, .unset, .unset, .unset, .unset, .unset, .unset, .unset, .unset, .unset, .unset] [])
          obtain ⟨d, hd, ed⟩ := own_remK p4 n hn0 (by omega)
          refine X.step (fun hA hx hq t_ k_ => XS.iload hA hx rfl (hb hq at_111) rfl k_) ?_
          show OFin _ _ _ _ _ _ _ _ T (mkF m 113 #[.val (.int p0), .val (.int p1), .val (.int p2), .val (.int p3), .val (.int p4), .val (.int p5), .val (.int (Int32.ofNat n)), .val (.int (Int32.ofNat a)), .val (.int (Int32.ofNat b)), .val (.int (Int32.ofNat c_)), .val (.int (p4 &&& (3 : Int32))), .unset, .unset, .unset, .unset, .unset, .unset, .unset, .unset, .unset, .unset, .unset, .unset] [(.int p4)])
          refine X.step (fun hA hx hq t_ k_ => XS.iconst hA hx rfl (hb hq at_113) k_) ?_
          show OFin _ _ _ _ _ _ _ _ T (mkF m 114 #[.val (.int p0), .val (.int p1), .val (.int p2), .val (.int p3), .val (.int p4), .val (.int p5), .val (.int (Int32.ofNat n)), .val (.int (Int32.ofNat a)), .val (.int (Int32.ofNat b)), .val (.int (Int32.ofNat c_)), .val (.int (p4 &&& (3 : Int32))), .unset, .unset, .unset, .unset, .unset, .unset, .unset, .unset, .unset, .unset, .unset, .unset] [(.int (2 : Int32)), (.int p4)])
          refine X.step (fun hA hx hq t_ k_ => XS.iushr hA hx rfl (hb hq at_114) rfl k_) ?_
          show OFin _ _ _ _ _ _ _ _ T (mkF m 115 #[.val (.int p0), .val (.int p1), .val (.int p2), .val (.int p3), .val (.int p4), .val (.int p5), .val (.int (Int32.ofNat n)), .val (.int (Int32.ofNat a)), .val (.int (Int32.ofNat b)), .val (.int (Int32.ofNat c_)), .val (.int (p4 &&& (3 : Int32))), .unset, .unset, .unset, .unset, .unset, .unset, .unset, .unset, .unset, .unset, .unset, .unset] [(.int ((p4.toUInt32 >>> ((2 : Int32) &&& 31).toUInt32).toInt32))])
          refine X.step (fun hA hx hq t_ k_ => XS.iload hA hx rfl (hb hq at_115) rfl k_) ?_
          show OFin _ _ _ _ _ _ _ _ T (mkF m 117 #[.val (.int p0), .val (.int p1), .val (.int p2), .val (.int p3), .val (.int p4), .val (.int p5), .val (.int (Int32.ofNat n)), .val (.int (Int32.ofNat a)), .val (.int (Int32.ofNat b)), .val (.int (Int32.ofNat c_)), .val (.int (p4 &&& (3 : Int32))), .unset, .unset, .unset, .unset, .unset, .unset, .unset, .unset, .unset, .unset, .unset, .unset] [(.int (Int32.ofNat n)), (.int ((p4.toUInt32 >>> ((2 : Int32) &&& 31).toUInt32).toInt32))])
          refine X.irem (g := (mkF m 117 #[.val (.int p0), .val (.int p1), .val (.int p2), .val (.int p3), .val (.int p4), .val (.int p5), .val (.int (Int32.ofNat n)), .val (.int (Int32.ofNat a)), .val (.int (Int32.ofNat b)), .val (.int (Int32.ofNat c_)), .val (.int (p4 &&& (3 : Int32))), .unset, .unset, .unset, .unset, .unset, .unset, .unset, .unset, .unset, .unset, .unset, .unset] [(.int (Int32.ofNat n)), (.int ((p4.toUInt32 >>> ((2 : Int32) &&& 31).toUInt32).toInt32))])) rfl at_117 rfl (own_nz n hn0 (by omega)) ?_
          show OFin _ _ _ _ _ _ _ _ T (mkF m 118 #[.val (.int p0), .val (.int p1), .val (.int p2), .val (.int p3), .val (.int p4), .val (.int p5), .val (.int (Int32.ofNat n)), .val (.int (Int32.ofNat a)), .val (.int (Int32.ofNat b)), .val (.int (Int32.ofNat c_)), .val (.int (p4 &&& (3 : Int32))), .unset, .unset, .unset, .unset, .unset, .unset, .unset, .unset, .unset, .unset, .unset, .unset] [(.int (((p4.toUInt32 >>> ((2 : Int32) &&& 31).toUInt32).toInt32) % (Int32.ofNat n)))])
          rw [ed]
          show OFin _ _ _ _ _ _ _ _ T (mkF m 118 #[.val (.int p0), .val (.int p1), .val (.int p2), .val (.int p3), .val (.int p4), .val (.int p5), .val (.int (Int32.ofNat n)), .val (.int (Int32.ofNat a)), .val (.int (Int32.ofNat b)), .val (.int (Int32.ofNat c_)), .val (.int (p4 &&& (3 : Int32))), .unset, .unset, .unset, .unset, .unset, .unset, .unset, .unset, .unset, .unset, .unset, .unset] [(.int (Int32.ofNat d))])
          refine X.step (fun hA hx hq t_ k_ => XS.istore hA hx rfl (hb hq at_118) rfl (l' := #[.val (.int p0), .val (.int p1), .val (.int p2), .val (.int p3), .val (.int p4), .val (.int p5), .val (.int (Int32.ofNat n)), .val (.int (Int32.ofNat a)), .val (.int (Int32.ofNat b)), .val (.int (Int32.ofNat c_)), .val (.int (p4 &&& (3 : Int32))), .val (.int (Int32.ofNat d)), .unset, .unset, .unset, .unset, .unset, .unset, .unset, .unset, .unset, .unset, .unset]) rfl k_) ?_
          show OFin _ _ _ _ _ _ _ _ T (mkF m 120 #[.val (.int p0), .val (.int p1), .val (.int p2), .val (.int p3), .val (.int p4), .val (.int p5), .val (.int (Int32.ofNat n)), .val (.int (Int32.ofNat a)), .val (.int (Int32.ofNat b)), .val (.int (Int32.ofNat c_)), .val (.int (p4 &&& (3 : Int32))), .val (.int (Int32.ofNat d)), .unset, .unset, .unset, .unset, .unset, .unset, .unset, .unset, .unset, .unset, .unset] [])
          exact jD b c_ d _ T ltb hc hd X
  have jB : ∀ (b : Nat) (T : State), b < n → OAt n0 Z x code maxLocals ret p l e room_1 s m #[(.int p0), (.int p1), (.int p2), (.int p3), (.int p4), (.int p5)] below meth c T h0 0 0 → OFin n0 p e s below (fun v h => v = some (.int 1)) room_1.cells room_1.slots T (mkF m 42 #[.val (.int p0), .val (.int p1), .val (.int p2), .val (.int p3), .val (.int p4), .val (.int p5), .val (.int (Int32.ofNat n)), .val (.int (Int32.ofNat a)), .val (.int (Int32.ofNat b)), .unset, .unset, .unset, .unset, .unset, .unset, .unset, .unset, .unset, .unset, .unset, .unset, .unset, .unset] []) := by
    intro b T ltb X
    refine X.step (fun hA hx hq t_ k_ => XS.iloadN hA hx rfl (hb hq at_42) rfl k_) ?_
    show OFin _ _ _ _ _ _ _ _ T (mkF m 43 #[.val (.int p0), .val (.int p1), .val (.int p2), .val (.int p3), .val (.int p4), .val (.int p5), .val (.int (Int32.ofNat n)), .val (.int (Int32.ofNat a)), .val (.int (Int32.ofNat b)), .unset, .unset, .unset, .unset, .unset, .unset, .unset, .unset, .unset, .unset, .unset, .unset, .unset, .unset] [(.int p3)])
    by_cases k1 : p3 < (0 : Int32)
    · refine X.step (fun hA hx hq t_ k_ => XS.ifNo hA hx rfl (hb hq at_43) rfl ((if0 _ _).trans (tlt (k1)).2.1) k_) ?_
      show OFin _ _ _ _ _ _ _ _ T (mkF m 46 #[.val (.int p0), .val (.int p1), .val (.int p2), .val (.int p3), .val (.int p4), .val (.int p5), .val (.int (Int32.ofNat n)), .val (.int (Int32.ofNat a)), .val (.int (Int32.ofNat b)), .unset, .unset, .unset, .unset, .unset, .unset, .unset, .unset, .unset, .unset, .unset, .unset, .unset, .unset] [])
      obtain ⟨c_, ltc_, ec_⟩ := own_remJ b p3 n hn0 hn1 ltb
      refine X.step (fun hA hx hq t_ k_ => XS.iload hA hx rfl (hb hq at_46) rfl k_) ?_
      show OFin _ _ _ _ _ _ _ _ T (mkF m 48 #[.val (.int p0), .val (.int p1), .val (.int p2), .val (.int p3), .val (.int p4), .val (.int p5), .val (.int (Int32.ofNat n)), .val (.int (Int32.ofNat a)), .val (.int (Int32.ofNat b)), .unset, .unset, .unset, .unset, .unset, .unset, .unset, .unset, .unset, .unset, .unset, .unset, .unset, .unset] [(.int (Int32.ofNat b))])
      refine X.step (fun hA hx hq t_ k_ => XS.iloadN hA hx rfl (hb hq at_48) rfl k_) ?_
      show OFin _ _ _ _ _ _ _ _ T (mkF m 49 #[.val (.int p0), .val (.int p1), .val (.int p2), .val (.int p3), .val (.int p4), .val (.int p5), .val (.int (Int32.ofNat n)), .val (.int (Int32.ofNat a)), .val (.int (Int32.ofNat b)), .unset, .unset, .unset, .unset, .unset, .unset, .unset, .unset, .unset, .unset, .unset, .unset, .unset, .unset] [(.int p3), (.int (Int32.ofNat b))])
      refine X.step (fun hA hx hq t_ k_ => XS.bipush hA hx rfl (hb hq at_49) k_) ?_
      show OFin _ _ _ _ _ _ _ _ T (mkF m 51 #[.val (.int p0), .val (.int p1), .val (.int p2), .val (.int p3), .val (.int p4), .val (.int p5), .val (.int (Int32.ofNat n)), .val (.int (Int32.ofNat a)), .val (.int (Int32.ofNat b)), .unset, .unset, .unset, .unset, .unset, .unset, .unset, .unset, .unset, .unset, .unset, .unset, .unset, .unset] [(.int (127 : Int32)), (.int p3), (.int (Int32.ofNat b))])
      refine X.step (fun hA hx hq t_ k_ => XS.iand hA hx rfl (hb hq at_51) rfl k_) ?_
      show OFin _ _ _ _ _ _ _ _ T (mkF m 52 #[.val (.int p0), .val (.int p1), .val (.int p2), .val (.int p3), .val (.int p4), .val (.int p5), .val (.int (Int32.ofNat n)), .val (.int (Int32.ofNat a)), .val (.int (Int32.ofNat b)), .unset, .unset, .unset, .unset, .unset, .unset, .unset, .unset, .unset, .unset, .unset, .unset, .unset, .unset] [(.int (p3 &&& (127 : Int32))), (.int (Int32.ofNat b))])
      refine X.step (fun hA hx hq t_ k_ => XS.iadd hA hx rfl (hb hq at_52) rfl k_) ?_
      show OFin _ _ _ _ _ _ _ _ T (mkF m 53 #[.val (.int p0), .val (.int p1), .val (.int p2), .val (.int p3), .val (.int p4), .val (.int p5), .val (.int (Int32.ofNat n)), .val (.int (Int32.ofNat a)), .val (.int (Int32.ofNat b)), .unset, .unset, .unset, .unset, .unset, .unset, .unset, .unset, .unset, .unset, .unset, .unset, .unset, .unset] [(.int ((Int32.ofNat b) + (p3 &&& (127 : Int32))))])
      refine X.step (fun hA hx hq t_ k_ => XS.iload hA hx rfl (hb hq at_53) rfl k_) ?_
      show OFin _ _ _ _ _ _ _ _ T (mkF m 55 #[.val (.int p0), .val (.int p1), .val (.int p2), .val (.int p3), .val (.int p4), .val (.int p5), .val (.int (Int32.ofNat n)), .val (.int (Int32.ofNat a)), .val (.int (Int32.ofNat b)), .unset, .unset, .unset, .unset, .unset, .unset, .unset, .unset, .unset, .unset, .unset, .unset, .unset, .unset] [(.int (Int32.ofNat n)), (.int ((Int32.ofNat b) + (p3 &&& (127 : Int32))))])
      refine X.irem (g := (mkF m 55 #[.val (.int p0), .val (.int p1), .val (.int p2), .val (.int p3), .val (.int p4), .val (.int p5), .val (.int (Int32.ofNat n)), .val (.int (Int32.ofNat a)), .val (.int (Int32.ofNat b)), .unset, .unset, .unset, .unset, .unset, .unset, .unset, .unset, .unset, .unset, .unset, .unset, .unset, .unset] [(.int (Int32.ofNat n)), (.int ((Int32.ofNat b) + (p3 &&& (127 : Int32))))])) rfl at_55 rfl (own_nz n hn0 (by omega)) ?_
      show OFin _ _ _ _ _ _ _ _ T (mkF m 56 #[.val (.int p0), .val (.int p1), .val (.int p2), .val (.int p3), .val (.int p4), .val (.int p5), .val (.int (Int32.ofNat n)), .val (.int (Int32.ofNat a)), .val (.int (Int32.ofNat b)), .unset, .unset, .unset, .unset, .unset, .unset, .unset, .unset, .unset, .unset, .unset, .unset, .unset, .unset] [(.int (((Int32.ofNat b) + (p3 &&& (127 : Int32))) % (Int32.ofNat n)))])
      rw [ec_]
      show OFin _ _ _ _ _ _ _ _ T (mkF m 56 #[.val (.int p0), .val (.int p1), .val (.int p2), .val (.int p3), .val (.int p4), .val (.int p5), .val (.int (Int32.ofNat n)), .val (.int (Int32.ofNat a)), .val (.int (Int32.ofNat b)), .unset, .unset, .unset, .unset, .unset, .unset, .unset, .unset, .unset, .unset, .unset, .unset, .unset, .unset] [(.int (Int32.ofNat c_))])
      refine X.step (fun hA hx hq t_ k_ => XS.istore hA hx rfl (hb hq at_56) rfl (l' := #[.val (.int p0), .val (.int p1), .val (.int p2), .val (.int p3), .val (.int p4), .val (.int p5), .val (.int (Int32.ofNat n)), .val (.int (Int32.ofNat a)), .val (.int (Int32.ofNat b)), .val (.int (Int32.ofNat c_)), .unset, .unset, .unset, .unset, .unset, .unset, .unset, .unset, .unset, .unset, .unset, .unset, .unset]) rfl k_) ?_
      show OFin _ _ _ _ _ _ _ _ T (mkF m 58 #[.val (.int p0), .val (.int p1), .val (.int p2), .val (.int p3), .val (.int p4), .val (.int p5), .val (.int (Int32.ofNat n)), .val (.int (Int32.ofNat a)), .val (.int (Int32.ofNat b)), .val (.int (Int32.ofNat c_)), .unset, .unset, .unset, .unset, .unset, .unset, .unset, .unset, .unset, .unset, .unset, .unset, .unset] [])
      refine X.step (fun hA hx hq t_ k_ => XS.goto hA hx rfl (pc0 := 58) (pc' := 67) rfl (hb hq at_58) (by decide) (by decide) k_) ?_
      show OFin _ _ _ _ _ _ _ _ T (mkF m 67 #[.val (.int p0), .val (.int p1), .val (.int p2), .val (.int p3), .val (.int p4), .val (.int p5), .val (.int (Int32.ofNat n)), .val (.int (Int32.ofNat a)), .val (.int (Int32.ofNat b)), .val (.int (Int32.ofNat c_)), .unset, .unset, .unset, .unset, .unset, .unset, .unset, .unset, .unset, .unset, .unset, .unset, .unset] [])
      exact jC b c_ T ltb ltc_ X
    · refine X.step (fun hA hx hq t_ k_ => XS.ifYes hA hx rfl (pc0 := 43) (pc' := 61) rfl (hb hq at_43) rfl ((if0 _ _).trans (flt (k1)).2.1) (by decide) (by decide) k_) ?_
      show OFin _ _ _ _ _ _ _ _ T (mkF m 61 #[.val (.int p0), .val (.int p1), .val (.int p2), .val (.int p3), .val (.int p4), .val (.int p5), .val (.int (Int32.ofNat n)), .val (.int (Int32.ofNat a)), .val (.int (Int32.ofNat b)), .unset, .unset, .unset, .unset, .unset, .unset, .unset, .unset, .unset, .unset, .unset, .unset, .unset, .unset] [])
      obtain ⟨c_, ltc_, ec_⟩ := own_remN0 p3 n (by rw [Int32.lt_iff_toInt_lt] at k1; have : (0 : Int32).toInt = 0 := (by decide); omega) hn0 (by omega)
      refine X.step (fun hA hx hq t_ k_ => XS.iloadN hA hx rfl (hb hq at_61) rfl k_) ?_
      show OFin _ _ _ _ _ _ _ _ T (mkF m 62 #[.val (.int p0), .val (.int p1), .val (.int p2), .val (.int p3), .val (.int p4), .val (.int p5), .val (.int (Int32.ofNat n)), .val (.int (Int32.ofNat a)), .val (.int (Int32.ofNat b)), .unset, .unset, .unset, .unset, .unset, .unset, .unset, .unset, .unset, .unset, .unset, .unset, .unset, .unset] [(.int p3)])
      refine X.step (fun hA hx hq t_ k_ => XS.iload hA hx rfl (hb hq at_62) rfl k_) ?_
      show OFin _ _ _ _ _ _ _ _ T (mkF m 64 #[.val (.int p0), .val (.int p1), .val (.int p2), .val (.int p3), .val (.int p4), .val (.int p5), .val (.int (Int32.ofNat n)), .val (.int (Int32.ofNat a)), .val (.int (Int32.ofNat b)), .unset, .unset, .unset, .unset, .unset, .unset, .unset, .unset, .unset, .unset, .unset, .unset, .unset, .unset] [(.int (Int32.ofNat n)), (.int p3)])
      refine X.irem (g := (mkF m 64 #[.val (.int p0), .val (.int p1), .val (.int p2), .val (.int p3), .val (.int p4), .val (.int p5), .val (.int (Int32.ofNat n)), .val (.int (Int32.ofNat a)), .val (.int (Int32.ofNat b)), .unset, .unset, .unset, .unset, .unset, .unset, .unset, .unset, .unset, .unset, .unset, .unset, .unset, .unset] [(.int (Int32.ofNat n)), (.int p3)])) rfl at_64 rfl (own_nz n hn0 (by omega)) ?_
      show OFin _ _ _ _ _ _ _ _ T (mkF m 65 #[.val (.int p0), .val (.int p1), .val (.int p2), .val (.int p3), .val (.int p4), .val (.int p5), .val (.int (Int32.ofNat n)), .val (.int (Int32.ofNat a)), .val (.int (Int32.ofNat b)), .unset, .unset, .unset, .unset, .unset, .unset, .unset, .unset, .unset, .unset, .unset, .unset, .unset, .unset] [(.int (p3 % (Int32.ofNat n)))])
      rw [ec_]
      show OFin _ _ _ _ _ _ _ _ T (mkF m 65 #[.val (.int p0), .val (.int p1), .val (.int p2), .val (.int p3), .val (.int p4), .val (.int p5), .val (.int (Int32.ofNat n)), .val (.int (Int32.ofNat a)), .val (.int (Int32.ofNat b)), .unset, .unset, .unset, .unset, .unset, .unset, .unset, .unset, .unset, .unset, .unset, .unset, .unset, .unset] [(.int (Int32.ofNat c_))])
      refine X.step (fun hA hx hq t_ k_ => XS.istore hA hx rfl (hb hq at_65) rfl (l' := #[.val (.int p0), .val (.int p1), .val (.int p2), .val (.int p3), .val (.int p4), .val (.int p5), .val (.int (Int32.ofNat n)), .val (.int (Int32.ofNat a)), .val (.int (Int32.ofNat b)), .val (.int (Int32.ofNat c_)), .unset, .unset, .unset, .unset, .unset, .unset, .unset, .unset, .unset, .unset, .unset, .unset, .unset]) rfl k_) ?_
      show OFin _ _ _ _ _ _ _ _ T (mkF m 67 #[.val (.int p0), .val (.int p1), .val (.int p2), .val (.int p3), .val (.int p4), .val (.int p5), .val (.int (Int32.ofNat n)), .val (.int (Int32.ofNat a)), .val (.int (Int32.ofNat b)), .val (.int (Int32.ofNat c_)), .unset, .unset, .unset, .unset, .unset, .unset, .unset, .unset, .unset, .unset, .unset, .unset, .unset] [])
      exact jC b c_ T ltb ltc_ X
  refine X0.step (fun hA hx hq t_ k_ => XS.iconst hA hx rfl (hb hq at_0) k_) ?_
  show OFin _ _ _ _ _ _ _ _ T0 (mkF m 1 #[.val (.int p0), .val (.int p1), .val (.int p2), .val (.int p3), .val (.int p4), .val (.int p5), .unset, .unset, .unset, .unset, .unset, .unset, .unset, .unset, .unset, .unset, .unset, .unset, .unset, .unset, .unset, .unset, .unset] [(.int (1 : Int32))])
  refine X0.step (fun hA hx hq t_ k_ => XS.iloadN hA hx rfl (hb hq at_1) rfl k_) ?_
  show OFin _ _ _ _ _ _ _ _ T0 (mkF m 2 #[.val (.int p0), .val (.int p1), .val (.int p2), .val (.int p3), .val (.int p4), .val (.int p5), .unset, .unset, .unset, .unset, .unset, .unset, .unset, .unset, .unset, .unset, .unset, .unset, .unset, .unset, .unset, .unset, .unset] [(.int p0), (.int (1 : Int32))])
  refine X0.ldcI (hw _ (List.mem_of_getElem? (i := 0) rfl)) (g := (mkF m 2 #[.val (.int p0), .val (.int p1), .val (.int p2), .val (.int p3), .val (.int p4), .val (.int p5), .unset, .unset, .unset, .unset, .unset, .unset, .unset, .unset, .unset, .unset, .unset, .unset, .unset, .unset, .unset, .unset, .unset] [(.int p0), (.int (1 : Int32))])) rfl at_2 ?_
  show OFin _ _ _ _ _ _ _ _ T0 (mkF m 4 #[.val (.int p0), .val (.int p1), .val (.int p2), .val (.int p3), .val (.int p4), .val (.int p5), .unset, .unset, .unset, .unset, .unset, .unset, .unset, .unset, .unset, .unset, .unset, .unset, .unset, .unset, .unset, .unset, .unset] [(.int (524287 : Int32)), (.int p0), (.int (1 : Int32))])
  refine X0.step (fun hA hx hq t_ k_ => XS.iand hA hx rfl (hb hq at_4) rfl k_) ?_
  show OFin _ _ _ _ _ _ _ _ T0 (mkF m 5 #[.val (.int p0), .val (.int p1), .val (.int p2), .val (.int p3), .val (.int p4), .val (.int p5), .unset, .unset, .unset, .unset, .unset, .unset, .unset, .unset, .unset, .unset, .unset, .unset, .unset, .unset, .unset, .unset, .unset] [(.int (p0 &&& (524287 : Int32))), (.int (1 : Int32))])
  refine X0.step (fun hA hx hq t_ k_ => XS.iadd hA hx rfl (hb hq at_5) rfl k_) ?_
  show OFin _ _ _ _ _ _ _ _ T0 (mkF m 6 #[.val (.int p0), .val (.int p1), .val (.int p2), .val (.int p3), .val (.int p4), .val (.int p5), .unset, .unset, .unset, .unset, .unset, .unset, .unset, .unset, .unset, .unset, .unset, .unset, .unset, .unset, .unset, .unset, .unset] [(.int ((1 : Int32) + (p0 &&& (524287 : Int32))))])
  rw [en]
  show OFin _ _ _ _ _ _ _ _ T0 (mkF m 6 #[.val (.int p0), .val (.int p1), .val (.int p2), .val (.int p3), .val (.int p4), .val (.int p5), .unset, .unset, .unset, .unset, .unset, .unset, .unset, .unset, .unset, .unset, .unset, .unset, .unset, .unset, .unset, .unset, .unset] [(.int (Int32.ofNat n))])
  refine X0.step (fun hA hx hq t_ k_ => XS.istore hA hx rfl (hb hq at_6) rfl (l' := #[.val (.int p0), .val (.int p1), .val (.int p2), .val (.int p3), .val (.int p4), .val (.int p5), .val (.int (Int32.ofNat n)), .unset, .unset, .unset, .unset, .unset, .unset, .unset, .unset, .unset, .unset, .unset, .unset, .unset, .unset, .unset, .unset]) rfl k_) ?_
  show OFin _ _ _ _ _ _ _ _ T0 (mkF m 8 #[.val (.int p0), .val (.int p1), .val (.int p2), .val (.int p3), .val (.int p4), .val (.int p5), .val (.int (Int32.ofNat n)), .unset, .unset, .unset, .unset, .unset, .unset, .unset, .unset, .unset, .unset, .unset, .unset, .unset, .unset, .unset, .unset] [])
  refine X0.step (fun hA hx hq t_ k_ => XS.iloadN hA hx rfl (hb hq at_8) rfl k_) ?_
  show OFin _ _ _ _ _ _ _ _ T0 (mkF m 9 #[.val (.int p0), .val (.int p1), .val (.int p2), .val (.int p3), .val (.int p4), .val (.int p5), .val (.int (Int32.ofNat n)), .unset, .unset, .unset, .unset, .unset, .unset, .unset, .unset, .unset, .unset, .unset, .unset, .unset, .unset, .unset, .unset] [(.int p1)])
  refine X0.ldcI (hw _ (List.mem_of_getElem? (i := 1) rfl)) (g := (mkF m 9 #[.val (.int p0), .val (.int p1), .val (.int p2), .val (.int p3), .val (.int p4), .val (.int p5), .val (.int (Int32.ofNat n)), .unset, .unset, .unset, .unset, .unset, .unset, .unset, .unset, .unset, .unset, .unset, .unset, .unset, .unset, .unset, .unset] [(.int p1)])) rfl at_9 ?_
  show OFin _ _ _ _ _ _ _ _ T0 (mkF m 11 #[.val (.int p0), .val (.int p1), .val (.int p2), .val (.int p3), .val (.int p4), .val (.int p5), .val (.int (Int32.ofNat n)), .unset, .unset, .unset, .unset, .unset, .unset, .unset, .unset, .unset, .unset, .unset, .unset, .unset, .unset, .unset, .unset] [(.int (2147483647 : Int32)), (.int p1)])
  refine X0.step (fun hA hx hq t_ k_ => XS.iand hA hx rfl (hb hq at_11) rfl k_) ?_
  show OFin _ _ _ _ _ _ _ _ T0 (mkF m 12 #[.val (.int p0), .val (.int p1), .val (.int p2), .val (.int p3), .val (.int p4), .val (.int p5), .val (.int (Int32.ofNat n)), .unset, .unset, .unset, .unset, .unset, .unset, .unset, .unset, .unset, .unset, .unset, .unset, .unset, .unset, .unset, .unset] [(.int (p1 &&& (2147483647 : Int32)))])
  refine X0.step (fun hA hx hq t_ k_ => XS.iload hA hx rfl (hb hq at_12) rfl k_) ?_
  show OFin _ _ _ _ _ _ _ _ T0 (mkF m 14 #[.val (.int p0), .val (.int p1), .val (.int p2), .val (.int p3), .val (.int p4), .val (.int p5), .val (.int (Int32.ofNat n)), .unset, .unset, .unset, .unset, .unset, .unset, .unset, .unset, .unset, .unset, .unset, .unset, .unset, .unset, .unset, .unset] [(.int (Int32.ofNat n)), (.int (p1 &&& (2147483647 : Int32)))])
  refine X0.irem (g := (mkF m 14 #[.val (.int p0), .val (.int p1), .val (.int p2), .val (.int p3), .val (.int p4), .val (.int p5), .val (.int (Int32.ofNat n)), .unset, .unset, .unset, .unset, .unset, .unset, .unset, .unset, .unset, .unset, .unset, .unset, .unset, .unset, .unset, .unset] [(.int (Int32.ofNat n)), (.int (p1 &&& (2147483647 : Int32)))])) rfl at_14 rfl (own_nz n hn0 (by omega)) ?_
  show OFin _ _ _ _ _ _ _ _ T0 (mkF m 15 #[.val (.int p0), .val (.int p1), .val (.int p2), .val (.int p3), .val (.int p4), .val (.int p5), .val (.int (Int32.ofNat n)), .unset, .unset, .unset, .unset, .unset, .unset, .unset, .unset, .unset, .unset, .unset, .unset, .unset, .unset, .unset, .unset] [(.int ((p1 &&& (2147483647 : Int32)) % (Int32.ofNat n)))])
  rw [ea]
  show OFin _ _ _ _ _ _ _ _ T0 (mkF m 15 #[.val (.int p0), .val (.int p1), .val (.int p2), .val (.int p3), .val (.int p4), .val (.int p5), .val (.int (Int32.ofNat n)), .unset, .unset, .unset, .unset, .unset, .unset, .unset, .unset, .unset, .unset, .unset, .unset, .unset, .unset, .unset, .unset] [(.int (Int32.ofNat a))])
  refine X0.step (fun hA hx hq t_ k_ => XS.istore hA hx rfl (hb hq at_15) rfl (l' := #[.val (.int p0), .val (.int p1), .val (.int p2), .val (.int p3), .val (.int p4), .val (.int p5), .val (.int (Int32.ofNat n)), .val (.int (Int32.ofNat a)), .unset, .unset, .unset, .unset, .unset, .unset, .unset, .unset, .unset, .unset, .unset, .unset, .unset, .unset, .unset]) rfl k_) ?_
  show OFin _ _ _ _ _ _ _ _ T0 (mkF m 17 #[.val (.int p0), .val (.int p1), .val (.int p2), .val (.int p3), .val (.int p4), .val (.int p5), .val (.int (Int32.ofNat n)), .val (.int (Int32.ofNat a)), .unset, .unset, .unset, .unset, .unset, .unset, .unset, .unset, .unset, .unset, .unset, .unset, .unset, .unset, .unset] [])
  refine X0.step (fun hA hx hq t_ k_ => XS.iloadN hA hx rfl (hb hq at_17) rfl k_) ?_
  show OFin _ _ _ _ _ _ _ _ T0 (mkF m 18 #[.val (.int p0), .val (.int p1), .val (.int p2), .val (.int p3), .val (.int p4), .val (.int p5), .val (.int (Int32.ofNat n)), .val (.int (Int32.ofNat a)), .unset, .unset, .unset, .unset, .unset, .unset, .unset, .unset, .unset, .unset, .unset, .unset, .unset, .unset, .unset] [(.int p2)])
  by_cases k1 : p2 < (0 : Int32)
  · refine X0.step (fun hA hx hq t_ k_ => XS.ifNo hA hx rfl (hb hq at_18) rfl ((if0 _ _).trans (tlt (k1)).2.1) k_) ?_
    show OFin _ _ _ _ _ _ _ _ T0 (mkF m 21 #[.val (.int p0), .val (.int p1), .val (.int p2), .val (.int p3), .val (.int p4), .val (.int p5), .val (.int (Int32.ofNat n)), .val (.int (Int32.ofNat a)), .unset, .unset, .unset, .unset, .unset, .unset, .unset, .unset, .unset, .unset, .unset, .unset, .unset, .unset, .unset] [])
    obtain ⟨b, ltb, eb⟩ := own_remJ a p2 n hn0 hn1 ha
    refine X0.step (fun hA hx hq t_ k_ => XS.iload hA hx rfl (hb hq at_21) rfl k_) ?_
    show OFin _ _ _ _ _ _ _ _ T0 (mkF m 23 #[.val (.int p0), .val (.int p1), .val (.int p2), .val (.int p3), .val (.int p4), .val (.int p5), .val (.int (Int32.ofNat n)), .val (.int (Int32.ofNat a)), .unset, .unset, .unset, .unset, .unset, .unset, .unset, .unset, .unset, .unset, .unset, .unset, .unset, .unset, .unset] [(.int (Int32.ofNat a))])
    refine X0.step (fun hA hx hq t_ k_ => XS.iloadN hA hx rfl (hb hq at_23) rfl k_) ?_
    show OFin _ _ _ _ _ _ _ _ T0 (mkF m 24 #[.val (.int p0), .val (.int p1), .val (.int p2), .val (.int p3), .val (.int p4), .val (.int p5), .val (.int (Int32.ofNat n)), .val (.int (Int32.ofNat a)), .unset, .unset, .unset, .unset, .unset, .unset, .unset, .unset, .unset, .unset, .unset, .unset, .unset, .unset, .unset] [(.int p2), (.int (Int32.ofNat a))])
    refine X0.step (fun hA hx hq t_ k_ => XS.bipush hA hx rfl (hb hq at_24) k_) ?_
    show OFin _ _ _ _ _ _ _ _ T0 (mkF m 26 #[.val (.int p0), .val (.int p1), .val (.int p2), .val (.int p3), .val (.int p4), .val (.int p5), .val (.int (Int32.ofNat n)), .val (.int (Int32.ofNat a)), .unset, .unset, .unset, .unset, .unset, .unset, .unset, .unset, .unset, .unset, .unset, .unset, .unset, .unset, .unset] [(.int (127 : Int32)), (.int p2), (.int (Int32.ofNat a))])
    refine X0.step (fun hA hx hq t_ k_ => XS.iand hA hx rfl (hb hq at_26) rfl k_) ?_
    show OFin _ _ _ _ _ _ _ _ T0 (mkF m 27 #[.val (.int p0), .val (.int p1), .val (.int p2), .val (.int p3), .val (.int p4), .val (.int p5), .val (.int (Int32.ofNat n)), .val (.int (Int32.ofNat a)), .unset, .unset, .unset, .unset, .unset, .unset, .unset, .unset, .unset, .unset, .unset, .unset, .unset, .unset, .unset] [(.int (p2 &&& (127 : Int32))), (.int (Int32.ofNat a))])
    refine X0.step (fun hA hx hq t_ k_ => XS.iadd hA hx rfl (hb hq at_27) rfl k_) ?_
    show OFin _ _ _ _ _ _ _ _ T0 (mkF m 28 #[.val (.int p0), .val (.int p1), .val (.int p2), .val (.int p3), .val (.int p4), .val (.int p5), .val (.int (Int32.ofNat n)), .val (.int (Int32.ofNat a)), .unset, .unset, .unset, .unset, .unset, .unset, .unset, .unset, .unset, .unset, .unset, .unset, .unset, .unset, .unset] [(.int ((Int32.ofNat a) + (p2 &&& (127 : Int32))))])
    refine X0.step (fun hA hx hq t_ k_ => XS.iload hA hx rfl (hb hq at_28) rfl k_) ?_
    show OFin _ _ _ _ _ _ _ _ T0 (mkF m 30 #[.val (.int p0), .val (.int p1), .val (.int p2), .val (.int p3), .val (.int p4), .val (.int p5), .val (.int (Int32.ofNat n)), .val (.int (Int32.ofNat a)), .unset, .unset, .unset, .unset, .unset, .unset, .unset, .unset, .unset, .unset, .unset, .unset, .unset, .unset, .unset] [(.int (Int32.ofNat n)), (.int ((Int32.ofNat a) + (p2 &&& (127 : Int32))))])
    refine X0.irem (g := (mkF m 30 #[.val (.int p0), .val (.int p1), .val (.int p2), .val (.int p3), .val (.int p4), .val (.int p5), .val (.int (Int32.ofNat n)), .val (.int (Int32.ofNat a)), .unset, .unset, .unset, .unset, .unset, .unset, .unset, .unset, .unset, .unset, .unset, .unset, .unset, .unset, .unset] [(.int (Int32.ofNat n)), (.int ((Int32.ofNat a) + (p2 &&& (127 : Int32))))])) rfl at_30 rfl (own_nz n hn0 (by omega)) ?_
    show OFin _ _ _ _ _ _ _ _ T0 (mkF m 31 #[.val (.int p0), .val (.int p1), .val (.int p2), .val (.int p3), .val (.int p4), .val (.int p5), .val (.int (Int32.ofNat n)), .val (.int (Int32.ofNat a)), .unset, .unset, .unset, .unset, .unset, .unset, .unset, .unset, .unset, .unset, .unset, .unset, .unset, .unset, .unset] [(.int (((Int32.ofNat a) + (p2 &&& (127 : Int32))) % (Int32.ofNat n)))])
    rw [eb]
    show OFin _ _ _ _ _ _ _ _ T0 (mkF m 31 #[.val (.int p0), .val (.int p1), .val (.int p2), .val (.int p3), .val (.int p4), .val (.int p5), .val (.int (Int32.ofNat n)), .val (.int (Int32.ofNat a)), .unset, .unset, .unset, .unset, .unset, .unset, .unset, .unset, .unset, .unset, .unset, .unset, .unset, .unset, .unset] [(.int (Int32.ofNat b))])
    refine X0.step (fun hA hx hq t_ k_ => XS.istore hA hx rfl (hb hq at_31) rfl (l' := #[.val (.int p0), .val (.int p1), .val (.int p2), .val (.int p3), .val (.int p4), .val (.int p5), .val (.int (Int32.ofNat n)), .val (.int (Int32.ofNat a)), .val (.int (Int32.ofNat b)), .unset, .unset, .unset, .unset, .unset, .unset, .unset, .unset, .unset, .unset, .unset, .unset, .unset, .unset]) rfl k_) ?_
    show OFin _ _ _ _ _ _ _ _ T0 (mkF m 33 #[.val (.int p0), .val (.int p1), .val (.int p2), .val (.int p3), .val (.int p4), .val (.int p5), .val (.int (Int32.ofNat n)), .val (.int (Int32.ofNat a)), .val (.int (Int32.ofNat b)), .unset, .unset, .unset, .unset, .unset, .unset, .unset, .unset, .unset, .unset, .unset, .unset, .unset, .unset] [])
    refine X0.step (fun hA hx hq t_ k_ => XS.goto hA hx rfl (pc0 := 33) (pc' := 42) rfl (hb hq at_33) (by decide) (by decide) k_) ?_
    show OFin _ _ _ _ _ _ _ _ T0 (mkF m 42 #[.val (.int p0), .val (.int p1), .val (.int p2), .val (.int p3), .val (.int p4), .val (.int p5), .val (.int (Int32.ofNat n)), .val (.int (Int32.ofNat a)), .val (.int (Int32.ofNat b)), .unset, .unset, .unset, .unset, .unset, .unset, .unset, .unset, .unset, .unset, .unset, .unset, .unset, .unset] [])
    exact jB b T0 ltb X0
  · refine X0.step (fun hA hx hq t_ k_ => XS.ifYes hA hx rfl (pc0 := 18) (pc' := 36) rfl (hb hq at_18) rfl ((if0 _ _).trans (flt (k1)).2.1) (by decide) (by decide) k_) ?_
    show OFin _ _ _ _ _ _ _ _ T0 (mkF m 36 #[.val (.int p0), .val (.int p1), .val (.int p2), .val (.int p3), .val (.int p4), .val (.int p5), .val (.int (Int32.ofNat n)), .val (.int (Int32.ofNat a)), .unset, .unset, .unset, .unset, .unset, .unset, .unset, .unset, .unset, .unset, .unset, .unset, .unset, .unset, .unset] [])
    obtain ⟨b, ltb, eb⟩ := own_remN0 p2 n (by rw [Int32.lt_iff_toInt_lt] at k1; have : (0 : Int32).toInt = 0 := (by decide); omega) hn0 (by omega)
    refine X0.step (fun hA hx hq t_ k_ => XS.iloadN hA hx rfl (hb hq at_36) rfl k_) ?_
    show OFin _ _ _ _ _ _ _ _ T0 (mkF m 37 #[.val (.int p0), .val (.int p1), .val (.int p2), .val (.int p3), .val (.int p4), .val (.int p5), .val (.int (Int32.ofNat n)), .val (.int (Int32.ofNat a)), .unset, .unset, .unset, .unset, .unset, .unset, .unset, .unset, .unset, .unset, .unset, .unset, .unset, .unset, .unset] [(.int p2)])
    refine X0.step (fun hA hx hq t_ k_ => XS.iload hA hx rfl (hb hq at_37) rfl k_) ?_
    show OFin _ _ _ _ _ _ _ _ T0 (mkF m 39 #[.val (.int p0), .val (.int p1), .val (.int p2), .val (.int p3), .val (.int p4), .val (.int p5), .val (.int (Int32.ofNat n)), .val (.int (Int32.ofNat a)), .unset, .unset, .unset, .unset, .unset, .unset, .unset, .unset, .unset, .unset, .unset, .unset, .unset, .unset, .unset] [(.int (Int32.ofNat n)), (.int p2)])
    refine X0.irem (g := (mkF m 39 #[.val (.int p0), .val (.int p1), .val (.int p2), .val (.int p3), .val (.int p4), .val (.int p5), .val (.int (Int32.ofNat n)), .val (.int (Int32.ofNat a)), .unset, .unset, .unset, .unset, .unset, .unset, .unset, .unset, .unset, .unset, .unset, .unset, .unset, .unset, .unset] [(.int (Int32.ofNat n)), (.int p2)])) rfl at_39 rfl (own_nz n hn0 (by omega)) ?_
    show OFin _ _ _ _ _ _ _ _ T0 (mkF m 40 #[.val (.int p0), .val (.int p1), .val (.int p2), .val (.int p3), .val (.int p4), .val (.int p5), .val (.int (Int32.ofNat n)), .val (.int (Int32.ofNat a)), .unset, .unset, .unset, .unset, .unset, .unset, .unset, .unset, .unset, .unset, .unset, .unset, .unset, .unset, .unset] [(.int (p2 % (Int32.ofNat n)))])
    rw [eb]
    show OFin _ _ _ _ _ _ _ _ T0 (mkF m 40 #[.val (.int p0), .val (.int p1), .val (.int p2), .val (.int p3), .val (.int p4), .val (.int p5), .val (.int (Int32.ofNat n)), .val (.int (Int32.ofNat a)), .unset, .unset, .unset, .unset, .unset, .unset, .unset, .unset, .unset, .unset, .unset, .unset, .unset, .unset, .unset] [(.int (Int32.ofNat b))])
    refine X0.step (fun hA hx hq t_ k_ => XS.istore hA hx rfl (hb hq at_40) rfl (l' := #[.val (.int p0), .val (.int p1), .val (.int p2), .val (.int p3), .val (.int p4), .val (.int p5), .val (.int (Int32.ofNat n)), .val (.int (Int32.ofNat a)), .val (.int (Int32.ofNat b)), .unset, .unset, .unset, .unset, .unset, .unset, .unset, .unset, .unset, .unset, .unset, .unset, .unset, .unset]) rfl k_) ?_
    show OFin _ _ _ _ _ _ _ _ T0 (mkF m 42 #[.val (.int p0), .val (.int p1), .val (.int p2), .val (.int p3), .val (.int p4), .val (.int p5), .val (.int (Int32.ofNat n)), .val (.int (Int32.ofNat a)), .val (.int (Int32.ofNat b)), .unset, .unset, .unset, .unset, .unset, .unset, .unset, .unset, .unset, .unset, .unset, .unset, .unset, .unset] [])
    exact jB b T0 ltb X0
set_option maxRecDepth 65536 in
set_option maxHeartbeats 40000000 in
theorem comes_1 {Post : Tables → Env → Array Value → State → Outcome → State → Prop} (hpost : ∀ tb e args s v u, (limb_1_1.after args s (.returned v) u = true ∧ limb_1_2.after args s (.returned v) u = true ∧ True) → FrameEnd s (.returned v) u (Jvm.fieldLocs frame_1_writes args s ++ Jvm.arrayLocs frame_1_arrays args s ++ Jvm.staticLocs frame_1_statics s) 24 16768 → Post tb e args s (.returned v) u) :
    ArmFor flags0 classFile x code maxLocals ret World_1 tables_1 room_1 Calls_1 rest_1 Pre_1 Post := by
  intro l hfl _ _ p e ha hc hk s m args below hf hA hF happ hP
  obtain ⟨hcalls, hrest, hpre⟩ := hP
  obtain ⟨-, -, -, hnamed, -, -, -, hat⟩ := (Spec.applies_iff hf).mp happ
  obtain ⟨hg, hn⟩ := and_e (Cond.before_iff.mp (show (Jvm.Cond.and given_1 narrow_1).before args s = true from hpre))
  obtain ⟨hcount, hg0⟩ := and_e hg
  obtain ⟨w0, w1, w2, w3, w4, w5, rfl⟩ : ∃ w0 w1 w2 w3 w4 w5 : Value, args = #[w0, w1, w2, w3, w4, w5] := by
    have hs : args.size = 6 := by simpa [Cond.value, given_1] using hcount
    obtain ⟨L⟩ := args
    match L, hs with
    | [w0, w1, w2, w3, w4, w5], _ => exact ⟨w0, w1, w2, w3, w4, w5, rfl⟩
  have hw := fun d (hd : d ∈ tables_1) => atoms_spec (ws := Jvm.Cond.code x code maxLocals ret :: tables_1) hat d (List.mem_cons_of_mem _ hd)
  have hfit : Fit s := fun {y c} hc i hi => by
    obtain ⟨ha, rfl⟩ := Array.getElem?_eq_some_iff.mp hc
    have q := List.all_eq_true.mp ((Array.all_eq_true_iff_forall_mem.mp hF) _ (Array.getElem_mem ha)) i (List.mem_range.mpr hi)
    simpa [Array.getElem?_eq_getElem hi] using q
  obtain ⟨ha0, hg1⟩ := and_e hg0
  obtain ⟨i0, ei0⟩ := is_v ha0
  obtain rfl : w0 = (.int i0) := Option.some.inj ei0
  obtain ⟨ha1, hg2⟩ := and_e hg1
  obtain ⟨i1, ei1⟩ := is_v ha1
  obtain rfl : w1 = (.int i1) := Option.some.inj ei1
  obtain ⟨ha2, hg3⟩ := and_e hg2
  obtain ⟨i2, ei2⟩ := is_v ha2
  obtain rfl : w2 = (.int i2) := Option.some.inj ei2
  obtain ⟨ha3, hg4⟩ := and_e hg3
  obtain ⟨i3, ei3⟩ := is_v ha3
  obtain rfl : w3 = (.int i3) := Option.some.inj ei3
  obtain ⟨ha4, hg5⟩ := and_e hg4
  obtain ⟨i4, ei4⟩ := is_v ha4
  obtain rfl : w4 = (.int i4) := Option.some.inj ei4
  obtain ⟨i5, ei5⟩ := is_v hg5
  obtain rfl : w5 = (.int i5) := Option.some.inj ei5
  obtain ⟨n, o, h1, h2, h3, _, L, rfl, ⟨rfl, N⟩, hq⟩ := rm0 l s _ hw tables_1 i0 i1 i2 i3 i4 i5 s.heap s.heap.size (Nat.le_refl _) p e ha hc hk s m _ below hf ((Spec.applies_iff_loose hf).mp happ).1 ⟨rfl, State.Warmed39.refl s, rfl⟩ trivial
  refine ⟨n, _, h1, h2, h3, hpost _ _ _ _ _ _ ⟨Cond.after_iff.mpr rfl, Cond.after_iff.mpr (eq_i res_at (Term.int_eval (1)) rfl), trivial⟩ ⟨hq.1, hq.2.1, (hq.2.2.sift fun y hy => Or.inr (N y hy)).mono (by decide) (by decide)⟩⟩
theorem main_1_1 : Claimed_1_1 := comes_1 fun _ _ _ _ _ _ h hF => ⟨h.1, hF⟩
theorem main_1_2 : Claimed_1_2 := comes_1 fun _ _ _ _ _ _ h hF => ⟨h.2.1, hF⟩
end Jvm.Pilot.@@N@@
namespace Jvm.Pilot.@@N@@
open Jvm Jvm.ClassFile Sem Op Lib Jvm.Free Jvm.Stand Jvm.Pilot.@@N@@.Jvm.D
/-! MADE BY PROGRAM (witnessworld.py) out of the Statement's table words and the real class files: 18 classes; the members and pool entries that the words name. The judged class is class 1, her method 3. -/
namespace start1
open Jvm.ClassFile
def u (s : String) : CpInfo := .utf8 (stringToUtf16 s)
/-- a pool by its gaps: so many unusable entries, then the entry; so many at the end -/
def gap : Nat → List CpInfo → List CpInfo
  | 0, r => r
  | n + 1, r => .unusable :: gap n r
def poolList (es : List (Nat × CpInfo)) (last : Nat) : List CpInfo := es.foldr (fun e r => gap e.1 (e.2 :: r)) (gap last [])
def pool (es : List (Nat × CpInfo)) (last : Nat) : Array CpInfo := ⟨poolList es last⟩
def fileOf (pool : Array CpInfo) (this : Nat) (attrs : Array Attribute := #[]) (ms : Array MethodInfo := #[]) (fl : Nat := 33) (sup : Nat := 0) (ifs : Array Nat := #[]) (fds : Array FieldInfo := #[]) : ClassFile where
  minorVersion := 0
  majorVersion := 65
  constantPool := pool
  accessFlags := fl
  thisClass := this
  superClass := sup
  interfaces := ifs
  fields := fds
  methods := ms
  attributes := attrs
def plain (name : String) (sup : Option ClassId) : Class where
  name := name
  kind := .ordinary
  loader := none
  accessFlags := 33
  super := sup
  interfaces := #[]
  cf := none
  fields := #[]
  methods := #[]
  instanceTypes := #[]
  staticTypes := #[]
  resolved := #[]
  callSites := []
  init := .initialized
  statics := none
  mirror := none

def pool0 : Array CpInfo := pool [(5, u "<init>"), (0, u "()V"), (1, .class_ 10), (1, u "java/lang/Object")] 113

def k0c0 : Code := { maxStack := 0, maxLocals := 1, code := object_method_1_code, exceptionTable := #[], attributes := #[] }
def k0m0 : Method := { name := "<init>", desc := "()V", sig := { parameters := [], returnType := none }, accessFlags := 1, code := some k0c0 }
/-- java/lang/Object -/
def k0 : Class := { plain "java/lang/Object" none with
  accessFlags := 33
  interfaces := #[]
  cf := some (fileOf pool0 8 #[] #[{ accessFlags := 1, nameIndex := 5, descriptorIndex := 6, attributes := #[] }] 33 0 #[] #[])
  fields := #[]
  methods := #[k0m0]
  instanceTypes := #[]
  staticTypes := #[]
  resolved := Array.replicate 124 none
  statics := none }

def pool1 : Array CpInfo := pool [(2, .class_ 4), (1, u "java/lang/Object"), (0, u "<init>"), (0, u "()V"), (0, .methodref 8 9), (0, .class_ 10), (0, .nameAndType 11 12), (0, u "com/example/interleave/interleave/NodeSetRemovePinLaw"), (0, u "best"), (0, u "(IZII)I"), (0, .integer 524287), (0, .integer 2147483647), (0, .class_ 16), (0, u "com/example/interleave/interleave/NodeSet"), (0, .methodref 15 18), (0, .nameAndType 5 19), (0, u "(I)V"), (0, .methodref 15 21), (0, .nameAndType 22 19), (0, u "add"), (0, .methodref 15 24), (0, .nameAndType 25 19), (0, u "remove"), (0, .methodref 8 27), (0, .nameAndType 28 29), (0, u "ref"), (0, u "(ZIZIZII)I"), (0, .methodref 15 31), (0, .nameAndType 32 33), (0, u "next"), (0, u "(I)I"), (0, .methodref 15 35), (0, .nameAndType 36 37), (0, u "isEmpty"), (0, u "()Z"), (3, u "law"), (0, u "(IIIIII)Z")] 2

def k1m0 : Method := { name := "<init>", desc := "()V", sig := { parameters := [], returnType := none }, accessFlags := 1, code := none }
def k1c1 : Code := { maxStack := 2, maxLocals := 4, code := method_2_code, exceptionTable := #[], attributes := #[] }
def k1m1 : Method := { name := "best", desc := "(IZII)I", sig := { parameters := [.int, .boolean, .int, .int], returnType := some .int }, accessFlags := 10, code := some k1c1 }
def k1c2 : Code := { maxStack := 4, maxLocals := 8, code := method_3_code, exceptionTable := #[], attributes := #[] }
def k1m2 : Method := { name := "ref", desc := "(ZIZIZII)I", sig := { parameters := [.boolean, .int, .boolean, .int, .boolean, .int, .int], returnType := some .int }, accessFlags := 10, code := some k1c2 }
def k1c3 : Code := { maxStack := 7, maxLocals := 23, code := code, exceptionTable := #[], attributes := #[] }
def k1m3 : Method := { name := "law", desc := "(IIIIII)Z", sig := { parameters := [.int, .int, .int, .int, .int, .int], returnType := some .boolean }, accessFlags := 9, code := some k1c3 }
/-- com/example/interleave/interleave/NodeSetRemovePinLaw -/
def k1 : Class := { plain "com/example/interleave/interleave/NodeSetRemovePinLaw" (some 0) with
  accessFlags := 49
  interfaces := #[]
  cf := some (fileOf pool1 8 #[] #[{ accessFlags := 1, nameIndex := 5, descriptorIndex := 6, attributes := #[] }, { accessFlags := 10, nameIndex := 11, descriptorIndex := 12, attributes := #[] }, { accessFlags := 10, nameIndex := 28, descriptorIndex := 29, attributes := #[] }, { accessFlags := 9, nameIndex := 41, descriptorIndex := 42, attributes := #[] }] 49 2 #[] #[])
  fields := #[]
  methods := #[k1m0, k1m1, k1m2, k1m3]
  instanceTypes := #[]
  staticTypes := #[]
  resolved := Array.replicate 45 none
  statics := none }

def pool2 : Array CpInfo := pool [(1, .class_ 2), (0, u "com/example/interleave/interleave/NodeSet"), (0, .methodref 4 5), (0, .class_ 6), (0, .nameAndType 7 8), (0, u "java/lang/Object"), (0, u "<init>"), (0, u "()V"), (0, .methodref 1 10), (0, .nameAndType 11 12), (0, u "wordsFor"), (0, u "(I)I"), (0, .class_ 14), (0, u "[J"), (0, .fieldref 1 16), (0, .nameAndType 17 18), (0, u "levels"), (0, u "[[J"), (0, .long 18446744073709551615), (1, .methodref 22 23), (0, .class_ 24), (0, .nameAndType 25 26), (0, u "java/lang/Long"), (0, u "numberOfTrailingZeros"), (0, u "(J)I"), (2, u "isEmpty"), (0, u "()Z"), (9, u "next"), (2, u "remove"), (0, u "(I)V"), (0, .methodref 46 47), (0, .class_ 48), (0, .nameAndType 49 50), (0, u "java/lang/Math"), (0, u "max"), (0, u "(II)I"), (0, u "WORD_SHIFT"), (0, u "I"), (2, u "BIT_MASK"), (4, u "add")] 5

def k2c0 : Code := { maxStack := 3, maxLocals := 5, code := prog_43_method_1_code, exceptionTable := #[], attributes := #[] }
def k2m0 : Method := { name := "<init>", desc := "(I)V", sig := { parameters := [.int], returnType := none }, accessFlags := 0, code := some k2c0 }
def k2c1 : Code := { maxStack := 8, maxLocals := 7, code := prog_43_method_2_code, exceptionTable := #[], attributes := #[] }
def k2m1 : Method := { name := "add", desc := "(I)V", sig := { parameters := [.int], returnType := none }, accessFlags := 0, code := some k2c1 }
def k2c2 : Code := { maxStack := 4, maxLocals := 1, code := prog_43_method_3_code, exceptionTable := #[], attributes := #[] }
def k2m2 : Method := { name := "isEmpty", desc := "()Z", sig := { parameters := [], returnType := some .boolean }, accessFlags := 0, code := some k2c2 }
def k2c3 : Code := { maxStack := 8, maxLocals := 7, code := prog_43_method_4_code, exceptionTable := #[], attributes := #[] }
def k2m3 : Method := { name := "remove", desc := "(I)V", sig := { parameters := [.int], returnType := none }, accessFlags := 0, code := some k2c3 }
def k2c4 : Code := { maxStack := 6, maxLocals := 6, code := prog_43_method_5_code, exceptionTable := #[], attributes := #[] }
def k2m4 : Method := { name := "next", desc := "(I)I", sig := { parameters := [.int], returnType := some .int }, accessFlags := 0, code := some k2c4 }
def k2c5 : Code := { maxStack := 4, maxLocals := 1, code := prog_43_method_7_code, exceptionTable := #[], attributes := #[] }
def k2m5 : Method := { name := "wordsFor", desc := "(I)I", sig := { parameters := [.int], returnType := some .int }, accessFlags := 10, code := some k2c5 }
/-- com/example/interleave/interleave/NodeSet -/
def k2 : Class := { plain "com/example/interleave/interleave/NodeSet" (some 0) with
  accessFlags := 32
  interfaces := #[]
  cf := some (fileOf pool2 1 #[] #[{ accessFlags := 0, nameIndex := 7, descriptorIndex := 44, attributes := #[] }, { accessFlags := 0, nameIndex := 60, descriptorIndex := 44, attributes := #[] }, { accessFlags := 0, nameIndex := 29, descriptorIndex := 30, attributes := #[] }, { accessFlags := 0, nameIndex := 43, descriptorIndex := 44, attributes := #[] }, { accessFlags := 0, nameIndex := 40, descriptorIndex := 12, attributes := #[] }, { accessFlags := 10, nameIndex := 11, descriptorIndex := 12, attributes := #[] }] 32 4 #[] #[{ accessFlags := 26, nameIndex := 51, descriptorIndex := 52, attributes := #[] }, { accessFlags := 26, nameIndex := 55, descriptorIndex := 52, attributes := #[] }, { accessFlags := 18, nameIndex := 17, descriptorIndex := 18, attributes := #[] }])
  fields := #[{ name := "WORD_SHIFT", type := .int, accessFlags := 26, slot := 0, constantValue := 0 }, { name := "BIT_MASK", type := .int, accessFlags := 26, slot := 1, constantValue := 0 }, { name := "levels", type := (.array (.array .long)), accessFlags := 18, slot := 0, constantValue := 0 }]
  methods := #[k2m0, k2m1, k2m2, k2m3, k2m4, k2m5]
  instanceTypes := #[(.array (.array .long))]
  staticTypes := #[.int, .int]
  resolved := Array.replicate 66 none
  statics := none }

def pool3 : Array CpInfo := pool [(1, .class_ 2), (0, u "java/lang/Math"), (1, .class_ 6), (1, u "java/lang/Object"), (0, u "<init>"), (0, u "()V"), (89, .class_ 100), (1, u "java/lang/Math$RandomNumberGeneratorHolder"), (71, u "negativeZeroFloatBits"), (0, u "J"), (2, u "negativeZeroDoubleBits"), (21, u "max"), (46, u "$assertionsDisabled"), (0, u "Z"), (88, u "(II)I"), (2, u "twoToTheDoubleScaleDown"), (0, u "D"), (4, u "twoToTheDoubleScaleUp"), (9, u "E"), (3, u "PI"), (2, u "TAU"), (2, u "DEGREES_TO_RADIANS"), (0, u "RADIANS_TO_DEGREES")] 94

def k3m0 : Method := { name := "<init>", desc := "()V", sig := { parameters := [], returnType := none }, accessFlags := 2, code := none }
def k3c1 : Code := { maxStack := 2, maxLocals := 2, code := jdk_29_method_65_code, exceptionTable := #[], attributes := #[] }
def k3m1 : Method := { name := "max", desc := "(II)I", sig := { parameters := [.int, .int], returnType := some .int }, accessFlags := 9, code := some k3c1 }
/-- java/lang/Math -/
def k3 : Class := { plain "java/lang/Math" (some 0) with
  accessFlags := 49
  interfaces := #[]
  cf := some (fileOf pool3 1 #[.nestMembers #[98]] #[{ accessFlags := 2, nameIndex := 7, descriptorIndex := 8, attributes := #[] }, { accessFlags := 9, nameIndex := 198, descriptorIndex := 335, attributes := #[] }] 49 4 #[] #[{ accessFlags := 25, nameIndex := 354, descriptorIndex := 339, attributes := #[] }, { accessFlags := 25, nameIndex := 358, descriptorIndex := 339, attributes := #[] }, { accessFlags := 25, nameIndex := 361, descriptorIndex := 339, attributes := #[] }, { accessFlags := 26, nameIndex := 364, descriptorIndex := 339, attributes := #[] }, { accessFlags := 26, nameIndex := 365, descriptorIndex := 339, attributes := #[] }, { accessFlags := 26, nameIndex := 172, descriptorIndex := 173, attributes := #[] }, { accessFlags := 26, nameIndex := 176, descriptorIndex := 173, attributes := #[] }, { accessFlags := 8, nameIndex := 344, descriptorIndex := 339, attributes := #[] }, { accessFlags := 8, nameIndex := 338, descriptorIndex := 339, attributes := #[] }, { accessFlags := 4120, nameIndex := 245, descriptorIndex := 246, attributes := #[] }])
  fields := #[{ name := "E", type := .double, accessFlags := 25, slot := 0, constantValue := 0 }, { name := "PI", type := .double, accessFlags := 25, slot := 1, constantValue := 0 }, { name := "TAU", type := .double, accessFlags := 25, slot := 2, constantValue := 0 }, { name := "DEGREES_TO_RADIANS", type := .double, accessFlags := 26, slot := 3, constantValue := 0 }, { name := "RADIANS_TO_DEGREES", type := .double, accessFlags := 26, slot := 4, constantValue := 0 }, { name := "negativeZeroFloatBits", type := .long, accessFlags := 26, slot := 5, constantValue := 0 }, { name := "negativeZeroDoubleBits", type := .long, accessFlags := 26, slot := 6, constantValue := 0 }, { name := "twoToTheDoubleScaleUp", type := .double, accessFlags := 8, slot := 7, constantValue := 0 }, { name := "twoToTheDoubleScaleDown", type := .double, accessFlags := 8, slot := 8, constantValue := 0 }, { name := "$assertionsDisabled", type := .boolean, accessFlags := 4120, slot := 9, constantValue := 0 }]
  methods := #[k3m0, k3m1]
  instanceTypes := #[]
  staticTypes := #[.double, .double, .double, .double, .double, .long, .long, .double, .double, .boolean]
  resolved := Array.replicate 460 none
  statics := none }

def pool4 : Array CpInfo := pool [(1, .class_ 2), (0, u "java/io/Serializable"), (0, .class_ 4), (0, u "java/lang/Object")] 2

/-- java/io/Serializable -/
def k4 : Class := { plain "java/io/Serializable" (some 0) with
  accessFlags := 1537
  interfaces := #[]
  cf := some (fileOf pool4 1 #[] #[] 1537 3 #[] #[])
  fields := #[]
  methods := #[]
  instanceTypes := #[]
  staticTypes := #[]
  resolved := Array.replicate 7 none
  statics := none }

def pool5 : Array CpInfo := pool [(2, .class_ 4), (1, u "java/lang/Object"), (0, u "<init>"), (0, u "()V"), (1, .class_ 10), (1, u "java/lang/Number"), (2, .class_ 14), (0, u "java/io/Serializable"), (0, u "serialVersionUID"), (0, u "J")] 20

def k5m0 : Method := { name := "<init>", desc := "()V", sig := { parameters := [], returnType := none }, accessFlags := 1, code := none }
/-- java/lang/Number -/
def k5 : Class := { plain "java/lang/Number" (some 0) with
  accessFlags := 1057
  interfaces := #[4]
  cf := some (fileOf pool5 8 #[] #[{ accessFlags := 1, nameIndex := 5, descriptorIndex := 6, attributes := #[] }] 1057 2 #[13] #[{ accessFlags := 26, nameIndex := 15, descriptorIndex := 16, attributes := #[] }])
  fields := #[{ name := "serialVersionUID", type := .long, accessFlags := 26, slot := 0, constantValue := 0 }]
  methods := #[k5m0]
  instanceTypes := #[]
  staticTypes := #[.long]
  resolved := Array.replicate 37 none
  statics := none }

def pool6 : Array CpInfo := pool [(1, .class_ 2), (0, u "java/lang/Comparable"), (0, .class_ 4), (0, u "java/lang/Object")] 7

/-- java/lang/Comparable -/
def k6 : Class := { plain "java/lang/Comparable" (some 0) with
  accessFlags := 1537
  interfaces := #[]
  cf := some (fileOf pool6 1 #[] #[] 1537 3 #[] #[])
  fields := #[]
  methods := #[]
  instanceTypes := #[]
  staticTypes := #[]
  resolved := Array.replicate 12 none
  statics := none }

def pool7 : Array CpInfo := pool [(1, .class_ 2), (0, u "java/lang/constant/Constable"), (0, .class_ 4), (0, u "java/lang/Object")] 6

/-- java/lang/constant/Constable -/
def k7 : Class := { plain "java/lang/constant/Constable" (some 0) with
  accessFlags := 1537
  interfaces := #[]
  cf := some (fileOf pool7 1 #[] #[] 1537 3 #[] #[])
  fields := #[]
  methods := #[]
  instanceTypes := #[]
  staticTypes := #[]
  resolved := Array.replicate 11 none
  statics := none }

def pool8 : Array CpInfo := pool [(1, .class_ 2), (0, u "java/lang/constant/ConstantDesc"), (0, .class_ 4), (0, u "java/lang/Object")] 32

/-- java/lang/constant/ConstantDesc -/
def k8 : Class := { plain "java/lang/constant/ConstantDesc" (some 0) with
  accessFlags := 1537
  interfaces := #[]
  cf := some (fileOf pool8 1 #[] #[] 1537 3 #[] #[])
  fields := #[]
  methods := #[]
  instanceTypes := #[]
  staticTypes := #[]
  resolved := Array.replicate 37 none
  statics := none }

def pool9 : Array CpInfo := pool [(1, .class_ 2), (0, u "java/lang/Long"), (15, .class_ 20), (1, u "java/lang/Integer"), (80, u "(J)I"), (133, .class_ 237), (1, u "java/lang/Long$LongCache"), (33, .class_ 272), (0, u "java/lang/Number"), (2, u "value"), (0, u "J"), (33, u "(I)I"), (0, .methodref 18 312), (0, .nameAndType 313 310), (0, u "numberOfTrailingZeros"), (47, u "TYPE"), (0, u "Ljava/lang/Class;"), (0, .class_ 364), (0, u "java/lang/Comparable"), (0, .class_ 366), (0, u "java/lang/constant/Constable"), (0, .class_ 368), (0, u "java/lang/constant/ConstantDesc"), (0, u "MIN_VALUE"), (1, u "MAX_VALUE"), (4, u "SIZE"), (0, u "I"), (1, u "BYTES"), (1, u "serialVersionUID")] 142

def k9c0 : Code := { maxStack := 4, maxLocals := 3, code := jdk_35_method_49_code, exceptionTable := #[], attributes := #[] }
def k9m0 : Method := { name := "numberOfTrailingZeros", desc := "(J)I", sig := { parameters := [.long], returnType := some .int }, accessFlags := 9, code := some k9c0 }
/-- java/lang/Long -/
def k9 : Class := { plain "java/lang/Long" (some 5) with
  accessFlags := 49
  interfaces := #[6, 7, 8]
  cf := some (fileOf pool9 1 #[.nestMembers #[235]] #[{ accessFlags := 9, nameIndex := 313, descriptorIndex := 101, attributes := #[] }] 49 271 #[363, 365, 367] #[{ accessFlags := 25, nameIndex := 369, descriptorIndex := 276, attributes := #[] }, { accessFlags := 25, nameIndex := 371, descriptorIndex := 276, attributes := #[] }, { accessFlags := 25, nameIndex := 361, descriptorIndex := 362, attributes := #[] }, { accessFlags := 18, nameIndex := 275, descriptorIndex := 276, attributes := #[] }, { accessFlags := 25, nameIndex := 376, descriptorIndex := 377, attributes := #[] }, { accessFlags := 25, nameIndex := 379, descriptorIndex := 377, attributes := #[] }, { accessFlags := 26, nameIndex := 381, descriptorIndex := 276, attributes := #[] }])
  fields := #[{ name := "MIN_VALUE", type := .long, accessFlags := 25, slot := 0, constantValue := 0 }, { name := "MAX_VALUE", type := .long, accessFlags := 25, slot := 1, constantValue := 0 }, { name := "TYPE", type := (.object "java/lang/Class"), accessFlags := 25, slot := 2, constantValue := 0 }, { name := "value", type := .long, accessFlags := 18, slot := 0, constantValue := 0 }, { name := "SIZE", type := .int, accessFlags := 25, slot := 3, constantValue := 0 }, { name := "BYTES", type := .int, accessFlags := 25, slot := 4, constantValue := 0 }, { name := "serialVersionUID", type := .long, accessFlags := 26, slot := 5, constantValue := 0 }]
  methods := #[k9m0]
  instanceTypes := #[.long]
  staticTypes := #[.long, .long, (.object "java/lang/Class"), .int, .int, .long]
  resolved := Array.replicate 524 none
  statics := none }

def pool10 : Array CpInfo := pool [(1, .class_ 2), (0, u "java/lang/Integer"), (16, u "digits"), (0, u "[C"), (33, u "(I)I"), (30, u "DigitOnes"), (0, u "[B"), (2, u "DigitTens"), (99, .class_ 190), (0, u "java/lang/Integer$IntegerCache"), (3, u "I"), (8, .class_ 204), (0, u "java/lang/Number"), (2, u "value"), (56, .integer 65536), (37, u "TYPE"), (0, u "Ljava/lang/Class;"), (0, .class_ 305), (0, u "java/lang/Comparable"), (0, .class_ 307), (0, u "java/lang/constant/Constable"), (0, .class_ 309), (0, u "java/lang/constant/ConstantDesc"), (0, u "MIN_VALUE"), (1, u "MAX_VALUE"), (3, u "SIZE"), (1, u "BYTES"), (1, u "serialVersionUID"), (0, u "J"), (84, u "numberOfTrailingZeros")] 46

def k10c0 : Code := { maxStack := 3, maxLocals := 2, code := jdk_33_method_48_code, exceptionTable := #[], attributes := #[] }
def k10m0 : Method := { name := "numberOfTrailingZeros", desc := "(I)I", sig := { parameters := [.int], returnType := some .int }, accessFlags := 9, code := some k10c0 }
/-- java/lang/Integer -/
def k10 : Class := { plain "java/lang/Integer" (some 5) with
  accessFlags := 49
  interfaces := #[6, 7, 8]
  cf := some (fileOf pool10 1 #[.nestMembers #[189]] #[{ accessFlags := 9, nameIndex := 406, descriptorIndex := 54, attributes := #[] }] 49 203 #[304, 306, 308] #[{ accessFlags := 25, nameIndex := 310, descriptorIndex := 194, attributes := #[] }, { accessFlags := 25, nameIndex := 312, descriptorIndex := 194, attributes := #[] }, { accessFlags := 25, nameIndex := 302, descriptorIndex := 303, attributes := #[] }, { accessFlags := 24, nameIndex := 19, descriptorIndex := 20, attributes := #[] }, { accessFlags := 24, nameIndex := 89, descriptorIndex := 86, attributes := #[] }, { accessFlags := 24, nameIndex := 85, descriptorIndex := 86, attributes := #[] }, { accessFlags := 18, nameIndex := 207, descriptorIndex := 194, attributes := #[] }, { accessFlags := 25, nameIndex := 316, descriptorIndex := 194, attributes := #[] }, { accessFlags := 25, nameIndex := 318, descriptorIndex := 194, attributes := #[] }, { accessFlags := 26, nameIndex := 320, descriptorIndex := 321, attributes := #[] }])
  fields := #[{ name := "MIN_VALUE", type := .int, accessFlags := 25, slot := 0, constantValue := 0 }, { name := "MAX_VALUE", type := .int, accessFlags := 25, slot := 1, constantValue := 0 }, { name := "TYPE", type := (.object "java/lang/Class"), accessFlags := 25, slot := 2, constantValue := 0 }, { name := "digits", type := (.array .char), accessFlags := 24, slot := 3, constantValue := 0 }, { name := "DigitTens", type := (.array .byte), accessFlags := 24, slot := 4, constantValue := 0 }, { name := "DigitOnes", type := (.array .byte), accessFlags := 24, slot := 5, constantValue := 0 }, { name := "value", type := .int, accessFlags := 18, slot := 0, constantValue := 0 }, { name := "SIZE", type := .int, accessFlags := 25, slot := 6, constantValue := 0 }, { name := "BYTES", type := .int, accessFlags := 25, slot := 7, constantValue := 0 }, { name := "serialVersionUID", type := .long, accessFlags := 26, slot := 8, constantValue := 0 }]
  methods := #[k10m0]
  instanceTypes := #[.int]
  staticTypes := #[.int, .int, (.object "java/lang/Class"), (.array .char), (.array .byte), (.array .byte), .int, .int, .long]
  resolved := Array.replicate 453 none
  statics := none }

def pool11 : Array CpInfo := pool [(1, u "java/lang/Cloneable"), (0, .class_ 1), (0, u "java/lang/Object"), (0, .class_ 3)] 3

/-- java/lang/Cloneable -/
def k11 : Class := { plain "java/lang/Cloneable" (some 0) with
  accessFlags := 1537
  interfaces := #[]
  cf := some (fileOf pool11 2 #[] #[] 1537 4 #[] #[])
  fields := #[]
  methods := #[]
  instanceTypes := #[]
  staticTypes := #[]
  resolved := Array.replicate 8 none
  statics := none }

/-- the primitive byte -/
def k12 : Class := { plain "byte" none with kind := .primitive 'B', accessFlags := 0x411 }
/-- [B -/
def k13 : Class := { plain "[B" (some 0) with kind := .array 12 .byte, interfaces := #[11, 4], accessFlags := 1041 }

/-- the primitive int -/
def k14 : Class := { plain "int" none with kind := .primitive 'I', accessFlags := 0x411 }
/-- [I -/
def k15 : Class := { plain "[I" (some 0) with kind := .array 14 .int, interfaces := #[11, 4], accessFlags := 1041 }

/-- the primitive long -/
def k16 : Class := { plain "long" none with kind := .primitive 'J', accessFlags := 0x411 }
/-- [J -/
def k17 : Class := { plain "[J" (some 0) with kind := .array 16 .long, interfaces := #[11, 4], accessFlags := 1041 }

def heap : Heap := #[]
def k18 : Class := { plain "[[J" (some 0) with kind := .array 17 (.array .long), interfaces := #[11, 4], accessFlags := 1041 }
def classes : Array Class := #[k0, k1, k2, k3, k4, k5, k6, k7, k8, k9, k10, k11, k12, k13, k14, k15, k16, k17, k18]
def interned : List (Array UInt16 × Addr) := []
def slotsUsed : Nat := 0
def theMethod : MethodId := ⟨1, 3⟩
def args0 : Array Value := #[.int 5, .int 7, .int 2, .int 3, .int 1, .int 4]
def aboutOver (below : List Frame) : State where
  vm := { classes := classes, interned := interned.toArray }
  heap := heap
  slotsUsed := slotsUsed
  threads := #[{ frames := .invoking theMethod args0 :: below }]
def below0 : List Frame := [.native { method := ⟨0, 0⟩, args := #[] }]
def about1 : State := aboutOver below0
def p0 : Program := .bare "" "" ""
def e0 : Env := launch0.env 0 0 0
theorem w_frames : about1.frames = Frame.invoking theMethod args0 :: below0 := rfl
set_option maxRecDepth 65536 in
theorem w_args : argsFit about1.vm theMethod args0 = true := by decide +kernel
set_option maxRecDepth 65536 in
theorem w_heap : heapFits about1 = true := by decide +kernel
set_option maxRecDepth 65536 in
theorem w_runnable : about1.curStatus? = some .runnable := by decide +kernel
set_option maxRecDepth 65536 in
theorem w_alone : about1.alone = true := by decide +kernel
set_option maxRecDepth 65536 in
theorem w_named : about1.methodNamed? x = some theMethod := by decide +kernel
set_option maxRecDepth 65536 in
theorem w_hears : about1.hears theMethod below0 = true := by decide +kernel
set_option maxRecDepth 65536 in
theorem w_ripe : about1.ripe theMethod args0 below0 = true := by decide +kernel
theorem w_running : about1.status = .running := rfl
set_option maxRecDepth 65536 in
theorem w_room : about1.hasRoom e0.platform room_1 = true :=
  launch0.hasRoom_least _ room_1 (by decide +kernel) (by decide +kernel) (by decide +kernel) (by decide +kernel) (by decide +kernel) (by decide +kernel)
theorem allAtoms_all (ts : List Jvm.Cond) (a : Array Jvm.Value) (st : Jvm.State) : (allAtoms ts).before a st = ts.all (fun c => c.before a st) := by
  induction ts with
  | nil => rfl
  | cons c t ih =>
    show (Jvm.Cond.and c (allAtoms t)).before a st = _
    rw [Jvm.Cond.before_and, ih, List.all_cons]
def words1 : List Jvm.Cond := Jvm.Cond.code x code maxLocals ret :: tables_1
/-- a 'code' word, met by the world's own term for the bytes: nothing is compared byte by byte -/
theorem code_word {y : MethodName} {bytes : ByteArray} {mx : Nat} {rt : Option FieldType} {a : Array Value} {s : State} {m : MethodId} {meth : Method} {c : Code} (h1 : s.methodNamed? y = some m) (h2 : s.vm.method? m = some meth) (h3 : meth.code = some c) (h4 : c.code = bytes)
    (h5 : (c.maxLocals == mx && c.exceptionTable.isEmpty && decide (c.maxStack ≤ mostOperands) && decide (meth.sig.returnType = rt) && !meth.locks && decide (parseMethodDescriptor y.desc = some meth.sig)) = true) : (Jvm.Cond.code y bytes mx rt).before a s = true := by
  simp only [Bool.and_eq_true, beq_iff_eq, Bool.not_eq_true', decide_eq_true_eq] at h5
  obtain ⟨⟨⟨⟨⟨g1, g2⟩, g3⟩, g4⟩, g5⟩, g6⟩ := h5
  simp [Cond.before, Cond.holds, Cond.value, h1, h2, h3, h4, g1, g2, g3, g4, g5, g6]
def isCode : Jvm.Cond → Bool
  | .code _ _ _ _ => true
  | _ => false
theorem all_split {L : List Jvm.Cond} {P : Jvm.Cond → Bool} (h1 : L.all (fun c => isCode c || P c) = true) (h2 : ∀ c ∈ L.filter isCode, P c = true) : L.all P = true := by
  refine List.all_eq_true.mpr fun c hc => ?_
  have h := List.all_eq_true.mp h1 c hc
  rcases Bool.eq_false_or_eq_true (isCode c) with hi | hi
  · exact h2 c (List.mem_filter.mpr ⟨hc, hi⟩)
  · simpa [hi] using h
set_option maxRecDepth 65536 in
theorem w_c0 : (Jvm.Cond.code x code maxLocals ret).before args0 about1 = true := code_word (m := ⟨1, 3⟩) (meth := k1m3) (c := k1c3) (by decide +kernel) rfl rfl rfl (by decide +kernel)
set_option maxRecDepth 65536 in
theorem w_c1 : (Jvm.Cond.code ({ cls := "com/example/interleave/interleave/NodeSet", name := "<init>", desc := "(I)V" } : Jvm.MethodName) prog_43_method_1_code (5 : Nat) (Option.none : Option Jvm.ClassFile.FieldType)).before args0 about1 = true := code_word (m := ⟨2, 0⟩) (meth := k2m0) (c := k2c0) (by decide +kernel) rfl rfl rfl (by decide +kernel)
set_option maxRecDepth 65536 in
theorem w_c2 : (Jvm.Cond.code ({ cls := "java/lang/Object", name := "<init>", desc := "()V" } : Jvm.MethodName) object_method_1_code (1 : Nat) (Option.none : Option Jvm.ClassFile.FieldType)).before args0 about1 = true := code_word (m := ⟨0, 0⟩) (meth := k0m0) (c := k0c0) (by decide +kernel) rfl rfl rfl (by decide +kernel)
set_option maxRecDepth 65536 in
theorem w_c3 : (Jvm.Cond.code ({ cls := "com/example/interleave/interleave/NodeSet", name := "wordsFor", desc := "(I)I" } : Jvm.MethodName) prog_43_method_7_code (1 : Nat) (Option.some Jvm.ClassFile.FieldType.int)).before args0 about1 = true := code_word (m := ⟨2, 5⟩) (meth := k2m5) (c := k2c5) (by decide +kernel) rfl rfl rfl (by decide +kernel)
set_option maxRecDepth 65536 in
theorem w_c4 : (Jvm.Cond.code ({ cls := "java/lang/Math", name := "max", desc := "(II)I" } : Jvm.MethodName) jdk_29_method_65_code (2 : Nat) (Option.some Jvm.ClassFile.FieldType.int)).before args0 about1 = true := code_word (m := ⟨3, 1⟩) (meth := k3m1) (c := k3c1) (by decide +kernel) rfl rfl rfl (by decide +kernel)
set_option maxRecDepth 65536 in
theorem w_c5 : (Jvm.Cond.code ({ cls := "com/example/interleave/interleave/NodeSet", name := "add", desc := "(I)V" } : Jvm.MethodName) prog_43_method_2_code (7 : Nat) (Option.none : Option Jvm.ClassFile.FieldType)).before args0 about1 = true := code_word (m := ⟨2, 1⟩) (meth := k2m1) (c := k2c1) (by decide +kernel) rfl rfl rfl (by decide +kernel)
set_option maxRecDepth 65536 in
theorem w_c6 : (Jvm.Cond.code ({ cls := "com/example/interleave/interleave/NodeSet", name := "remove", desc := "(I)V" } : Jvm.MethodName) prog_43_method_4_code (7 : Nat) (Option.none : Option Jvm.ClassFile.FieldType)).before args0 about1 = true := code_word (m := ⟨2, 3⟩) (meth := k2m3) (c := k2c3) (by decide +kernel) rfl rfl rfl (by decide +kernel)
set_option maxRecDepth 65536 in
theorem w_c7 : (Jvm.Cond.code ({ cls := "com/example/interleave/interleave/NodeSetRemovePinLaw", name := "ref", desc := "(ZIZIZII)I" } : Jvm.MethodName) method_3_code (8 : Nat) (Option.some Jvm.ClassFile.FieldType.int)).before args0 about1 = true := code_word (m := ⟨1, 2⟩) (meth := k1m2) (c := k1c2) (by decide +kernel) rfl rfl rfl (by decide +kernel)
set_option maxRecDepth 65536 in
theorem w_c8 : (Jvm.Cond.code ({ cls := "com/example/interleave/interleave/NodeSetRemovePinLaw", name := "best", desc := "(IZII)I" } : Jvm.MethodName) method_2_code (4 : Nat) (Option.some Jvm.ClassFile.FieldType.int)).before args0 about1 = true := code_word (m := ⟨1, 1⟩) (meth := k1m1) (c := k1c1) (by decide +kernel) rfl rfl rfl (by decide +kernel)
set_option maxRecDepth 65536 in
theorem w_c9 : (Jvm.Cond.code ({ cls := "com/example/interleave/interleave/NodeSet", name := "next", desc := "(I)I" } : Jvm.MethodName) prog_43_method_5_code (6 : Nat) (Option.some Jvm.ClassFile.FieldType.int)).before args0 about1 = true := code_word (m := ⟨2, 4⟩) (meth := k2m4) (c := k2c4) (by decide +kernel) rfl rfl rfl (by decide +kernel)
set_option maxRecDepth 65536 in
theorem w_c10 : (Jvm.Cond.code ({ cls := "com/example/interleave/interleave/NodeSet", name := "isEmpty", desc := "()Z" } : Jvm.MethodName) prog_43_method_3_code (1 : Nat) (Option.some Jvm.ClassFile.FieldType.boolean)).before args0 about1 = true := code_word (m := ⟨2, 2⟩) (meth := k2m2) (c := k2c2) (by decide +kernel) rfl rfl rfl (by decide +kernel)
set_option maxRecDepth 65536 in
theorem w_c11 : (Jvm.Cond.code ({ cls := "java/lang/Long", name := "numberOfTrailingZeros", desc := "(J)I" } : Jvm.MethodName) jdk_35_method_49_code (3 : Nat) (Option.some Jvm.ClassFile.FieldType.int)).before args0 about1 = true := code_word (m := ⟨9, 0⟩) (meth := k9m0) (c := k9c0) (by decide +kernel) rfl rfl rfl (by decide +kernel)
set_option maxRecDepth 65536 in
theorem w_c12 : (Jvm.Cond.code ({ cls := "java/lang/Integer", name := "numberOfTrailingZeros", desc := "(I)I" } : Jvm.MethodName) jdk_33_method_48_code (2 : Nat) (Option.some Jvm.ClassFile.FieldType.int)).before args0 about1 = true := code_word (m := ⟨10, 0⟩) (meth := k10m0) (c := k10c0) (by decide +kernel) rfl rfl rfl (by decide +kernel)
def codes1 : List Jvm.Cond := [Jvm.Cond.code x code maxLocals ret, Jvm.Cond.code ({ cls := "com/example/interleave/interleave/NodeSet", name := "<init>", desc := "(I)V" } : Jvm.MethodName) prog_43_method_1_code (5 : Nat) (Option.none : Option Jvm.ClassFile.FieldType), Jvm.Cond.code ({ cls := "java/lang/Object", name := "<init>", desc := "()V" } : Jvm.MethodName) object_method_1_code (1 : Nat) (Option.none : Option Jvm.ClassFile.FieldType), Jvm.Cond.code ({ cls := "com/example/interleave/interleave/NodeSet", name := "wordsFor", desc := "(I)I" } : Jvm.MethodName) prog_43_method_7_code (1 : Nat) (Option.some Jvm.ClassFile.FieldType.int), Jvm.Cond.code ({ cls := "java/lang/Math", name := "max", desc := "(II)I" } : Jvm.MethodName) jdk_29_method_65_code (2 : Nat) (Option.some Jvm.ClassFile.FieldType.int), Jvm.Cond.code ({ cls := "com/example/interleave/interleave/NodeSet", name := "add", desc := "(I)V" } : Jvm.MethodName) prog_43_method_2_code (7 : Nat) (Option.none : Option Jvm.ClassFile.FieldType), Jvm.Cond.code ({ cls := "com/example/interleave/interleave/NodeSet", name := "remove", desc := "(I)V" } : Jvm.MethodName) prog_43_method_4_code (7 : Nat) (Option.none : Option Jvm.ClassFile.FieldType), Jvm.Cond.code ({ cls := "com/example/interleave/interleave/NodeSetRemovePinLaw", name := "ref", desc := "(ZIZIZII)I" } : Jvm.MethodName) method_3_code (8 : Nat) (Option.some Jvm.ClassFile.FieldType.int), Jvm.Cond.code ({ cls := "com/example/interleave/interleave/NodeSetRemovePinLaw", name := "best", desc := "(IZII)I" } : Jvm.MethodName) method_2_code (4 : Nat) (Option.some Jvm.ClassFile.FieldType.int), Jvm.Cond.code ({ cls := "com/example/interleave/interleave/NodeSet", name := "next", desc := "(I)I" } : Jvm.MethodName) prog_43_method_5_code (6 : Nat) (Option.some Jvm.ClassFile.FieldType.int), Jvm.Cond.code ({ cls := "com/example/interleave/interleave/NodeSet", name := "isEmpty", desc := "()Z" } : Jvm.MethodName) prog_43_method_3_code (1 : Nat) (Option.some Jvm.ClassFile.FieldType.boolean), Jvm.Cond.code ({ cls := "java/lang/Long", name := "numberOfTrailingZeros", desc := "(J)I" } : Jvm.MethodName) jdk_35_method_49_code (3 : Nat) (Option.some Jvm.ClassFile.FieldType.int), Jvm.Cond.code ({ cls := "java/lang/Integer", name := "numberOfTrailingZeros", desc := "(I)I" } : Jvm.MethodName) jdk_33_method_48_code (2 : Nat) (Option.some Jvm.ClassFile.FieldType.int)]
set_option maxRecDepth 65536 in
theorem codes_eq : words1.filter isCode = codes1 := rfl
theorem w_codes : ∀ c ∈ words1.filter isCode, c.before args0 about1 = true := by
  rw [codes_eq]
  intro c hc
  simp only [codes1, List.mem_cons, List.not_mem_nil, or_false] at hc
  rcases hc with rfl | rfl | rfl | rfl | rfl | rfl | rfl | rfl | rfl | rfl | rfl | rfl | rfl
  · exact w_c0
  · exact w_c1
  · exact w_c2
  · exact w_c3
  · exact w_c4
  · exact w_c5
  · exact w_c6
  · exact w_c7
  · exact w_c8
  · exact w_c9
  · exact w_c10
  · exact w_c11
  · exact w_c12
set_option maxRecDepth 65536 in
theorem w_t1 : (words1.take 24).all (fun c => isCode c || c.before args0 about1) = true := by decide +kernel
set_option maxRecDepth 65536 in
theorem w_t2 : ((words1.drop 24).take 24).all (fun c => isCode c || c.before args0 about1) = true := by decide +kernel
set_option maxRecDepth 65536 in
theorem w_t3 : ((words1.drop 24).drop 24).all (fun c => isCode c || c.before args0 about1) = true := by decide +kernel
theorem w_tables : (allAtoms (Jvm.Cond.code x code maxLocals ret :: tables_1)).before args0 about1 = true := by
  rw [allAtoms_all]
  show words1.all (fun c => c.before args0 about1) = true
  refine all_split ?_ w_codes
  rw [← List.take_append_drop 24 words1, List.all_append, w_t1, ← List.take_append_drop 24 (words1.drop 24), List.all_append, w_t2, w_t3]
  rfl
set_option maxRecDepth 65536 in
theorem w_case : (Jvm.Cond.and given_1 narrow_1).before args0 about1 = true := by decide +kernel
theorem w_applies : (headSpec (Jvm.Cond.code x code maxLocals ret :: tables_1) room_1).applies x e0.platform about1 = true :=
  (Spec.applies_iff w_frames).mpr ⟨w_running, w_runnable, w_alone, w_named, w_hears, w_ripe, w_room, w_tables⟩
theorem atStart : AtStart classFile x code maxLocals ret World_1 tables_1 room_1 Calls_1 rest_1 Pre_1 launch0 p0 e0 about1 theMethod args0 below0 :=
  ⟨lists_1, trivial, launch0.admits_env _ _ _, launch0.least_env, fairChoices_fair.cas, fairChoices_fair.clock, w_frames, w_args, w_heap, w_applies, trivial, trivial, w_case⟩
end start1
theorem witness_1 : WitnessClaimed_1 := ⟨start1.p0, start1.e0, start1.about1, start1.theMethod, start1.args0, start1.below0, start1.atStart⟩
end Jvm.Pilot.@@N@@
