import JvmDerived
import JvmDerived.Pilot.@@N@@Statement
import JvmDerived.Pilot.@@N@@Code
set_option linter.unusedVariables false
set_option linter.unusedSimpArgs false

namespace Jvm.Pilot.@@N@@
open Jvm Jvm.ClassFile Sem Op Lib Jvm.Free Jvm.Stand Jvm.LawKit Jvm.RoadKit Bundle Jvm.Pilot.@@N@@.Jvm.D
section Own
variable {p : Program} {l : Launch} {e : Env} {R : Room} {s : State} {m : MethodId} {args : Array Value} {below : List Frame} {meth : Method} {c : Code} {T T' : State} {cells slots n0 kk nn : Nat} {Z : State} {a0 : Array Value} {h h' : Heap} {Q : Option Value → Heap → Prop} {g g' : JFrame} {y : MethodName} {bytes : ByteArray} {maxL : Nat} {ret : Option FieldType}
/-- where a walk stands: its fixed facts, and the library's Stand with its written places hidden (all of them new) -/
def OAt (n0 : Nat) (Z : State) (y : MethodName) (bytes : ByteArray) (maxL : Nat) (ret : Option FieldType) (p : Program) (l : Launch) (e : Env) (R : Room) (s : State) (m : MethodId) (args : Array Value) (below : List Frame) (meth : Method) (c : Code) (T : State) (h : Heap) (cells slots : Nat) : Prop :=
  (p.tables.exec = Jvm.exec ∧ Z.Warmed39 s.vm ∧ s.vm.findClass y.cls = some m.cls ∧ meth.name = y.name ∧ c.code = bytes ∧ c.maxLocals = maxL ∧ meth.sig.returnType = ret ∧ meth.locks = false) ∧
    ∃ locs, Stand p l e R s m args below meth c T locs cells slots ∧ Fr n0 locs ∧ T.heap = h
/-- the run from here ends, returns, and Q holds of what it returns and of the heap -/
def OFin (n0 : Nat) (p : Program) (e : Env) (s : State) (below : List Frame) (Q : Option Value → Heap → Prop) (kk nn : Nat) (T : State) (g : JFrame) : Prop :=
  ∃ s₂ o, Steps p.tables e below (T.setTop g) s₂ ∧ s₂.status = .running ∧ Ended s₂ below o ∧ ∃ v L, o = .returned v ∧ (Q v s₂.heap ∧ Fr n0 L) ∧ FrameEnd s o s₂ L kk nn
abbrev OMeets (l : Launch) (Z : State) (y : MethodName) (ws : List Jvm.Cond) (bytes : ByteArray) (maxL : Nat) (ret : Option FieldType) (rm : Room) (as' : Array Value) (h0 : Heap) (n0 : Nat) (Q : Option Value → Heap → Prop) : Prop :=
  MetFree l y (head1 (Jvm.Cond.code y bytes maxL ret :: ws) rm) (fun a U => a = as' ∧ Z.Warmed39 U.vm ∧ U.heap = h0) (fun _ _ _ _ _ => True) (fun _ U o U' => ∃ v L, o = .returned v ∧ (Q v U'.heap ∧ Fr n0 L) ∧ FrameEnd U o U' L rm.cells rm.slots)
theorem o_enter {ws : List Jvm.Cond} {rm : Room} {as' : Array Value} {h0 : Heap} (pn : plainFor y = true)
    (body : ∀ (p : Program) (e : Env) (s : State) (m : MethodId) (below : List Frame) (meth : Method) (c : Code) (s₁ : State), OAt n0 Z y bytes maxL ret p l e rm s m as' below meth c s₁ h0 0 0 → OFin n0 p e s below Q rm.cells rm.slots s₁ (entryFrame m as' maxL)) :
    OMeets l Z y ws bytes maxL ret rm as' h0 n0 Q := by
  refine MetFree.of_bodySF pn hisR ?_
  intro p e s m args below meth c s₁ Bd hml0 hP hK
  obtain ⟨rfl, hZ, hh⟩ := hP
  have e0 : s₁.heap = h0 := by rw [← hh, Bd.state]; rfl
  exact body p e s m below meth c s₁ ⟨⟨Bd.exec, hZ, findClass_of_methodNamed Bd.named, (name_of_methodNamed Bd.named Bd.method).1, Bd.bytes, hml0, Bd.returns, Bd.notSynchronized⟩, [], Stand.of_body Bd, Fr.nil n0, e0⟩
theorem OFin.cast (q : g = g') (k : OFin n0 p e s below Q kk nn T g') : OFin n0 p e s below Q kk nn T g := q ▸ k
theorem OFin.run (f : ∀ t, Steps p.tables e below (T'.setTop g') t → Steps p.tables e below (T.setTop g) t) (k : OFin n0 p e s below Q kk nn T' g') : OFin n0 p e s below Q kk nn T g := by
  obtain ⟨s₂, o, h1, h2⟩ := k; exact ⟨s₂, o, f _ h1, h2⟩
theorem OFin.imp {Q' : Option Value → Heap → Prop} (k : OFin n0 p e s below Q' kk nn T g) (f : ∀ v h, Q' v h → Q v h) : OFin n0 p e s below Q kk nn T g := by
  obtain ⟨s₂, o, h1, h2, h3, v, L, h4, h5, h6⟩ := k; exact ⟨s₂, o, h1, h2, h3, v, L, h4, ⟨f _ _ h5.1, h5.2⟩, h6⟩
/-- a step of the single-step laws -/
theorem OAt.step (X : OAt n0 Z y bytes maxL ret p l e R s m args below meth c T h cells slots) (f : At T m c below → p.tables.exec = Jvm.exec → c.code = bytes → ∀ t, Steps p.tables e below (T.setTop g') t → Steps p.tables e below (T.setTop g) t) (k : OFin n0 p e s below Q kk nn T g') : OFin n0 p e s below Q kk nn T g := by
  obtain ⟨⟨hx, -, -, -, hby, -⟩, locs, X, -⟩ := X
  exact OFin.run (f X.here hx hby) k
theorem OAt.retN (X : OAt n0 Z y bytes maxL (some t) p l e R s m args below meth c T h cells slots) (ht : t = .boolean ∨ t = .byte ∨ t = .char ∨ t = .short) {pc : Nat} {Ls : Array Slot} {z : Int32} {rest : List Value} (hd : decode bytes pc = .ok (.ireturn, 1)) (hc : cells ≤ kk) (hn : slots ≤ nn) (hQ : Q (some (.int (nar t z))) h) : OFin n0 p e s below Q kk nn T (mkF m pc Ls (.int z :: rest)) := by
  obtain ⟨⟨hx, -, -, -, hby, -, hret, hlk⟩, locs, X, N, eh⟩ := X
  obtain ⟨fs, hr, hrun, hended, hW, hsame⟩ := X.leave (v := some (.int (nar t z))) (fun h => by rw [hret] at h; cases h) hlk
  exact ⟨_, _, Jvm.RoadKit.retN X hx hret ht (hb hby hd) hr, hrun, hended, _, _, rfl, ⟨by show Q _ T.heap; rw [eh]; exact hQ, N⟩, ⟨_, rfl⟩, hW, hsame.mono hc hn⟩
theorem OAt.retI (X : OAt n0 Z y bytes maxL (some .int) p l e R s m args below meth c T h cells slots) {pc : Nat} {Ls : Array Slot} {z : Int32} {rest : List Value} (hd : decode bytes pc = .ok (.ireturn, 1)) (hc : cells ≤ kk) (hn : slots ≤ nn) (hQ : Q (some (.int z)) h) : OFin n0 p e s below Q kk nn T (mkF m pc Ls (.int z :: rest)) := by
  obtain ⟨⟨hx, -, -, -, hby, -, hret, hlk⟩, locs, X, N, eh⟩ := X
  obtain ⟨fs, hr, hrun, hended, hW, hsame⟩ := X.leave (v := some (.int z)) (fun h => by rw [hret] at h; cases h) hlk
  exact ⟨_, _, retOut X hx hret rfl (Or.inl ⟨rfl, Or.inl rfl, _, rfl⟩) (hb hby hd) hr, hrun, hended, _, _, rfl, ⟨by show Q _ T.heap; rw [eh]; exact hQ, N⟩, ⟨_, rfl⟩, hW, hsame.mono hc hn⟩
theorem OAt.retL (X : OAt n0 Z y bytes maxL (some .long) p l e R s m args below meth c T h cells slots) {pc : Nat} {Ls : Array Slot} {z : Int64} {rest : List Value} (hd : decode bytes pc = .ok (.lreturn, 1)) (hc : cells ≤ kk) (hn : slots ≤ nn) (hQ : Q (some (.long z)) h) : OFin n0 p e s below Q kk nn T (mkF m pc Ls (.long z :: rest)) := by
  obtain ⟨⟨hx, -, -, -, hby, -, hret, hlk⟩, locs, X, N, eh⟩ := X
  obtain ⟨fs, hr, hrun, hended, hW, hsame⟩ := X.leave (v := some (.long z)) (fun h => by rw [hret] at h; cases h) hlk
  exact ⟨_, _, retOut X hx hret rfl (Or.inr (Or.inl ⟨rfl, rfl, _, rfl⟩)) (hb hby hd) hr, hrun, hended, _, _, rfl, ⟨by show Q _ T.heap; rw [eh]; exact hQ, N⟩, ⟨_, rfl⟩, hW, hsame.mono hc hn⟩
theorem OAt.retR (X : OAt n0 Z y bytes maxL (some t) p l e R s m args below meth c T h cells slots) (ht : t.isReference = true) {pc : Nat} {Ls : Array Slot} {w : Value} {rest : List Value} (hw : w.isRef = true) (hd : decode bytes pc = .ok (.areturn, 1)) (hc : cells ≤ kk) (hn : slots ≤ nn) (hQ : Q (some w) h) : OFin n0 p e s below Q kk nn T (mkF m pc Ls (w :: rest)) := by
  obtain ⟨⟨hx, -, -, -, hby, -, hret, hlk⟩, locs, X, N, eh⟩ := X
  have hna : narrow t w = w := by rcases ref_cases hw with rfl | ⟨a, rfl⟩ <;> cases t <;> first | rfl | cases ht
  obtain ⟨fs, hr, hrun, hended, hW, hsame⟩ := X.leave (v := some w) (fun h => by rw [hret] at h; cases h) hlk
  exact ⟨_, _, retOut X hx hret hna (Or.inr (Or.inr (Or.inr (Or.inr ⟨rfl, ht, hw⟩)))) (hb hby hd) hr, hrun, hended, _, _, rfl, ⟨by show Q _ T.heap; rw [eh]; exact hQ, N⟩, ⟨_, rfl⟩, hW, hsame.mono hc hn⟩
theorem OAt.retV (X : OAt n0 Z y bytes maxL none p l e R s m args below meth c T h cells slots) {pc : Nat} {Ls : Array Slot} (hd : decode bytes pc = .ok (.return_, 1)) (hc : cells ≤ kk) (hn : slots ≤ nn) (hQ : Q none h) : OFin n0 p e s below Q kk nn T (mkF m pc Ls []) := by
  obtain ⟨⟨hx, -, -, -, hby, -, hret, hlk⟩, locs, X, N, eh⟩ := X
  obtain ⟨fs, hr, hrun, hended, hW, hsame⟩ := X.leave (v := none) (fun _ => rfl) hlk
  exact ⟨_, _, X.returnOut hx hret (hb hby hd) hr, hrun, hended, _, _, rfl, ⟨by show Q _ T.heap; rw [eh]; exact hQ, N⟩, ⟨_, rfl⟩, hW, hsame.mono hc hn⟩
theorem OAt.ldcI (X : OAt n0 Z y bytes maxL ret p l e R s m args below meth c T h cells slots) {index : Nat} {v : Int32} (w : (Jvm.Cond.constant y.cls index v).before a0 Z = true) (hg : g.method = m) (hd : decode bytes g.pc = .ok (.ldc index, 2))
    (k : OFin n0 p e s below Q kk nn T { g with pc := g.pc + 2, stack := .int v :: g.stack }) : OFin n0 p e s below Q kk nn T g := by
  obtain ⟨⟨hx, hZ, hown, -, hby, -⟩, locs, X, -⟩ := X
  exact OFin.run (X.ldcInt hx hown (mvT hZ w) hg (hb hby hd)) k
theorem OAt.ldcwI (X : OAt n0 Z y bytes maxL ret p l e R s m args below meth c T h cells slots) {index : Nat} {v : Int32} (w : (Jvm.Cond.constant y.cls index v).before a0 Z = true) (hg : g.method = m) (hd : decode bytes g.pc = .ok (.ldc_w index, 3))
    (k : OFin n0 p e s below Q kk nn T { g with pc := g.pc + 3, stack := .int v :: g.stack }) : OFin n0 p e s below Q kk nn T g := by
  obtain ⟨⟨hx, hZ, hown, -, hby, -⟩, locs, X, -⟩ := X
  exact OFin.run (X.ldcwInt hx hown (mvT hZ w) hg (hb hby hd)) k
theorem OAt.ldcL (X : OAt n0 Z y bytes maxL ret p l e R s m args below meth c T h cells slots) {index : Nat} {v : Int64} (w : (Jvm.Cond.constantLong y.cls index v).before a0 Z = true) (hg : g.method = m) (hd : decode bytes g.pc = .ok (.ldc2_w index, 3))
    (k : OFin n0 p e s below Q kk nn T { g with pc := g.pc + 3, stack := .long v :: g.stack }) : OFin n0 p e s below Q kk nn T g := by
  obtain ⟨⟨hx, hZ, hown, -, hby, -⟩, locs, X, -⟩ := X
  exact OFin.run (X.ldc2Long hx hown (mvT hZ w) hg (hb hby hd)) k
theorem OAt.getF (X : OAt n0 Z y bytes maxL ret p l e R s m args below meth c T h cells slots) {O n d : String} {index : Nat} (w : (Jvm.Cond.fieldLink y.cls index O n d).before a0 Z = true) {a : Addr} {v : Value} (F : Fld Z h a O n d v) (hg : g.method = m) {rest : List Value} (hs : g.stack = .ref a :: rest) (hd : decode bytes g.pc = .ok (.getfield index, 3))
    (k : ∀ T', OAt n0 Z y bytes maxL ret p l e R s m args below meth c T' h cells slots → OFin n0 p e s below Q kk nn T' { g with pc := g.pc + 3, stack := v :: rest }) : OFin n0 p e s below Q kk nn T g := by
  obtain ⟨C, locs, X, N, eh⟩ := X
  obtain ⟨hx, hZ, hown, -, hby, -⟩ := id C
  obtain ⟨T', X', e', st⟩ := Jvm.RoadKit.getF X hx hZ hown (host := "") (Or.inl w) Via.refl eh F hg hs (hb hby hd)
  exact OFin.run st (k T' ⟨C, locs, X', N, e'⟩)
theorem OAt.getS (X : OAt n0 Z y bytes maxL ret p l e R s m args below meth c T h cells slots) {O n d : String} {index : Nat} (w : (Jvm.Cond.fieldLink y.cls index O n d).before a0 Z = true) {v : Value} (F : Sta Z h O n d v) (hg : g.method = m) (hd : decode bytes g.pc = .ok (.getstatic index, 3))
    (k : ∀ T', OAt n0 Z y bytes maxL ret p l e R s m args below meth c T' h cells slots → OFin n0 p e s below Q kk nn T' { g with pc := g.pc + 3, stack := v :: g.stack }) : OFin n0 p e s below Q kk nn T g := by
  obtain ⟨C, locs, X, N, eh⟩ := X
  obtain ⟨hx, hZ, hown, -, hby, -⟩ := id C
  obtain ⟨T', X', e', st⟩ := Jvm.RoadKit.getS X hx hZ hown w Via.refl eh F hg (hb hby hd) (host := "")
  exact OFin.run st (k T' ⟨C, locs, X', N, e'⟩)
theorem OAt.putF (X : OAt n0 Z y bytes maxL ret p l e R s m args below meth c T h cells slots) {O n d C : String} {index ki : Nat} {ty : FieldType} (w : (Jvm.Cond.fieldLink y.cls index O n d).before a0 Z = true) {a : Addr} {v old : Value} (F : Fld Z h a O n d old) (E : Exa Z h a C) (L : (Jvm.Cond.lays C O n d).before a0 Z = true ∨ ((Jvm.Cond.laysFinal C O n d).before a0 Z = true ∧ y.cls = O ∧ y.name = "<init>"))
    (wi : (Jvm.Cond.instantiable C ki).before a0 Z = true) (hty : parseFieldDescriptor d = some ty) (hn : narrow ty v = v) (hf : fits ty v = true) (hnew : n0 ≤ a) (hg : g.method = m) {rest : List Value} (hs : g.stack = v :: .ref a :: rest) (hd : decode bytes g.pc = .ok (.putfield index, 3))
    (k : ∀ T' h', OAt n0 Z y bytes maxL ret p l e R s m args below meth c T' h' cells slots → Wr h h' a (Jvm.RoadKit.slotOf Z O n d) v → OFin n0 p e s below Q kk nn T' { g with pc := g.pc + 3, stack := rest }) : OFin n0 p e s below Q kk nn T g := by
  obtain ⟨C, locs, X, N, eh⟩ := X
  obtain ⟨hx, hZ, hown, hnm, hby, -⟩ := id C
  obtain ⟨T', h', X', e', W, st⟩ := Jvm.RoadKit.putF X hx hZ hown (host := "") (Or.inl w) Via.refl eh F E (L.imp id fun q => ⟨q.1, q.2.1, hnm.trans q.2.2⟩) wi hty hn hf hg hs (hb hby hd)
  exact OFin.run st (k T' h' ⟨C, _, X', Fr.snoc X' N hnew, e'⟩ W)
theorem OAt.initO (X : OAt n0 Z y bytes maxL ret p l e R s m args below meth c T h cells slots) {idx : Nat} (w1 : (Jvm.Cond.methodLink y.cls idx Lib.objectInit).before a0 Z = true) (w2 : (Jvm.Cond.instanceMethod Lib.objectInit).before a0 Z = true) (w3 : (Jvm.Cond.code Lib.objectInit ⟨#[0xb1]⟩ 1 none).before a0 Z = true) (hg : g.method = m) (hsize : g.locals.size = maxL) {a : Addr} {rest : List Value} (hs : g.stack = .ref a :: rest) (hd : decode bytes g.pc = .ok (.invokespecial idx, 3))
    (hf : 1 ≤ R.frames) {W : Nat} (hW : 2 * g.monitorRoom + (rest.map fun v => v.category).sum ≤ W) (hl : W + 12 ≤ R.locals)
    (k : ∀ T', OAt n0 Z y bytes maxL ret p l e R s m args below meth c T' h cells slots → OFin n0 p e s below Q kk nn T' { g with pc := g.pc + 3, stack := rest }) : OFin n0 p e s below Q kk nn T g := by
  obtain ⟨C, locs, X, N, eh⟩ := X
  obtain ⟨hx, hZ, hown, -, hby, hml, -⟩ := id C
  obtain ⟨T', X', e', st⟩ := Jvm.RoadKit.initO X hx hZ hown w1 w2 w3 eh hg (hsize.trans hml.symm) hs (hb hby hd) hf hW hl
  exact OFin.run st (k T' ⟨C, locs, X', N, e'⟩)
theorem OAt.newO (X : OAt n0 Z y bytes maxL ret p l e R s m args below meth c T h cells slots) {C : String} {index n : Nat} (w : (Jvm.Cond.classLink y.cls index C).before a0 Z = true) (wi : (Jvm.Cond.instantiable C n).before a0 Z = true) (wz : (Jvm.Cond.initialized C).before a0 Z = true) (hg : g.method = m) (hd : decode bytes g.pc = .ok (.new index, 3)) (hc : cells + 1 ≤ R.cells) (hl : slots + n ≤ R.slots)
    (k : ∀ T' h' a, a = h.size → OAt n0 Z y bytes maxL ret p l e R s m args below meth c T' h' (cells + 1) (slots + n) → Ext h h' → Exa Z h' a C → (∀ {O nm d : String} {ty : FieldType}, Laid Z a0 C O nm d → parseFieldDescriptor d = some ty → Fld Z h' a O nm d (defaultValue ty)) → OFin n0 p e s below Q kk nn T' { g with pc := g.pc + 3, stack := .ref a :: g.stack }) : OFin n0 p e s below Q kk nn T g := by
  obtain ⟨C', locs, X, N, eh⟩ := X
  obtain ⟨hx, hZ, hown, -, hby, -⟩ := id C'
  obtain ⟨T', h', X', e', E, A, D, -, st⟩ := Jvm.RoadKit.newO X hx hZ hown w wi wz eh hg (hb hby hd) hc hl
  exact OFin.run st (k T' h' _ rfl ⟨C', locs, X', N, e'⟩ E A D)
theorem OAt.newP (X : OAt n0 Z y bytes maxL ret p l e R s m args below meth c T h cells slots) {aty : ArrayType} (w : (Jvm.Cond.arrayClass (newarray.typeOf aty)).before a0 Z = true) (hg : g.method = m) (hd : decode bytes g.pc = .ok (.newarray aty, 2)) {n : Int32} {rest : List Value} (hs : g.stack = .int n :: rest) (hn : ¬ n < 0) {cap : Nat} (hcap : n.toNatClampNeg ≤ cap) (hb8 : cap * 8 ≤ 536870912) (hc : cells + 1 ≤ R.cells) (hl : slots + cap ≤ R.slots) {ad : String} (had : "[" ++ (newarray.typeOf aty).toString = ad)
    (k : ∀ T' h' cA a, a = h.size → OAt n0 Z y bytes maxL ret p l e R s m args below meth c T' h' (cells + 1) (slots + cap) → Ext h h' → Arr Z h' a (newA cA (newarray.typeOf aty) n) (newarray.typeOf aty) → Exa Z h' a ad → OFin n0 p e s below Q kk nn T' { g with pc := g.pc + 2, stack := .ref a :: rest }) : OFin n0 p e s below Q kk nn T g := by
  obtain ⟨C', locs, X, N, eh⟩ := X
  obtain ⟨hx, hZ, hown, -, hby, -⟩ := id C'
  obtain ⟨T', h', cA, X', e', E, A, A', st⟩ := newPE X hx hZ w eh hg (hb hby hd) hs hn hcap hb8 hc hl had
  exact OFin.run st (k T' h' cA _ rfl ⟨C', locs, X', N, e'⟩ E A A')
theorem OAt.newRA (X : OAt n0 Z y bytes maxL ret p l e R s m args below meth c T h cells slots) {C : String} {ty : FieldType} {index : Nat} (hC : (FieldType.array ty).toString = C) (w1 : (Jvm.Cond.classLink y.cls index C).before a0 Z = true) (w2 : (Jvm.Cond.arrayOver (.array ty)).before a0 Z = true) (hg : g.method = m) (hd : decode bytes g.pc = .ok (.anewarray index, 3)) {n : Int32} {rest : List Value} (hs : g.stack = .int n :: rest) (hn : ¬ n < 0) {cap : Nat} (hcap : n.toNatClampNeg ≤ cap) (hb8 : cap * 8 ≤ 536870912) (hc : cells + 1 ≤ R.cells) (hl : slots + cap ≤ R.slots) {ad : String} (had : "[" ++ C = ad)
    (k : ∀ T' h' cA a, a = h.size → OAt n0 Z y bytes maxL ret p l e R s m args below meth c T' h' (cells + 1) (slots + cap) → Ext h h' → Arr Z h' a (newA cA (.array ty) n) (.array ty) → Exa Z h' a ad → OvrA Z cA ty C → OFin n0 p e s below Q kk nn T' { g with pc := g.pc + 3, stack := .ref a :: rest }) : OFin n0 p e s below Q kk nn T g := by
  obtain ⟨C', locs, X, N, eh⟩ := X
  obtain ⟨hx, hZ, hown, -, hby, -⟩ := id C'
  obtain ⟨T', h', cA, X', e', E, A, A', O, st⟩ := Jvm.RoadKit.newRA X hx hZ hown hC w1 w2 eh hg (hb hby hd) hs hn hcap hb8 hc hl had
  exact OFin.run st (k T' h' cA _ rfl ⟨C', locs, X', N, e'⟩ E A A' O)
theorem OAt.clone (X : OAt n0 Z y bytes maxL ret p l e R s m args below meth c T h cells slots) {ad : String} {index : Nat} (w1 : (Jvm.Cond.methodLink y.cls index ⟨ad, "clone", "()Ljava/lang/Object;"⟩).before a0 Z = true) (w2 : (Jvm.Cond.sameMethod ad "java/lang/Object" "clone" "()Ljava/lang/Object;").before a0 Z = true) (w3 : (Jvm.Cond.native ⟨"java/lang/Object", "clone", "()Ljava/lang/Object;"⟩).before a0 Z = true)
    (w4 : (Jvm.Cond.instanceMethod ⟨"java/lang/Object", "clone", "()Ljava/lang/Object;"⟩).before a0 Z = true) (w5 : (Jvm.Cond.selects ad ⟨ad, "clone", "()Ljava/lang/Object;"⟩ ⟨"java/lang/Object", "clone", "()Ljava/lang/Object;"⟩).before a0 Z = true) (w6 : (Jvm.Cond.castable ad "java/lang/Cloneable").before a0 Z = true)
    {a : Addr} {cl : Cell} {ty : FieldType} (A : Arr Z h a cl ty) (E : Exa Z h a ad) (F : FitC Z cl) (hg : g.method = m) (hsize : g.locals.size = maxL) {rest : List Value} (hs : g.stack = .ref a :: rest) (hd : decode bytes g.pc = .ok (.invokevirtual index, 3))
    (hf : 1 ≤ R.frames) {W cap : Nat} (hW : 2 * g.monitorRoom + (rest.map fun v => v.category).sum ≤ W) (hl : W + 14 ≤ R.locals) (hcap : cl.slots.size ≤ cap) (hc : cells + 1 ≤ R.cells) (hsl : slots + cap ≤ R.slots)
    (k : ∀ T' h' b, b = h.size → OAt n0 Z y bytes maxL ret p l e R s m args below meth c T' h' (cells + 1) (slots + cap) → Ext h h' → Arr Z h' b (Jvm.RoadKit.cloneOf cl) ty → Exa Z h' b ad → OFin n0 p e s below Q kk nn T' { g with pc := g.pc + 3, stack := .ref b :: rest }) : OFin n0 p e s below Q kk nn T g := by
  obtain ⟨C', locs, X, N, eh⟩ := X
  obtain ⟨hx, hZ, hown, -, hby, hml, -⟩ := id C'
  obtain ⟨T', h', X', e', E', A', A'', st⟩ := Jvm.RoadKit.cloneA X hx hZ hown w1 w2 w3 w4 w5 w6 eh A E F hg (hsize.trans hml.symm) hs (hb hby hd) hf hW hl hcap hc hsl
  exact OFin.run st (k T' h' _ rfl ⟨C', locs, X', N, e'⟩ E' A' A'')
theorem OAt.stR (X : OAt n0 Z y bytes maxL ret p l e R s m args below meth c T h cells slots) {a : Addr} {cl : Cell} {ty : FieldType} (A : Arr Z h a cl ty) {j : Int32} {v : Value} (hin : ¬ (j < 0 ∨ cl.slots.size ≤ j.toNatClampNeg)) (hty : ty.isReference = true) (F : Sto Z h a v) (hnew : n0 ≤ a) (hg : g.method = m) {rest : List Value} (hs : g.stack = v :: .int j :: .ref a :: rest) (hd : decode bytes g.pc = .ok (.aastore, 1))
    (k : ∀ T' h', OAt n0 Z y bytes maxL ret p l e R s m args below meth c T' h' cells slots → Wr h h' a j.toNatClampNeg v → OFin n0 p e s below Q kk nn T' { g with pc := g.pc + 1, stack := rest }) : OFin n0 p e s below Q kk nn T g := by
  obtain ⟨C, locs, X, N, eh⟩ := X
  obtain ⟨hx, hZ, hown, -, hby, -⟩ := id C
  obtain ⟨T', h', X', e', W, st⟩ := Jvm.RoadKit.stR X hx hZ eh A hin hty F hg hs (hb hby hd)
  exact OFin.run st (k T' h' ⟨C, _, X', Fr.snoc X' N hnew, e'⟩ W)
theorem OAt.acmp (X : OAt n0 Z y bytes maxL ret p l e R s m args below meth c T h cells slots) (hg : g.method = m) {cd : ACond} {u v : Value} (h1 : u.isRef = true) (h2 : v.isRef = true) {rest : List Value} {o : Int} {pc0 pc' : Nat} {same : Bool} (hpc : g.pc = pc0) (hd : decode bytes g.pc = .ok (.if_acmp cd o, 3)) (hs : g.stack = v :: u :: rest) (hq : decide (u = v) = same) (ho : 0 ≤ (pc0 : Int) + o) (hp : pc' = if acV cd same = true then ((pc0 : Int) + o).toNat else pc0 + 3)
    (k : OFin n0 p e s below Q kk nn T { g with pc := pc', stack := rest }) : OFin n0 p e s below Q kk nn T g := by
  obtain ⟨⟨hx, hZ, hown, -, hby, -⟩, locs, X, -⟩ := X
  exact OFin.run (fun t kk => Jvm.RoadKit.acmp X hx hg h1 h2 hpc (hb hby hd) hs hq ho hp kk) k
theorem OAt.irem (X : OAt n0 Z y bytes maxL ret p l e R s m args below meth c T h cells slots) (hg : g.method = m) {u v : Int32} {rest : List Value} (hd : decode bytes g.pc = .ok (.irem, 1)) (hs : g.stack = .int v :: .int u :: rest) (hv : v ≠ 0)
    (k : OFin n0 p e s below Q kk nn T { g with pc := g.pc + 1, stack := .int (u % v) :: rest }) : OFin n0 p e s below Q kk nn T g := by
  obtain ⟨⟨hx, hZ, hown, -, hby, -⟩, locs, X, -⟩ := X
  exact OFin.run (fun t kk => iremM X hx hg (hb hby hd) hs hv kk) k
theorem OAt.callS (X : OAt n0 Z y bytes maxL ret p l e R s m args below meth c T h cells slots) {index : Nat} {y' : MethodName} {bytes' : ByteArray} {maxL' : Nat} {ret' : Option FieldType} (w1 : (Jvm.Cond.methodLink y.cls index y').before a0 Z = true) (w2 : (Jvm.Cond.static y').before a0 Z = true) (w3 : (Jvm.Cond.initialized y'.cls).before a0 Z = true) (w4 : (Jvm.Cond.code y' bytes' maxL' ret').before a0 Z = true)
    (hy : y'.cls ≠ "java/lang/invoke/MethodHandle" ∧ y'.cls ≠ "java/lang/invoke/VarHandle") {rm : Room} {Qc : Option Value → Heap → Prop} {argsL rest : List Value} (hM : OMeets l Z y' [] bytes' maxL' ret' rm argsL.toArray h n0 Qc)
    (hg : g.method = m) (hsize : g.locals.size = maxL) {ps : List FieldType} {r : Option FieldType} (hpd : parseMethodDescriptor y'.desc = some ⟨ps, r⟩) (hlen : argsL.length = ps.length) (hs : g.stack = argsL.reverse ++ rest) {W : Nat} (hW : 2 * g.monitorRoom + (rest.map fun v => v.category).sum ≤ W) (hd : decode bytes g.pc = .ok (.invokestatic index, 3))
    (hf : rm.frames + 1 ≤ R.frames) (hl : W + (maxL' + 11) + rm.locals ≤ R.locals) (hc : cells + rm.cells ≤ R.cells) (hn : slots + rm.slots ≤ R.slots)
    (k : ∀ v T' h', OAt n0 Z y bytes maxL ret p l e R s m args below meth c T' h' (cells + rm.cells) (slots + rm.slots) → Qc v h' → OFin n0 p e s below Q kk nn T' { g with pc := g.pc + 3, stack := v.toList ++ rest }) : OFin n0 p e s below Q kk nn T g := by
  obtain ⟨C, locs, X, N, eh⟩ := X
  obtain ⟨hx, hZ, hown, -, hby, hml, -⟩ := id C
  obtain ⟨v, _, ⟨T1, L1, k1, n1⟩, -, X1, ⟨Lc, hQ, l1, y1, z1⟩, st⟩ := Jvm.LawKit.callS X hx hown (mvT hZ w1) (mvT hZ w2) (mvT hZ w3) (mvT hZ w4) hy
    (backOf (W := W) (Q := fun v h L => Qc v h ∧ Fr n0 L) hM hZ w4 w3 hf hl) hg (hsize.trans hml.symm) (lenOf hpd hlen) hs hW (hb hby hd) (fun _ _ => ⟨rfl, eh, hc, hn⟩)
  dsimp only [Pt.U, Pt.locs, Pt.cells, Pt.slots] at X1 l1 y1 z1 st hQ
  subst l1 y1 z1
  exact OFin.run st (k v T1 _ ⟨C, _, X1, N.app hQ.2, rfl⟩ hQ.1)
theorem OAt.callI (X : OAt n0 Z y bytes maxL ret p l e R s m args below meth c T h cells slots) {index : Nat} {y' : MethodName} {bytes' : ByteArray} {maxL' : Nat} (hy1 : y'.name = "<init>") (w1 : (Jvm.Cond.methodLink y.cls index y').before a0 Z = true) (w2 : (Jvm.Cond.instanceMethod y').before a0 Z = true) (w3 : (Jvm.Cond.initialized y'.cls).before a0 Z = true) (w4 : (Jvm.Cond.code y' bytes' maxL' none).before a0 Z = true)
    (hy : y'.cls ≠ "java/lang/invoke/MethodHandle" ∧ y'.cls ≠ "java/lang/invoke/VarHandle") {rm : Room} {Qc : Option Value → Heap → Prop} {a : Addr} {argsL rest : List Value} (hM : OMeets l Z y' [] bytes' maxL' none rm (Value.ref a :: argsL).toArray h n0 Qc)
    (hg : g.method = m) (hsize : g.locals.size = maxL) {ps : List FieldType} {r : Option FieldType} (hpd : parseMethodDescriptor y'.desc = some ⟨ps, r⟩) (hlen : argsL.length = ps.length) (hs : g.stack = argsL.reverse ++ .ref a :: rest) {W : Nat} (hW : 2 * g.monitorRoom + (rest.map fun v => v.category).sum ≤ W) (hd : decode bytes g.pc = .ok (.invokespecial index, 3))
    (hf : rm.frames + 1 ≤ R.frames) (hl : W + (maxL' + 11) + rm.locals ≤ R.locals) (hc : cells + rm.cells ≤ R.cells) (hn : slots + rm.slots ≤ R.slots)
    (k : ∀ v T' h', OAt n0 Z y bytes maxL ret p l e R s m args below meth c T' h' (cells + rm.cells) (slots + rm.slots) → Qc v h' → OFin n0 p e s below Q kk nn T' { g with pc := g.pc + 3, stack := v.toList ++ rest }) : OFin n0 p e s below Q kk nn T g := by
  obtain ⟨C, locs, X, N, eh⟩ := X
  obtain ⟨hx, hZ, hown, -, hby, hml, -⟩ := id C
  obtain ⟨v, _, ⟨T1, L1, k1, n1⟩, -, X1, ⟨Lc, hQ, l1, y1, z1⟩, st⟩ := X.specialBack hx hy1 hown (mvT hZ w1) (mvT hZ w2) (mvT hZ w4) hy
    (backOf (W := W) (Q := fun v h L => Qc v h ∧ Fr n0 L) hM hZ w4 w3 hf hl) hg (hsize.trans hml.symm) (Steps.refl _) (lenOf hpd hlen) hs hW (hb hby hd) (fun _ _ => ⟨rfl, eh, hc, hn⟩)
  dsimp only [Pt.U, Pt.locs, Pt.cells, Pt.slots] at X1 l1 y1 z1 st hQ
  subst l1 y1 z1
  exact OFin.run (fun t k => st.trans k) (k v T1 _ ⟨C, _, X1, N.app hQ.2, rfl⟩ hQ.1)
theorem OAt.callV (X : OAt n0 Z y bytes maxL ret p l e R s m args below meth c T h cells slots) {index : Nat} {y' z' : MethodName} {C0 : String} {bytes' : ByteArray} {maxL' : Nat} {ret' : Option FieldType} (w1 : (Jvm.Cond.methodLink y.cls index y').before a0 Z = true) (w2 : (Jvm.Cond.declares y').before a0 Z = true) (nf : NotFace s y') (w5 : (Jvm.Cond.selects C0 y' z').before a0 Z = true) (w6 : (Jvm.Cond.instanceMethod z').before a0 Z = true) (w3 : (Jvm.Cond.initialized z'.cls).before a0 Z = true) (w4 : (Jvm.Cond.code z' bytes' maxL' ret').before a0 Z = true)
    (hy : y'.cls ≠ "java/lang/invoke/MethodHandle" ∧ y'.cls ≠ "java/lang/invoke/VarHandle") {rm : Room} {Qc : Option Value → Heap → Prop} {a : Addr} (E : Exa Z h a C0) {argsL rest : List Value} (hM : OMeets l Z z' [] bytes' maxL' ret' rm (Value.ref a :: argsL).toArray h n0 Qc)
    (hg : g.method = m) (hsize : g.locals.size = maxL) {ps : List FieldType} {r : Option FieldType} (hpd : parseMethodDescriptor y'.desc = some ⟨ps, r⟩) (hlen : argsL.length = ps.length) (hs : g.stack = argsL.reverse ++ .ref a :: rest) {W : Nat} (hW : 2 * g.monitorRoom + (rest.map fun v => v.category).sum ≤ W) (hd : decode bytes g.pc = .ok (.invokevirtual index, 3))
    (hf : rm.frames + 1 ≤ R.frames) (hl : W + (maxL' + 11) + rm.locals ≤ R.locals) (hc : cells + rm.cells ≤ R.cells) (hn : slots + rm.slots ≤ R.slots)
    (k : ∀ v T' h', OAt n0 Z y bytes maxL ret p l e R s m args below meth c T' h' (cells + rm.cells) (slots + rm.slots) → Qc v h' → OFin n0 p e s below Q kk nn T' { g with pc := g.pc + 3, stack := v.toList ++ rest }) : OFin n0 p e s below Q kk nn T g := by
  obtain ⟨C, locs, X, N, eh⟩ := X
  obtain ⟨hx, hZ, hown, -, hby, hml, -⟩ := id C
  obtain ⟨cq, kq, qa, qb, qc⟩ := isOf hZ eh E
  obtain ⟨v, _, ⟨T1, L1, k1, n1⟩, -, X1, ⟨Lc, hQ, l1, y1, z1⟩, st⟩ := X.virtualBack hx hown (mvT hZ w1) (mvT hZ w2) nf (mvT hZ w5) (mvT hZ w6) hy
    (backOf (W := W) (Q := fun v h L => Qc v h ∧ Fr n0 L) hM hZ w4 w3 hf hl) qa qc hg (hsize.trans hml.symm) (Steps.refl _) (lenOf hpd hlen) hs hW (hb hby hd) (fun _ _ => ⟨rfl, eh, hc, hn⟩)
  dsimp only [Pt.U, Pt.locs, Pt.cells, Pt.slots] at X1 l1 y1 z1 st hQ
  subst l1 y1 z1
  exact OFin.run (fun t k => st.trans k) (k v T1 _ ⟨C, _, X1, N.app hQ.2, rfl⟩ hQ.1)
theorem OAt.notFace (X : OAt n0 Z y bytes maxL ret p l e R s m args below meth c T h cells slots) {C0 : String} {y' z' : MethodName} (w : (Jvm.Cond.selects C0 y' z').before a0 Z = true) (hq : y' = z') : NotFace s y' := by
  obtain ⟨⟨hx, hZ, -⟩, -⟩ := X
  subst hq
  exact notFace_of_selects (args := #[]) (mvT hZ w)
theorem OAt.aload0 (X : OAt n0 Z y bytes maxL ret p l e R s m args below meth c T h cells slots) {a : Addr} {cl : Cell} {ty : FieldType} (A : Arr Z h a cl ty) {j : Int32} {v : Value} (hin : ¬ (j < 0 ∨ cl.slots.size ≤ j.toNatClampNeg)) (hv : cl.slots[j.toNatClampNeg]? = some v) (hg : g.method = m) {rest : List Value} (hs : g.stack = .int j :: .ref a :: rest)
    {i : Instr} (hi : (i = .iaload ∧ ty = .int) ∨ (i = .laload ∧ ty = .long) ∨ (i = .caload ∧ ty = .char) ∨ (i = .baload ∧ ty = .byte) ∨ (i = .aaload ∧ ty.isReference = true)) (hd : decode bytes g.pc = .ok (i, 1))
    (k : OFin n0 p e s below Q kk nn T { g with pc := g.pc + 1, stack := v :: rest }) : OFin n0 p e s below Q kk nn T g := by
  obtain ⟨⟨hx, hZ, hown, -, hby, -⟩, locs, X, N, eh⟩ := X
  have hA := State.isArrayOf_alike hZ.alike A.2.1
  have hc : T.heap[a]? = some cl := by rw [eh]; exact A.1
  rcases hi with ⟨rfl, rfl⟩ | ⟨rfl, rfl⟩ | ⟨rfl, rfl⟩ | ⟨rfl, rfl⟩ | ⟨rfl, ht⟩
  · exact OFin.run (X.iaload hx hc hA A.2.2 hin hv hg hs (hb hby hd)) k
  · exact OFin.run (X.laload hx hc hA A.2.2 hin hv hg hs (hb hby hd)) k
  · exact OFin.run (X.caload hx hc hA A.2.2 hin hv hg hs (hb hby hd)) k
  · exact OFin.run (X.baloadBytes hx hc hA A.2.2 hin hv hg hs (hb hby hd)) k
  · exact OFin.run (X.aaload hx hc hA ht A.2.2 hin hv hg hs (hb hby hd)) k
theorem OAt.alen (X : OAt n0 Z y bytes maxL ret p l e R s m args below meth c T h cells slots) {a : Addr} {cl : Cell} {ty : FieldType} (A : Arr Z h a cl ty) {n : Int32} (hn : cl.slots.size.toInt32 = n) (hg : g.method = m) {rest : List Value} (hs : g.stack = .ref a :: rest) (hd : decode bytes g.pc = .ok (.arraylength, 1))
    (k : OFin n0 p e s below Q kk nn T { g with pc := g.pc + 1, stack := .int n :: rest }) : OFin n0 p e s below Q kk nn T g := by
  obtain ⟨⟨hx, hZ, hown, -, hby, -⟩, locs, X, N, eh⟩ := X
  subst hn
  exact OFin.run (X.arraylength hx (by rw [eh]; exact A.1) (State.isArrayOf_alike hZ.alike A.2.1) hg hs (hb hby hd)) k
theorem OAt.stJ (X : OAt n0 Z y bytes maxL ret p l e R s m args below meth c T h cells slots) {a : Addr} {cl : Cell} (A : Arr Z h a cl .long) {j : Int32} {v : Int64} (hin : ¬ (j < 0 ∨ cl.slots.size ≤ j.toNatClampNeg)) (hnew : n0 ≤ a) (hg : g.method = m) {rest : List Value} (hs : g.stack = .long v :: .int j :: .ref a :: rest) (hd : decode bytes g.pc = .ok (.lastore, 1))
    (k : ∀ T' h', OAt n0 Z y bytes maxL ret p l e R s m args below meth c T' h' cells slots → Wr h h' a j.toNatClampNeg (.long v) → OFin n0 p e s below Q kk nn T' { g with pc := g.pc + 1, stack := rest }) : OFin n0 p e s below Q kk nn T g := by
  obtain ⟨C, locs, X, N, eh⟩ := X
  obtain ⟨hx, hZ, hown, -, hby, -⟩ := id C
  obtain ⟨T', h', X', e', W, st⟩ := Jvm.RoadKit.stJ X hx hZ eh A hin hg hs (hb hby hd)
  exact OFin.run st (k T' h' ⟨C, _, X', Fr.snoc X' N hnew, e'⟩ W)
theorem OAt.stB (X : OAt n0 Z y bytes maxL ret p l e R s m args below meth c T h cells slots) {a : Addr} {cl : Cell} (A : Arr Z h a cl .byte) {j v : Int32} (hin : ¬ (j < 0 ∨ cl.slots.size ≤ j.toNatClampNeg)) (hnew : n0 ≤ a) (hg : g.method = m) {rest : List Value} (hs : g.stack = .int v :: .int j :: .ref a :: rest) (hd : decode bytes g.pc = .ok (.bastore, 1))
    (k : ∀ T' h', OAt n0 Z y bytes maxL ret p l e R s m args below meth c T' h' cells slots → Wr h h' a j.toNatClampNeg (.int (nar .byte v)) → OFin n0 p e s below Q kk nn T' { g with pc := g.pc + 1, stack := rest }) : OFin n0 p e s below Q kk nn T g := by
  obtain ⟨C, locs, X, N, eh⟩ := X
  obtain ⟨hx, hZ, hown, -, hby, -⟩ := id C
  obtain ⟨T', h', X', e', W, st⟩ := Jvm.RoadKit.stB X hx hZ eh A hin hg hs (hb hby hd)
  exact OFin.run st (k T' h' ⟨C, _, X', Fr.snoc X' N hnew, e'⟩ W)
theorem OAt.stC (X : OAt n0 Z y bytes maxL ret p l e R s m args below meth c T h cells slots) {a : Addr} {cl : Cell} (A : Arr Z h a cl .char) {j v : Int32} (hin : ¬ (j < 0 ∨ cl.slots.size ≤ j.toNatClampNeg)) (hnew : n0 ≤ a) (hg : g.method = m) {rest : List Value} (hs : g.stack = .int v :: .int j :: .ref a :: rest) (hd : decode bytes g.pc = .ok (.castore, 1))
    (k : ∀ T' h', OAt n0 Z y bytes maxL ret p l e R s m args below meth c T' h' cells slots → Wr h h' a j.toNatClampNeg (.int (nar .char v)) → OFin n0 p e s below Q kk nn T' { g with pc := g.pc + 1, stack := rest }) : OFin n0 p e s below Q kk nn T g := by
  obtain ⟨C, locs, X, N, eh⟩ := X
  obtain ⟨hx, hZ, hown, -, hby, -⟩ := id C
  obtain ⟨T', h', X', e', W, st⟩ := Jvm.RoadKit.stC X hx hZ eh A hin hg hs (hb hby hd)
  exact OFin.run st (k T' h' ⟨C, _, X', Fr.snoc X' N hnew, e'⟩ W)
theorem OAt.instY (X : OAt n0 Z y bytes maxL ret p l e R s m args below meth c T h cells slots) {K : String} {index : Nat} (w : (Jvm.Cond.classLink y.cls index K).before a0 Z = true) {a : Addr} (F : Ins Z h a K true) (hg : g.method = m) {rest : List Value} (hs : g.stack = .ref a :: rest) (hd : decode bytes g.pc = .ok (.instanceof index, 3))
    (k : ∀ T', OAt n0 Z y bytes maxL ret p l e R s m args below meth c T' h cells slots → OFin n0 p e s below Q kk nn T' { g with pc := g.pc + 3, stack := .int 1 :: rest }) : OFin n0 p e s below Q kk nn T g := by
  obtain ⟨C, locs, X, N, eh⟩ := X
  obtain ⟨hx, hZ, hown, -, hby, -⟩ := id C
  obtain ⟨T', X', e', st⟩ := Jvm.RoadKit.instY X hx hZ hown w eh F hg hs (hb hby hd)
  exact OFin.run st (k T' ⟨C, locs, X', N, e'⟩)
theorem OAt.castY (X : OAt n0 Z y bytes maxL ret p l e R s m args below meth c T h cells slots) {K : String} {index : Nat} (w : (Jvm.Cond.classLink y.cls index K).before a0 Z = true) {a : Addr} (F : Ins Z h a K true) (hg : g.method = m) {rest : List Value} (hs : g.stack = .ref a :: rest) (hd : decode bytes g.pc = .ok (.checkcast index, 3))
    (k : ∀ T', OAt n0 Z y bytes maxL ret p l e R s m args below meth c T' h cells slots → OFin n0 p e s below Q kk nn T' { g with pc := g.pc + 3 }) : OFin n0 p e s below Q kk nn T g := by
  obtain ⟨C, locs, X, N, eh⟩ := X
  obtain ⟨hx, hZ, hown, -, hby, -⟩ := id C
  obtain ⟨T', X', e', st⟩ := Jvm.RoadKit.castY X hx hZ hown w eh F hg hs (hb hby hd)
  exact OFin.run st (k T' ⟨C, locs, X', N, e'⟩)
theorem OAt.instNo (X : OAt n0 Z y bytes maxL ret p l e R s m args below meth c T h cells slots) {K C : String} {index : Nat} (w : (Jvm.Cond.classLink y.cls index K).before a0 Z = true) {a : Addr} (E : Exa Z h a C) (F : ∃ c t, Z.vm.findClass C = some c ∧ Z.vm.findClass K = some t ∧ Z.vm.assignable c t = false) (hg : g.method = m) {rest : List Value} (hs : g.stack = .ref a :: rest) (hd : decode bytes g.pc = .ok (.instanceof index, 3))
    (k : ∀ T', OAt n0 Z y bytes maxL ret p l e R s m args below meth c T' h cells slots → OFin n0 p e s below Q kk nn T' { g with pc := g.pc + 3, stack := .int 0 :: rest }) : OFin n0 p e s below Q kk nn T g := by
  obtain ⟨C, locs, X, N, eh⟩ := X
  obtain ⟨hx, hZ, hown, -, hby, -⟩ := id C
  obtain ⟨T', X', e', st⟩ := Jvm.RoadKit.instNo X hx hZ hown w eh E F hg hs (hb hby hd)
  exact OFin.run st (k T' ⟨C, locs, X', N, e'⟩)
theorem OAt.instNull (X : OAt n0 Z y bytes maxL ret p l e R s m args below meth c T h cells slots) {index : Nat} (hg : g.method = m) {rest : List Value} (hs : g.stack = .null :: rest) (hd : decode bytes g.pc = .ok (.instanceof index, 3))
    (k : OFin n0 p e s below Q kk nn T { g with pc := g.pc + 3, stack := .int 0 :: rest }) : OFin n0 p e s below Q kk nn T g := by
  obtain ⟨⟨hx, hZ, hown, -, hby, -⟩, locs, X, N, eh⟩ := X
  exact OFin.run (X.instanceofNull hx hg hs (hb hby hd)) k
theorem o_nsRoot {O K : String} {n : Nat} (w : (Jvm.Cond.noSuperclass O).before a0 Z = true) (wk : (Jvm.Cond.instantiable K n).before a0 Z = true) (hn : O ≠ K) : NS Z O K := by
  obtain ⟨c, k, h1, h2, h3, -, -⟩ := Cond.noSuperclass_spec w
  obtain ⟨t, kt, g1, -⟩ := Cond.instantiable_spec wk
  have ne := ids_ne h1 g1 hn
  refine ⟨c, t, h1, g1, fun fuel => ?_⟩
  cases fuel with
  | zero => rfl
  | succ f => simp [Vm.isSubclassAux, ne, h2, h3]
theorem o_nsNo {C S K : String} {n : Nat} (w : (Jvm.Cond.superclass C S).before a0 Z = true) (wk : (Jvm.Cond.instantiable K n).before a0 Z = true) (q : NS Z C K) (hn : C ≠ K) : ∃ c t, Z.vm.findClass C = some c ∧ Z.vm.findClass K = some t ∧ Z.vm.assignable c t = false := by
  obtain ⟨c, t, h0, g0, n3⟩ := q
  obtain ⟨p, k, kp, h1, h2, h3, h4, h5, -, h7⟩ := Cond.superclass_spec h0 w
  obtain ⟨t2, k', g1, g2, g3, g4, -⟩ := Cond.instantiable_spec wk
  cases g0.symm.trans g1
  have ne := ids_ne h0 g0 hn
  have g5 : k'.isInterface = false := by simp only [Bool.or_eq_false_iff] at g4; exact g4.1
  refine ⟨c, t, h0, g0, ?_⟩
  show Z.vm.assignableAux (255 + 1) c t = false
  simp [Vm.assignableAux, ne, h2, g2, h5, g3, g5, Vm.isSubclass, n3]
/-- an array of N places; place j holds f j -/
def OArr (Z : State) (h : Heap) (a : Addr) (ty : FieldType) (N : Nat) (f : Nat → Value) : Prop := ∃ c : Cell, Arr Z h a c ty ∧ c.slots.size = N ∧ ∀ j, j < N → c.slots[j]? = some (f j)
theorem OArr.lt {a : Addr} {ty : FieldType} {N : Nat} {f : Nat → Value} (F : OArr Z h a ty N f) : a < h.size := by obtain ⟨c, A, -⟩ := F; exact A.lt
theorem OArr.ext {a : Addr} {ty : FieldType} {N : Nat} {f : Nat → Value} (F : OArr Z h a ty N f) (E : Ext h h') : OArr Z h' a ty N f := by obtain ⟨c, A, r⟩ := F; exact ⟨c, A.ext E, r⟩
theorem OArr.other {a b : Addr} {ty : FieldType} {N sl : Nat} {f : Nat → Value} {v : Value} (F : OArr Z h b ty N f) (W : Wr h h' a sl v) (q : b ≠ a) : OArr Z h' b ty N f := by obtain ⟨c, A, r⟩ := F; exact ⟨c, A.other W q, r⟩
theorem OArr.keep {a : Addr} {ws : List Addr} {ty : FieldType} {N : Nat} {f : Nat → Value} (F : OArr Z h a ty N f) (K : Keep h h' ws) (q : a ∉ ws) : OArr Z h' a ty N f := by obtain ⟨c, A, r⟩ := F; exact ⟨c, ⟨K.2.1 a c A.1 q, A.2⟩, r⟩
theorem OArr.new {a : Addr} {k : ClassId} {ty : FieldType} {z : Int32} (A : Arr Z h a (newA k ty z) ty) : OArr Z h a ty z.toNatClampNeg (fun _ => defaultValue ty) := ⟨_, A, sz_new _ _ _, fun j hj => by simp [newA, hj]⟩
theorem OArr.congr {a : Addr} {ty : FieldType} {N : Nat} {f f' : Nat → Value} (F : OArr Z h a ty N f) (q : ∀ j, j < N → f j = f' j) : OArr Z h a ty N f' := by obtain ⟨c, A, r1, r2⟩ := F; exact ⟨c, A, r1, fun j hj => by rw [r2 j hj, q j hj]⟩
theorem OArr.set {a : Addr} {ty : FieldType} {N i : Nat} {f : Nat → Value} {v : Value} (F : OArr Z h a ty N f) (W : Wr h h' a i v) : OArr Z h' a ty N (fun j => if j = i then v else f j) := by
  obtain ⟨c, A, r1, r2⟩ := F
  refine ⟨c.setSlot i v, A.same W, by rw [sz_set]; exact r1, fun j hj => ?_⟩
  by_cases q : j = i
  · subst q; simp [Cell.setSlot, r1, hj]
  · simp only [q, if_false]
    rw [← r2 j hj]
    exact Array.getElem?_setIfInBounds_ne (Ne.symm q)
theorem o_fitC {a : Addr} {cl : Cell} {ty : FieldType} (A : Arr Z h a cl ty) (q : ∀ (i : Nat) (v : Value), cl.slots[i]? = some v → fits ty v = true) : FitC Z cl := fun i v hv => by
  obtain ⟨hs, k, hk, comp, hkind⟩ := A.2.1
  simp [State.fitsSlot, State.slotType?, hk, hkind, q i v hv]
theorem o_in {N : Nat} {j : Int32} {cl : Cell} (S : cl.slots.size = N) (h0 : 0 ≤ j.toInt) (h1 : j.toInt < N) : ¬ (j < 0 ∨ cl.slots.size ≤ j.toNatClampNeg) := by
  have e : (0 : Int32).toInt = 0 := by decide
  have q : (j.toNatClampNeg : Int) = j.toInt := by show (j.toInt.toNat : Int) = _; omega
  rw [Int32.lt_iff_toInt_lt, S, e]; omega
theorem o_nat {j : Int32} (h0 : 0 ≤ j.toInt) : (j.toNatClampNeg : Int) = j.toInt := by show (j.toInt.toNat : Int) = _; omega
theorem OFin.mono {k2 n2 : Nat} (k : OFin n0 p e s below Q kk nn T g) (h1 : kk ≤ k2) (h2 : nn ≤ n2) : OFin n0 p e s below Q k2 n2 T g := by
  obtain ⟨s₂, o, q1, q2, q3, v, L, q4, q5, q6⟩ := k; exact ⟨s₂, o, q1, q2, q3, v, L, q4, q5, q6.1, q6.2.1, q6.2.2.mono h1 h2⟩
theorem o_static {C n d K : String} (hx : (Jvm.Cond.exactly (.static C n d) K).value args Z none Z [] = some true) (wi : (Jvm.Cond.initialized C).before args Z = true) (wl : (Jvm.Cond.laysStatic C n d).before args Z = true) :
    ∃ a, (Term.static C n d).eval args Z none [] Z = some (.ref a) ∧ Exa Z Z.heap a K ∧ Sta Z Z.heap C n d (.ref a) := by
  obtain ⟨a, ev⟩ := exa_v hx
  exact ⟨a, ev, Exa.start ev hx, Sta.start ev (Or.inr ⟨wi, wl⟩)⟩
theorem o_fieldI {t : Term} {O f dd : String} {k : Int32} {a : Addr} (ev : t.eval args Z none [] Z = some (.ref a)) (hq : (Jvm.Cond.eq (.field t O f dd) (.int k)).value args Z none Z [] = some true) : Fld Z Z.heap a O f dd (.int k) := by
  refine Fld.start ?_
  rw [← fld_at (C := O) (n := f) (dd := dd) ev]
  obtain ⟨u, v, h1, h2, h3, h4⟩ := cmp_v (Or.inl hq)
  have h5 : v = .int k := (Option.some.inj h2).symm
  subst h5
  obtain ⟨z, rfl⟩ := h4
  have := gotT (Cond.eq_ints h1 h2) hq
  rw [h1, this]
end Own
/-! the bytes -/
def own_b (pv : Int64) (pi : Int32) : Int32 := nar .byte (((pv.toUInt64 >>> (((8 : Int32) * pi) &&& 0x3f).toInt64.toUInt64).toInt64).toInt32.toInt8.toInt32)
def own_F (pv : Int64) (j : Nat) : Value := .int (nar .byte (own_b pv (Int32.ofNat j)))
def own_G (pv : Int64) (k : Nat) (j : Nat) : Value := if j < k then own_F pv j else .int 0
theorem own_nar (x : Int32) : nar .byte (nar .byte x) = nar .byte x := by
  show x.toInt8.toInt32.toInt8.toInt32 = x.toInt8.toInt32
  rw [Int8.toInt8_toInt32]
theorem own_lit (k : Nat) (hk : k < 8) : (Int32.ofNat k).toInt = k ∧ (Int32.ofNat k).toNatClampNeg = k := by
  have e : (Int32.ofNat k).toInt = k := Int32.toInt_ofNat_of_lt (by omega)
  exact ⟨e, by show (Int32.ofNat k).toInt.toNat = k; rw [e]; rfl⟩
theorem own_fits (pv : Int64) (j : Nat) : fits .byte (own_F pv j) = true := fits_nar_byte _
theorem own_fitsA {Z : State} {h : Heap} {a : Addr} {cl : Cell} {N : Nat} {pv : Int64} (A : Arr Z h a cl .byte) (S : cl.slots.size = N) (H : ∀ j, j < N → cl.slots[j]? = some (own_F pv j)) : FitC Z cl := o_fitC A fun i v hv => by
  have hi : i < N := by rw [← S]; exact (Array.getElem?_eq_some_iff.mp hv).1
  rw [H i hi] at hv
  cases hv
  exact own_fits pv i
theorem own_len (x : Int32) : 0 ≤ ((x &&& (2147483647 : Int32)) % (9 : Int32)).toInt ∧ ((x &&& (2147483647 : Int32)) % (9 : Int32)).toInt ≤ 8 := by
  have e1 := (c_and x (2147483647 : Int32) (by decide)).1
  have e2 := (c_iremV (x &&& (2147483647 : Int32)) (9 : Int32)).1 e1 (by decide)
  have e3 : (9 : Int32).toInt = 9 := by decide
  omega
theorem own_idx (x n : Int32) (hn : 0 < n.toInt) : 0 ≤ ((x &&& (2147483647 : Int32)) % n).toInt ∧ ((x &&& (2147483647 : Int32)) % n).toInt < n.toInt := by
  have e1 := (c_and x (2147483647 : Int32) (by decide)).1
  have e2 := (c_iremV (x &&& (2147483647 : Int32)) n).1 e1 hn
  omega
theorem pn_com_example_libidem_libidem_FingerprintOfSha256PinLaw : plainName "com/example/libidem/libidem/FingerprintOfSha256PinLaw" = true := by first | (simp [plainName, overriddenIn]; done) | decide +kernel
theorem d2_0 : decode method_3_code 0 = .ok (.lload_n 0, 1) := by decide +kernel
theorem d2_1 : decode method_3_code 1 = .ok (.bipush 8, 2) := by decide +kernel
theorem d2_3 : decode method_3_code 3 = .ok (.iload_n 2, 1) := by decide +kernel
theorem d2_4 : decode method_3_code 4 = .ok (.imul, 1) := by decide +kernel
theorem d2_5 : decode method_3_code 5 = .ok (.lushr, 1) := by decide +kernel
theorem d2_6 : decode method_3_code 6 = .ok (.l2i, 1) := by decide +kernel
theorem d2_7 : decode method_3_code 7 = .ok (.i2b, 1) := by decide +kernel
theorem d2_8 : decode method_3_code 8 = .ok (.ireturn, 1) := by decide +kernel
set_option maxRecDepth 65536 in
set_option maxHeartbeats 40000000 in
theorem rm1 (l : Launch) (Z : State) (a0 : Array Value) (hw : ∀ d ∈ tables_1, d.before a0 Z = true) (pv : Int64) (pi : Int32) (h0 : Heap) (n0 : Nat)  :
    OMeets l Z (⟨"com/example/libidem/libidem/FingerprintOfSha256PinLaw", "byteAt", "(JI)B"⟩ : MethodName) [] method_3_code 3 (some .byte) ({ frames := 0, cells := 0, slots := 0, locals := 0 } : Room) #[(.long pv), (.int pi)] h0 n0 (fun v h => v = some (.int (own_b pv pi)) ∧ h0 = h) := by
  refine o_enter (Z := Z) (plainFor_of_name pn_com_example_libidem_libidem_FingerprintOfSha256PinLaw) ?_
  intro p e s m below meth c T0 X0
  refine OFin.cast (g' := (mkF m 0 #[.val (.long pv), .second, .val (.int pi)] [])) (by first | rfl | simp [entryFrame, mkF, argsToLocals, Value.category]) ?_
  refine X0.step (fun hA hx hq t k => XS.lloadN hA hx rfl (hb hq d2_0) rfl k) ?_
  show OFin _ _ _ _ _ _ _ _ T0 (mkF m 1 #[.val (.long pv), .second, .val (.int pi)] [(.long pv)])
  refine X0.step (fun hA hx hq t k => XS.bipush hA hx rfl (hb hq d2_1) k) ?_
  show OFin _ _ _ _ _ _ _ _ T0 (mkF m 3 #[.val (.long pv), .second, .val (.int pi)] [(.int (8 : Int32)), (.long pv)])
  refine X0.step (fun hA hx hq t k => XS.iloadN hA hx rfl (hb hq d2_3) rfl k) ?_
  show OFin _ _ _ _ _ _ _ _ T0 (mkF m 4 #[.val (.long pv), .second, .val (.int pi)] [(.int pi), (.int (8 : Int32)), (.long pv)])
  refine X0.step (fun hA hx hq t k => XS.imul hA hx rfl (hb hq d2_4) rfl k) ?_
  show OFin _ _ _ _ _ _ _ _ T0 (mkF m 5 #[.val (.long pv), .second, .val (.int pi)] [(.int ((8 : Int32) * pi)), (.long pv)])
  refine X0.step (fun hA hx hq t k => XS.lushr hA hx rfl (hb hq d2_5) rfl k) ?_
  show OFin _ _ _ _ _ _ _ _ T0 (mkF m 6 #[.val (.long pv), .second, .val (.int pi)] [(.long ((pv.toUInt64 >>> (((8 : Int32) * pi) &&& 0x3f).toInt64.toUInt64).toInt64))])
  refine X0.step (fun hA hx hq t k => XS.l2i hA hx rfl (hb hq d2_6) rfl k) ?_
  show OFin _ _ _ _ _ _ _ _ T0 (mkF m 7 #[.val (.long pv), .second, .val (.int pi)] [(.int (((pv.toUInt64 >>> (((8 : Int32) * pi) &&& 0x3f).toInt64.toUInt64).toInt64).toInt32))])
  refine X0.step (fun hA hx hq t k => XS.i2b hA hx rfl (hb hq d2_7) rfl k) ?_
  show OFin _ _ _ _ _ _ _ _ T0 (mkF m 8 #[.val (.long pv), .second, .val (.int pi)] [(.int ((((pv.toUInt64 >>> (((8 : Int32) * pi) &&& 0x3f).toInt64.toUInt64).toInt64).toInt32).toInt8.toInt32))])
  exact X0.retN (by simp) d2_8 (by decide) (by decide) (⟨rfl, rfl⟩)
theorem d1_0 : decode method_4_code 0 = .ok (.iload_n 1, 1) := by decide +kernel
theorem d1_1 : decode method_4_code 1 = .ok (.aload_n 0, 1) := by decide +kernel
theorem d1_2 : decode method_4_code 2 = .ok (.arraylength, 1) := by decide +kernel
theorem d1_3 : decode method_4_code 3 = .ok (.if_icmp .ge 11, 3) := by decide +kernel
theorem d1_14 : decode method_4_code 14 = .ok (.return_, 1) := by decide +kernel
theorem d1_6 : decode method_4_code 6 = .ok (.aload_n 0, 1) := by decide +kernel
theorem d1_7 : decode method_4_code 7 = .ok (.iload_n 1, 1) := by decide +kernel
theorem d1_8 : decode method_4_code 8 = .ok (.lload_n 2, 1) := by decide +kernel
theorem d1_9 : decode method_4_code 9 = .ok (.iload_n 1, 1) := by decide +kernel
theorem d1_10 : decode method_4_code 10 = .ok (.invokestatic 28, 3) := by decide +kernel
theorem pd_pJIr_B : parseMethodDescriptor "(JI)B" = some ⟨[.long, .int], some .byte⟩ := by decide +kernel
theorem d1_13 : decode method_4_code 13 = .ok (.bastore, 1) := by decide +kernel
set_option maxRecDepth 65536 in
set_option maxHeartbeats 40000000 in
theorem rm2 (l : Launch) (Z : State) (a0 : Array Value) (hw : ∀ d ∈ tables_1, d.before a0 Z = true) (a1 : Addr) (k : Nat) (pv : Int64) (n : Int32) (h0 : Heap) (n0 : Nat) (hk : k < 8) (F : OArr Z h0 a1 .byte n.toNatClampNeg (own_G pv k)) (hn : 0 ≤ n.toInt) (hnew : n0 ≤ a1) :
    OMeets l Z (⟨"com/example/libidem/libidem/FingerprintOfSha256PinLaw", "put", "([BIJ)V"⟩ : MethodName) [] method_4_code 4 none ({ frames := 1, cells := 0, slots := 0, locals := 16 } : Room) #[(.ref a1), (.int (Int32.ofNat k)), (.long pv)] h0 n0 (fun v h => v = none ∧ Keep h0 h [a1] ∧ OArr Z h a1 .byte n.toNatClampNeg (own_G pv (k + 1))) := by
  refine o_enter (Z := Z) (plainFor_of_name pn_com_example_libidem_libidem_FingerprintOfSha256PinLaw) ?_
  intro p e s m below meth c T0 X0
  refine OFin.cast (g' := (mkF m 0 #[.val (.ref a1), .val (.int (Int32.ofNat k)), .val (.long pv), .second] [])) (by first | rfl | simp [entryFrame, mkF, argsToLocals, Value.category]) ?_
  obtain ⟨cl, A, S, H⟩ := id F
  obtain ⟨ek, ek2⟩ := own_lit k hk
  have e0 : (0 : Int32).toInt = 0 := by decide
  have en := o_nat hn
  refine X0.step (fun hA hx hq t k => XS.iloadN hA hx rfl (hb hq d1_0) rfl k) ?_
  show OFin _ _ _ _ _ _ _ _ T0 (mkF m 1 #[.val (.ref a1), .val (.int (Int32.ofNat k)), .val (.long pv), .second] [(.int (Int32.ofNat k))])
  refine X0.step (fun hA hx hq t k => XS.aloadN hA hx rfl (hb hq d1_1) rfl rfl k) ?_
  show OFin _ _ _ _ _ _ _ _ T0 (mkF m 2 #[.val (.ref a1), .val (.int (Int32.ofNat k)), .val (.long pv), .second] [(.ref a1), (.int (Int32.ofNat k))])
  refine X0.alen A (n := n) (by rw [S]; exact (back32 (by rw [Int32.lt_iff_toInt_lt, e0]; omega)).1) (g := (mkF m 2 #[.val (.ref a1), .val (.int (Int32.ofNat k)), .val (.long pv), .second] [(.ref a1), (.int (Int32.ofNat k))])) rfl rfl d1_2 ?_
  show OFin _ _ _ _ _ _ _ _ T0 (mkF m 3 #[.val (.ref a1), .val (.int (Int32.ofNat k)), .val (.long pv), .second] [(.int n), (.int (Int32.ofNat k))])
  by_cases k1 : (Int32.ofNat k) < n
  · refine X0.step (fun hA hx hq t k => XS.icmpNo hA hx rfl (hb hq d1_3) rfl (tlt (k1)).2.1 k) ?_
    show OFin _ _ _ _ _ _ _ _ T0 (mkF m 6 #[.val (.ref a1), .val (.int (Int32.ofNat k)), .val (.long pv), .second] [])
    refine X0.step (fun hA hx hq t k => XS.aloadN hA hx rfl (hb hq d1_6) rfl rfl k) ?_
    show OFin _ _ _ _ _ _ _ _ T0 (mkF m 7 #[.val (.ref a1), .val (.int (Int32.ofNat k)), .val (.long pv), .second] [(.ref a1)])
    refine X0.step (fun hA hx hq t k => XS.iloadN hA hx rfl (hb hq d1_7) rfl k) ?_
    show OFin _ _ _ _ _ _ _ _ T0 (mkF m 8 #[.val (.ref a1), .val (.int (Int32.ofNat k)), .val (.long pv), .second] [(.int (Int32.ofNat k)), (.ref a1)])
    refine X0.step (fun hA hx hq t k => XS.lloadN hA hx rfl (hb hq d1_8) rfl k) ?_
    show OFin _ _ _ _ _ _ _ _ T0 (mkF m 9 #[.val (.ref a1), .val (.int (Int32.ofNat k)), .val (.long pv), .second] [(.long pv), (.int (Int32.ofNat k)), (.ref a1)])
    refine X0.step (fun hA hx hq t k => XS.iloadN hA hx rfl (hb hq d1_9) rfl k) ?_
    show OFin _ _ _ _ _ _ _ _ T0 (mkF m 10 #[.val (.ref a1), .val (.int (Int32.ofNat k)), .val (.long pv), .second] [(.int (Int32.ofNat k)), (.long pv), (.int (Int32.ofNat k)), (.ref a1)])
    refine X0.callS (y' := (⟨"com/example/libidem/libidem/FingerprintOfSha256PinLaw", "byteAt", "(JI)B"⟩ : MethodName)) (hw _ (List.mem_of_getElem? (i := 6) rfl)) (hw _ (List.mem_of_getElem? (i := 7) rfl)) (hw _ (List.mem_of_getElem? (i := 4) rfl)) (hw _ (List.mem_of_getElem? (i := 8) rfl)) (by decide) (argsL := [(.long pv), (.int (Int32.ofNat k))]) (rest := [(.int (Int32.ofNat k)), (.ref a1)]) (rm1 l Z a0 hw pv (Int32.ofNat k) h0 n0) (g := (mkF m 10 #[.val (.ref a1), .val (.int (Int32.ofNat k)), .val (.long pv), .second] [(.int (Int32.ofNat k)), (.long pv), (.int (Int32.ofNat k)), (.ref a1)])) rfl rfl pd_pJIr_B rfl rfl (W := 2) (by show 2 * 0 + _ ≤ _; exact Nat.le_of_eq rfl) d1_10 (by decide) (by decide) (by decide) (by decide) ?_
    intro v1 T1 h1 X1 q1
    obtain ⟨rfl, rfl⟩ := q1
    show OFin _ _ _ _ _ _ _ _ T1 (mkF m 13 #[.val (.ref a1), .val (.int (Int32.ofNat k)), .val (.long pv), .second] [(.int (own_b pv (Int32.ofNat k))), (.int (Int32.ofNat k)), (.ref a1)])
    refine X1.stB A (o_in S (by omega) (by rw [Int32.lt_iff_toInt_lt] at k1; omega)) (hnew) (g := (mkF m 13 #[.val (.ref a1), .val (.int (Int32.ofNat k)), .val (.long pv), .second] [(.int (own_b pv (Int32.ofNat k))), (.int (Int32.ofNat k)), (.ref a1)])) rfl rfl d1_13 ?_
    intro T2 h2 X2 W2
    show OFin _ _ _ _ _ _ _ _ T2 (mkF m 14 #[.val (.ref a1), .val (.int (Int32.ofNat k)), .val (.long pv), .second] [])
    have V2 : OArr Z h2 a1 .byte n.toNatClampNeg (own_G pv (k + 1)) := by
      refine (F.set W2).congr fun j hj => ?_
      rw [ek2]
      unfold own_G
      by_cases q : j = k
      · have q2 : j < k + 1 := by omega
        simp only [q, if_true]
        rw [if_pos (by omega)]
        rfl
      · by_cases q1 : j < k
        · have q2 : j < k + 1 := by omega
          simp only [q, q1, q2, if_true, if_false]
        · have q2 : ¬ j < k + 1 := by omega
          simp only [q, q1, q2, if_false]
    exact X2.retV d1_14 (by decide) (by decide) (⟨rfl, Keep.of_wr W2, V2⟩)
  · refine X0.step (fun hA hx hq t k => XS.icmpYes hA hx rfl (pc0 := 3) (pc' := 14) rfl (hb hq d1_3) rfl (flt (k1)).2.1 (by decide) (by decide) k) ?_
    show OFin _ _ _ _ _ _ _ _ T0 (mkF m 14 #[.val (.ref a1), .val (.int (Int32.ofNat k)), .val (.long pv), .second] [])
    have V2 : OArr Z h0 a1 .byte n.toNatClampNeg (own_G pv (k + 1)) := by
      rw [Int32.lt_iff_toInt_lt, ek] at k1
      refine F.congr fun j hj => ?_
      have q1 : j < k := by omega
      have q2 : j < k + 1 := by omega
      unfold own_G
      simp only [q1, q2, if_true]
    exact X0.retV d1_14 (by decide) (by decide) (⟨rfl, Keep.refl _ _, V2⟩)
theorem pn_com_example_libidem_libidem_Fingerprint : plainName "com/example/libidem/libidem/Fingerprint" = true := by first | (simp [plainName, overriddenIn]; done) | decide +kernel
theorem d4_0 : decode prog_9_method_1_code 0 = .ok (.aload_n 0, 1) := by decide +kernel
theorem d4_1 : decode prog_9_method_1_code 1 = .ok (.invokespecial 1, 3) := by decide +kernel
theorem d4_4 : decode prog_9_method_1_code 4 = .ok (.aload_n 0, 1) := by decide +kernel
theorem d4_5 : decode prog_9_method_1_code 5 = .ok (.aload_n 1, 1) := by decide +kernel
theorem d4_6 : decode prog_9_method_1_code 6 = .ok (.putfield 7, 3) := by decide +kernel
theorem d4_9 : decode prog_9_method_1_code 9 = .ok (.return_, 1) := by decide +kernel
set_option maxRecDepth 65536 in
set_option maxHeartbeats 40000000 in
theorem rm4 (l : Launch) (Z : State) (a0 : Array Value) (hw : ∀ d ∈ tables_1, d.before a0 Z = true) (a1 t : Addr) (h0 : Heap) (n0 : Nat) (F : Fld Z h0 a1 "com/example/libidem/libidem/Fingerprint" "sha256" "[B" .null) (E : Exa Z h0 a1 "com/example/libidem/libidem/Fingerprint") (hn : n0 ≤ a1) :
    OMeets l Z (⟨"com/example/libidem/libidem/Fingerprint", "<init>", "([B)V"⟩ : MethodName) [] prog_9_method_1_code 2 none ({ frames := 1, cells := 0, slots := 0, locals := 12 } : Room) #[(.ref a1), (.ref t)] h0 n0 (fun v h => v = none ∧ Keep h0 h [a1] ∧ Exa Z h a1 "com/example/libidem/libidem/Fingerprint" ∧ Fld Z h a1 "com/example/libidem/libidem/Fingerprint" "sha256" "[B" (.ref t)) := by
  refine o_enter (Z := Z) (plainFor_of_name pn_com_example_libidem_libidem_Fingerprint) ?_
  intro p e s m below meth c T0 X0
  refine OFin.cast (g' := (mkF m 0 #[.val (.ref a1), .val (.ref t)] [])) (by first | rfl | simp [entryFrame, mkF, argsToLocals, Value.category]) ?_
  refine X0.step (fun hA hx hq t k => XS.aloadN hA hx rfl (hb hq d4_0) rfl rfl k) ?_
  show OFin _ _ _ _ _ _ _ _ T0 (mkF m 1 #[.val (.ref a1), .val (.ref t)] [(.ref a1)])
  refine X0.initO (hw _ (List.mem_of_getElem? (i := 27) rfl)) (hw _ (List.mem_of_getElem? (i := 28) rfl)) (hw _ (List.mem_of_getElem? (i := 29) rfl)) (g := (mkF m 1 #[.val (.ref a1), .val (.ref t)] [(.ref a1)])) rfl rfl rfl d4_1 (by decide) (W := 0) (by show 2 * 0 + _ ≤ _; exact Nat.le_of_eq rfl) (by decide) ?_
  intro T1 X1
  show OFin _ _ _ _ _ _ _ _ T1 (mkF m 4 #[.val (.ref a1), .val (.ref t)] [])
  refine X1.step (fun hA hx hq t k => XS.aloadN hA hx rfl (hb hq d4_4) rfl rfl k) ?_
  show OFin _ _ _ _ _ _ _ _ T1 (mkF m 5 #[.val (.ref a1), .val (.ref t)] [(.ref a1)])
  refine X1.step (fun hA hx hq t k => XS.aloadN hA hx rfl (hb hq d4_5) rfl rfl k) ?_
  show OFin _ _ _ _ _ _ _ _ T1 (mkF m 6 #[.val (.ref a1), .val (.ref t)] [(.ref t), (.ref a1)])
  refine X1.putF (hw _ (List.mem_of_getElem? (i := 30) rfl)) F E (Or.inr ⟨(hw _ (List.mem_of_getElem? (i := 31) rfl)), rfl, rfl⟩) (hw _ (List.mem_of_getElem? (i := 14) rfl)) (ty := (.array .byte)) (by decide) rfl rfl hn (g := (mkF m 6 #[.val (.ref a1), .val (.ref t)] [(.ref t), (.ref a1)])) rfl rfl d4_6 ?_
  intro T2 h2 X2 W2
  show OFin _ _ _ _ _ _ _ _ T2 (mkF m 9 #[.val (.ref a1), .val (.ref t)] [])
  exact X2.retV d4_9 (by decide) (by decide) (⟨rfl, Keep.of_wr W2, E.wr W2, F.same W2⟩)
theorem d3_0 : decode prog_9_method_3_code 0 = .ok (.new 8, 3) := by decide +kernel
theorem d3_3 : decode prog_9_method_3_code 3 = .ok (.dup, 1) := by decide +kernel
theorem d3_4 : decode prog_9_method_3_code 4 = .ok (.aload_n 0, 1) := by decide +kernel
theorem d3_5 : decode prog_9_method_3_code 5 = .ok (.invokevirtual 53, 3) := by decide +kernel
theorem d3_8 : decode prog_9_method_3_code 8 = .ok (.checkcast 54, 3) := by decide +kernel
theorem d3_11 : decode prog_9_method_3_code 11 = .ok (.invokespecial 50, 3) := by decide +kernel
theorem pd_pA_Br_V : parseMethodDescriptor "([B)V" = some ⟨[(.array .byte)], none⟩ := by decide +kernel
theorem d3_14 : decode prog_9_method_3_code 14 = .ok (.areturn, 1) := by decide +kernel
set_option maxRecDepth 65536 in
set_option maxHeartbeats 40000000 in
theorem rm3 (l : Launch) (Z : State) (a0 : Array Value) (hw : ∀ d ∈ tables_1, d.before a0 Z = true) (a1 : Addr) (pv : Int64) (n : Int32) (h0 : Heap) (n0 : Nat) (F : OArr Z h0 a1 .byte n.toNatClampNeg (own_F pv)) (E : Exa Z h0 a1 "[B") (hn : 0 ≤ n.toInt ∧ n.toInt ≤ 8) (Z0 : n0 ≤ h0.size) :
    OMeets l Z (⟨"com/example/libidem/libidem/Fingerprint", "ofSha256", "([B)Lcom/example/libidem/libidem/Fingerprint;"⟩ : MethodName) [] prog_9_method_3_code 1 (some (.object "com/example/libidem/libidem/Fingerprint")) ({ frames := 2, cells := 2, slots := 9, locals := 26 } : Room) #[(.ref a1)] h0 n0 (fun v h => ∃ f t, v = some (.ref f) ∧ Keep h0 h [] ∧ Exa Z h f "com/example/libidem/libidem/Fingerprint" ∧ Fld Z h f "com/example/libidem/libidem/Fingerprint" "sha256" "[B" (.ref t) ∧ OArr Z h t .byte n.toNatClampNeg (own_F pv) ∧ Exa Z h t "[B" ∧ h0.size ≤ t) := by
  refine o_enter (Z := Z) (plainFor_of_name pn_com_example_libidem_libidem_Fingerprint) ?_
  intro p e s m below meth c T0 X0
  refine OFin.cast (g' := (mkF m 0 #[.val (.ref a1)] [])) (by first | rfl | simp [entryFrame, mkF, argsToLocals, Value.category]) ?_
  refine X0.newO (hw _ (List.mem_of_getElem? (i := 13) rfl)) (hw _ (List.mem_of_getElem? (i := 14) rfl)) (hw _ (List.mem_of_getElem? (i := 11) rfl)) (g := (mkF m 0 #[.val (.ref a1)] [])) rfl d3_0 (by decide) (by decide) ?_
  intro T1 h1 b1 gb1 X1 E1 A1 D1
  show OFin _ _ _ _ _ _ _ _ T1 (mkF m 3 #[.val (.ref a1)] [(.ref b1)])
  have F0 : Fld Z h1 b1 "com/example/libidem/libidem/Fingerprint" "sha256" "[B" .null := D1 (Or.inr (hw _ (List.mem_of_getElem? (i := 31) rfl))) (ty := (.array .byte)) (by decide)
  refine X1.step (fun hA hx hq t k => XS.dup hA hx rfl (hb hq d3_3) rfl rfl k) ?_
  show OFin _ _ _ _ _ _ _ _ T1 (mkF m 4 #[.val (.ref a1)] [(.ref b1), (.ref b1)])
  refine X1.step (fun hA hx hq t k => XS.aloadN hA hx rfl (hb hq d3_4) rfl rfl k) ?_
  show OFin _ _ _ _ _ _ _ _ T1 (mkF m 5 #[.val (.ref a1)] [(.ref a1), (.ref b1), (.ref b1)])
  obtain ⟨cl, A, S, H⟩ := F.ext E1
  have en := o_nat hn.1
  refine X1.clone (hw _ (List.mem_of_getElem? (i := 15) rfl)) (hw _ (List.mem_of_getElem? (i := 16) rfl)) (hw _ (List.mem_of_getElem? (i := 20) rfl)) (hw _ (List.mem_of_getElem? (i := 18) rfl)) (hw _ (List.mem_of_getElem? (i := 19) rfl)) (hw _ (List.mem_of_getElem? (i := 21) rfl)) A (E.ext E1) (own_fitsA A S H) (g := (mkF m 5 #[.val (.ref a1)] [(.ref a1), (.ref b1), (.ref b1)])) rfl rfl rfl d3_5 (by decide) (W := 2) (cap := 8) (by show 2 * 0 + _ ≤ _; exact Nat.le_of_eq rfl) (by decide) (by rw [S]; omega) (by decide) (by decide) ?_
  intro T2 h2 b2 gb2 X2 E2 A2 G2
  show OFin _ _ _ _ _ _ _ _ T2 (mkF m 8 #[.val (.ref a1)] [(.ref b2), (.ref b1), (.ref b1)])
  refine X2.castY (hw _ (List.mem_of_getElem? (i := 22) rfl)) (Ins.self G2) (g := (mkF m 8 #[.val (.ref a1)] [(.ref b2), (.ref b1), (.ref b1)])) rfl rfl d3_8 ?_
  intro T3 X3
  show OFin _ _ _ _ _ _ _ _ T3 (mkF m 11 #[.val (.ref a1)] [(.ref b2), (.ref b1), (.ref b1)])
  refine X3.callI (y' := (⟨"com/example/libidem/libidem/Fingerprint", "<init>", "([B)V"⟩ : MethodName)) rfl (hw _ (List.mem_of_getElem? (i := 24) rfl)) (hw _ (List.mem_of_getElem? (i := 25) rfl)) (hw _ (List.mem_of_getElem? (i := 11) rfl)) (hw _ (List.mem_of_getElem? (i := 26) rfl)) (by decide) (a := b1) (argsL := [(.ref b2)]) (rest := [(.ref b1)]) (rm4 l Z a0 hw b1 b2 h2 n0 (F0.ext E2) (A1.ext E2) (by rw [gb1]; exact Z0)) (g := (mkF m 11 #[.val (.ref a1)] [(.ref b2), (.ref b1), (.ref b1)])) rfl rfl pd_pA_Br_V rfl rfl (W := 1) (by show 2 * 0 + _ ≤ _; exact Nat.le_of_eq rfl) d3_11 (by decide) (by decide) (by decide) (by decide) ?_
  intro v4 T4 h4 X4 q4
  obtain ⟨rfl, K4, E4, F4⟩ := q4
  show OFin _ _ _ _ _ _ _ _ T4 (mkF m 14 #[.val (.ref a1)] [(.ref b1)])
  have ne : b2 ≠ b1 := by rw [gb2]; exact Nat.ne_of_gt A1.lt
  exact X4.retR rfl rfl d3_14 (by decide) (by decide) (⟨b1, b2, rfl, ((Keep.refl h0 []).ext E1 |>.ext E2).trans K4 (allS (Or.inr (Nat.le_of_eq gb1.symm)) all0), E4, F4, (show OArr Z h2 b2 .byte _ _ from ⟨_, A2, S, H⟩).keep K4 (ninS ne nin0), G2.keep K4, by rw [gb2]; exact E1.1⟩)
theorem d6_0 : decode prog_9_method_4_code 0 = .ok (.aload_n 0, 1) := by decide +kernel
theorem d6_1 : decode prog_9_method_4_code 1 = .ok (.getfield 7, 3) := by decide +kernel
theorem d6_4 : decode prog_9_method_4_code 4 = .ok (.invokevirtual 53, 3) := by decide +kernel
theorem d6_7 : decode prog_9_method_4_code 7 = .ok (.checkcast 54, 3) := by decide +kernel
theorem d6_10 : decode prog_9_method_4_code 10 = .ok (.areturn, 1) := by decide +kernel
set_option maxRecDepth 65536 in
set_option maxHeartbeats 40000000 in
theorem rm5 (l : Launch) (Z : State) (a0 : Array Value) (hw : ∀ d ∈ tables_1, d.before a0 Z = true) (a1 t : Addr) (pv : Int64) (n : Int32) (h0 : Heap) (n0 : Nat) (FF : Fld Z h0 a1 "com/example/libidem/libidem/Fingerprint" "sha256" "[B" (.ref t)) (F : OArr Z h0 t .byte n.toNatClampNeg (own_F pv)) (E : Exa Z h0 t "[B") (hn : 0 ≤ n.toInt ∧ n.toInt ≤ 8) :
    OMeets l Z (⟨"com/example/libidem/libidem/Fingerprint", "sha256", "()[B"⟩ : MethodName) [] prog_9_method_4_code 1 (some (.array .byte)) ({ frames := 1, cells := 1, slots := 8, locals := 14 } : Room) #[(.ref a1)] h0 n0 (fun v h => ∃ t2, v = some (.ref t2) ∧ Keep h0 h [] ∧ OArr Z h t2 .byte n.toNatClampNeg (own_F pv) ∧ h0.size ≤ t2) := by
  refine o_enter (Z := Z) (plainFor_of_name pn_com_example_libidem_libidem_Fingerprint) ?_
  intro p e s m below meth c T0 X0
  refine OFin.cast (g' := (mkF m 0 #[.val (.ref a1)] [])) (by first | rfl | simp [entryFrame, mkF, argsToLocals, Value.category]) ?_
  refine X0.step (fun hA hx hq t k => XS.aloadN hA hx rfl (hb hq d6_0) rfl rfl k) ?_
  show OFin _ _ _ _ _ _ _ _ T0 (mkF m 1 #[.val (.ref a1)] [(.ref a1)])
  refine X0.getF (hw _ (List.mem_of_getElem? (i := 30) rfl)) FF (g := (mkF m 1 #[.val (.ref a1)] [(.ref a1)])) rfl rfl d6_1 ?_
  intro T1 X1
  show OFin _ _ _ _ _ _ _ _ T1 (mkF m 4 #[.val (.ref a1)] [(.ref t)])
  obtain ⟨cl, A, S, H⟩ := id F
  have en := o_nat hn.1
  refine X1.clone (hw _ (List.mem_of_getElem? (i := 15) rfl)) (hw _ (List.mem_of_getElem? (i := 16) rfl)) (hw _ (List.mem_of_getElem? (i := 20) rfl)) (hw _ (List.mem_of_getElem? (i := 18) rfl)) (hw _ (List.mem_of_getElem? (i := 19) rfl)) (hw _ (List.mem_of_getElem? (i := 21) rfl)) A E (own_fitsA A S H) (g := (mkF m 4 #[.val (.ref a1)] [(.ref t)])) rfl rfl rfl d6_4 (by decide) (W := 0) (cap := 8) (by show 2 * 0 + _ ≤ _; exact Nat.le_of_eq rfl) (by decide) (by rw [S]; omega) (by decide) (by decide) ?_
  intro T2 h2 b2 gb2 X2 E2 A2 G2
  show OFin _ _ _ _ _ _ _ _ T2 (mkF m 7 #[.val (.ref a1)] [(.ref b2)])
  refine X2.castY (hw _ (List.mem_of_getElem? (i := 22) rfl)) (Ins.self G2) (g := (mkF m 7 #[.val (.ref a1)] [(.ref b2)])) rfl rfl d6_7 ?_
  intro T3 X3
  show OFin _ _ _ _ _ _ _ _ T3 (mkF m 10 #[.val (.ref a1)] [(.ref b2)])
  exact X3.retR rfl rfl d6_10 (by decide) (by decide) (⟨b2, rfl, (Keep.refl h0 []).ext E2, ⟨_, A2, S, H⟩, Nat.le_of_eq gb2.symm⟩)
theorem d8_0 : decode method_5_code 0 = .ok (.iload_n 1, 1) := by decide +kernel
theorem d8_1 : decode method_5_code 1 = .ok (.aload_n 0, 1) := by decide +kernel
theorem d8_2 : decode method_5_code 2 = .ok (.arraylength, 1) := by decide +kernel
theorem d8_3 : decode method_5_code 3 = .ok (.if_icmp .ge 14, 3) := by decide +kernel
theorem d8_17 : decode method_5_code 17 = .ok (.iconst 1, 1) := by decide +kernel
theorem d8_18 : decode method_5_code 18 = .ok (.goto 4, 3) := by decide +kernel
theorem d8_22 : decode method_5_code 22 = .ok (.ireturn, 1) := by decide +kernel
theorem d8_6 : decode method_5_code 6 = .ok (.aload_n 0, 1) := by decide +kernel
theorem d8_7 : decode method_5_code 7 = .ok (.iload_n 1, 1) := by decide +kernel
theorem d8_8 : decode method_5_code 8 = .ok (.baload, 1) := by decide +kernel
theorem d8_9 : decode method_5_code 9 = .ok (.lload_n 2, 1) := by decide +kernel
theorem d8_10 : decode method_5_code 10 = .ok (.iload_n 1, 1) := by decide +kernel
theorem d8_11 : decode method_5_code 11 = .ok (.invokestatic 28, 3) := by decide +kernel
theorem d8_14 : decode method_5_code 14 = .ok (.if_icmp .ne 7, 3) := by decide +kernel
set_option maxRecDepth 65536 in
set_option maxHeartbeats 40000000 in
theorem rm6 (l : Launch) (Z : State) (a0 : Array Value) (hw : ∀ d ∈ tables_1, d.before a0 Z = true) (a1 : Addr) (k : Nat) (pv : Int64) (n : Int32) (h0 : Heap) (n0 : Nat) (hk : k < 8) (F : OArr Z h0 a1 .byte n.toNatClampNeg (own_F pv)) (hn : 0 ≤ n.toInt) :
    OMeets l Z (⟨"com/example/libidem/libidem/FingerprintOfSha256PinLaw", "at", "([BIJ)Z"⟩ : MethodName) [] method_5_code 4 (some .boolean) ({ frames := 1, cells := 0, slots := 0, locals := 15 } : Room) #[(.ref a1), (.int (Int32.ofNat k)), (.long pv)] h0 n0 (fun v h => v = some (.int 1) ∧ h0 = h) := by
  refine o_enter (Z := Z) (plainFor_of_name pn_com_example_libidem_libidem_FingerprintOfSha256PinLaw) ?_
  intro p e s m below meth c T0 X0
  refine OFin.cast (g' := (mkF m 0 #[.val (.ref a1), .val (.int (Int32.ofNat k)), .val (.long pv), .second] [])) (by first | rfl | simp [entryFrame, mkF, argsToLocals, Value.category]) ?_
  obtain ⟨cl, A, S, H⟩ := id F
  obtain ⟨ek, ek2⟩ := own_lit k hk
  have e0 : (0 : Int32).toInt = 0 := by decide
  have en := o_nat hn
  refine X0.step (fun hA hx hq t k => XS.iloadN hA hx rfl (hb hq d8_0) rfl k) ?_
  show OFin _ _ _ _ _ _ _ _ T0 (mkF m 1 #[.val (.ref a1), .val (.int (Int32.ofNat k)), .val (.long pv), .second] [(.int (Int32.ofNat k))])
  refine X0.step (fun hA hx hq t k => XS.aloadN hA hx rfl (hb hq d8_1) rfl rfl k) ?_
  show OFin _ _ _ _ _ _ _ _ T0 (mkF m 2 #[.val (.ref a1), .val (.int (Int32.ofNat k)), .val (.long pv), .second] [(.ref a1), (.int (Int32.ofNat k))])
  refine X0.alen A (n := n) (by rw [S]; exact (back32 (by rw [Int32.lt_iff_toInt_lt, e0]; omega)).1) (g := (mkF m 2 #[.val (.ref a1), .val (.int (Int32.ofNat k)), .val (.long pv), .second] [(.ref a1), (.int (Int32.ofNat k))])) rfl rfl d8_2 ?_
  show OFin _ _ _ _ _ _ _ _ T0 (mkF m 3 #[.val (.ref a1), .val (.int (Int32.ofNat k)), .val (.long pv), .second] [(.int n), (.int (Int32.ofNat k))])
  by_cases k1 : (Int32.ofNat k) < n
  · refine X0.step (fun hA hx hq t k => XS.icmpNo hA hx rfl (hb hq d8_3) rfl (tlt (k1)).2.1 k) ?_
    show OFin _ _ _ _ _ _ _ _ T0 (mkF m 6 #[.val (.ref a1), .val (.int (Int32.ofNat k)), .val (.long pv), .second] [])
    refine X0.step (fun hA hx hq t k => XS.aloadN hA hx rfl (hb hq d8_6) rfl rfl k) ?_
    show OFin _ _ _ _ _ _ _ _ T0 (mkF m 7 #[.val (.ref a1), .val (.int (Int32.ofNat k)), .val (.long pv), .second] [(.ref a1)])
    refine X0.step (fun hA hx hq t k => XS.iloadN hA hx rfl (hb hq d8_7) rfl k) ?_
    show OFin _ _ _ _ _ _ _ _ T0 (mkF m 8 #[.val (.ref a1), .val (.int (Int32.ofNat k)), .val (.long pv), .second] [(.int (Int32.ofNat k)), (.ref a1)])
    have kN : k < n.toNatClampNeg := by rw [Int32.lt_iff_toInt_lt] at k1; omega
    refine X0.aload0 A (v := (.int (nar .byte (own_b pv (Int32.ofNat k))))) (o_in S (by omega) (by omega)) (by rw [ek2]; exact H k kN) (g := (mkF m 8 #[.val (.ref a1), .val (.int (Int32.ofNat k)), .val (.long pv), .second] [(.int (Int32.ofNat k)), (.ref a1)])) rfl rfl (Or.inr (Or.inr (Or.inr (Or.inl ⟨rfl, rfl⟩)))) d8_8 ?_
    show OFin _ _ _ _ _ _ _ _ T0 (mkF m 9 #[.val (.ref a1), .val (.int (Int32.ofNat k)), .val (.long pv), .second] [(.int (nar .byte (own_b pv (Int32.ofNat k))))])
    refine X0.step (fun hA hx hq t k => XS.lloadN hA hx rfl (hb hq d8_9) rfl k) ?_
    show OFin _ _ _ _ _ _ _ _ T0 (mkF m 10 #[.val (.ref a1), .val (.int (Int32.ofNat k)), .val (.long pv), .second] [(.long pv), (.int (nar .byte (own_b pv (Int32.ofNat k))))])
    refine X0.step (fun hA hx hq t k => XS.iloadN hA hx rfl (hb hq d8_10) rfl k) ?_
    show OFin _ _ _ _ _ _ _ _ T0 (mkF m 11 #[.val (.ref a1), .val (.int (Int32.ofNat k)), .val (.long pv), .second] [(.int (Int32.ofNat k)), (.long pv), (.int (nar .byte (own_b pv (Int32.ofNat k))))])
    refine X0.callS (y' := (⟨"com/example/libidem/libidem/FingerprintOfSha256PinLaw", "byteAt", "(JI)B"⟩ : MethodName)) (hw _ (List.mem_of_getElem? (i := 6) rfl)) (hw _ (List.mem_of_getElem? (i := 7) rfl)) (hw _ (List.mem_of_getElem? (i := 4) rfl)) (hw _ (List.mem_of_getElem? (i := 8) rfl)) (by decide) (argsL := [(.long pv), (.int (Int32.ofNat k))]) (rest := [(.int (nar .byte (own_b pv (Int32.ofNat k))))]) (rm1 l Z a0 hw pv (Int32.ofNat k) h0 n0) (g := (mkF m 11 #[.val (.ref a1), .val (.int (Int32.ofNat k)), .val (.long pv), .second] [(.int (Int32.ofNat k)), (.long pv), (.int (nar .byte (own_b pv (Int32.ofNat k))))])) rfl rfl pd_pJIr_B rfl rfl (W := 1) (by show 2 * 0 + _ ≤ _; exact Nat.le_of_eq rfl) d8_11 (by decide) (by decide) (by decide) (by decide) ?_
    intro v1 T1 h1 X1 q1
    obtain ⟨rfl, rfl⟩ := q1
    show OFin _ _ _ _ _ _ _ _ T1 (mkF m 14 #[.val (.ref a1), .val (.int (Int32.ofNat k)), .val (.long pv), .second] [(.int (own_b pv (Int32.ofNat k))), (.int (nar .byte (own_b pv (Int32.ofNat k))))])
    refine X1.step (fun hA hx hq t k => XS.icmpNo hA hx rfl (hb hq d8_14) rfl (teq (own_nar _)).2 k) ?_
    show OFin _ _ _ _ _ _ _ _ T1 (mkF m 17 #[.val (.ref a1), .val (.int (Int32.ofNat k)), .val (.long pv), .second] [])
    refine X1.step (fun hA hx hq t k => XS.iconst hA hx rfl (hb hq d8_17) k) ?_
    show OFin _ _ _ _ _ _ _ _ T1 (mkF m 18 #[.val (.ref a1), .val (.int (Int32.ofNat k)), .val (.long pv), .second] [(.int (1 : Int32))])
    refine X1.step (fun hA hx hq t k => XS.goto hA hx rfl (pc0 := 18) (pc' := 22) rfl (hb hq d8_18) (by decide) (by decide) k) ?_
    show OFin _ _ _ _ _ _ _ _ T1 (mkF m 22 #[.val (.ref a1), .val (.int (Int32.ofNat k)), .val (.long pv), .second] [(.int (1 : Int32))])
    exact X1.retN (by simp) d8_22 (by decide) (by decide) (⟨rfl, rfl⟩)
  · refine X0.step (fun hA hx hq t k => XS.icmpYes hA hx rfl (pc0 := 3) (pc' := 17) rfl (hb hq d8_3) rfl (flt (k1)).2.1 (by decide) (by decide) k) ?_
    show OFin _ _ _ _ _ _ _ _ T0 (mkF m 17 #[.val (.ref a1), .val (.int (Int32.ofNat k)), .val (.long pv), .second] [])
    refine X0.step (fun hA hx hq t k => XS.iconst hA hx rfl (hb hq d8_17) k) ?_
    show OFin _ _ _ _ _ _ _ _ T0 (mkF m 18 #[.val (.ref a1), .val (.int (Int32.ofNat k)), .val (.long pv), .second] [(.int (1 : Int32))])
    refine X0.step (fun hA hx hq t k => XS.goto hA hx rfl (pc0 := 18) (pc' := 22) rfl (hb hq d8_18) (by decide) (by decide) k) ?_
    show OFin _ _ _ _ _ _ _ _ T0 (mkF m 22 #[.val (.ref a1), .val (.int (Int32.ofNat k)), .val (.long pv), .second] [(.int (1 : Int32))])
    exact X0.retN (by simp) d8_22 (by decide) (by decide) (⟨rfl, rfl⟩)
theorem d7_0 : decode method_6_code 0 = .ok (.aload_n 0, 1) := by decide +kernel
theorem d7_1 : decode method_6_code 1 = .ok (.ifnull 87, 3) := by decide +kernel
theorem d7_4 : decode method_6_code 4 = .ok (.aload_n 0, 1) := by decide +kernel
theorem d7_5 : decode method_6_code 5 = .ok (.arraylength, 1) := by decide +kernel
theorem d7_6 : decode method_6_code 6 = .ok (.iload_n 1, 1) := by decide +kernel
theorem d7_7 : decode method_6_code 7 = .ok (.if_icmp .ne 81, 3) := by decide +kernel
theorem d7_10 : decode method_6_code 10 = .ok (.aload_n 0, 1) := by decide +kernel
theorem d7_11 : decode method_6_code 11 = .ok (.iconst 0, 1) := by decide +kernel
theorem d7_12 : decode method_6_code 12 = .ok (.lload_n 2, 1) := by decide +kernel
theorem d7_13 : decode method_6_code 13 = .ok (.invokestatic 32, 3) := by decide +kernel
theorem pd_pA_BIJr_Z : parseMethodDescriptor "([BIJ)Z" = some ⟨[(.array .byte), .int, .long], some .boolean⟩ := by decide +kernel
theorem d7_16 : decode method_6_code 16 = .ok (.ifCond .eq 72, 3) := by decide +kernel
theorem d7_19 : decode method_6_code 19 = .ok (.aload_n 0, 1) := by decide +kernel
theorem d7_20 : decode method_6_code 20 = .ok (.iconst 1, 1) := by decide +kernel
theorem d7_21 : decode method_6_code 21 = .ok (.lload_n 2, 1) := by decide +kernel
theorem d7_22 : decode method_6_code 22 = .ok (.invokestatic 32, 3) := by decide +kernel
theorem d7_25 : decode method_6_code 25 = .ok (.ifCond .eq 63, 3) := by decide +kernel
theorem d7_28 : decode method_6_code 28 = .ok (.aload_n 0, 1) := by decide +kernel
theorem d7_29 : decode method_6_code 29 = .ok (.iconst 2, 1) := by decide +kernel
theorem d7_30 : decode method_6_code 30 = .ok (.lload_n 2, 1) := by decide +kernel
theorem d7_31 : decode method_6_code 31 = .ok (.invokestatic 32, 3) := by decide +kernel
theorem d7_34 : decode method_6_code 34 = .ok (.ifCond .eq 54, 3) := by decide +kernel
theorem d7_37 : decode method_6_code 37 = .ok (.aload_n 0, 1) := by decide +kernel
theorem d7_38 : decode method_6_code 38 = .ok (.iconst 3, 1) := by decide +kernel
theorem d7_39 : decode method_6_code 39 = .ok (.lload_n 2, 1) := by decide +kernel
theorem d7_40 : decode method_6_code 40 = .ok (.invokestatic 32, 3) := by decide +kernel
theorem d7_43 : decode method_6_code 43 = .ok (.ifCond .eq 45, 3) := by decide +kernel
theorem d7_46 : decode method_6_code 46 = .ok (.aload_n 0, 1) := by decide +kernel
theorem d7_47 : decode method_6_code 47 = .ok (.iconst 4, 1) := by decide +kernel
theorem d7_48 : decode method_6_code 48 = .ok (.lload_n 2, 1) := by decide +kernel
theorem d7_49 : decode method_6_code 49 = .ok (.invokestatic 32, 3) := by decide +kernel
theorem d7_52 : decode method_6_code 52 = .ok (.ifCond .eq 36, 3) := by decide +kernel
theorem d7_55 : decode method_6_code 55 = .ok (.aload_n 0, 1) := by decide +kernel
theorem d7_56 : decode method_6_code 56 = .ok (.iconst 5, 1) := by decide +kernel
theorem d7_57 : decode method_6_code 57 = .ok (.lload_n 2, 1) := by decide +kernel
theorem d7_58 : decode method_6_code 58 = .ok (.invokestatic 32, 3) := by decide +kernel
theorem d7_61 : decode method_6_code 61 = .ok (.ifCond .eq 27, 3) := by decide +kernel
theorem d7_64 : decode method_6_code 64 = .ok (.aload_n 0, 1) := by decide +kernel
theorem d7_65 : decode method_6_code 65 = .ok (.bipush 6, 2) := by decide +kernel
theorem d7_67 : decode method_6_code 67 = .ok (.lload_n 2, 1) := by decide +kernel
theorem d7_68 : decode method_6_code 68 = .ok (.invokestatic 32, 3) := by decide +kernel
theorem d7_71 : decode method_6_code 71 = .ok (.ifCond .eq 17, 3) := by decide +kernel
theorem d7_74 : decode method_6_code 74 = .ok (.aload_n 0, 1) := by decide +kernel
theorem d7_75 : decode method_6_code 75 = .ok (.bipush 7, 2) := by decide +kernel
theorem d7_77 : decode method_6_code 77 = .ok (.lload_n 2, 1) := by decide +kernel
theorem d7_78 : decode method_6_code 78 = .ok (.invokestatic 32, 3) := by decide +kernel
theorem d7_81 : decode method_6_code 81 = .ok (.ifCond .eq 7, 3) := by decide +kernel
theorem d7_84 : decode method_6_code 84 = .ok (.iconst 1, 1) := by decide +kernel
theorem d7_85 : decode method_6_code 85 = .ok (.goto 4, 3) := by decide +kernel
theorem d7_89 : decode method_6_code 89 = .ok (.ireturn, 1) := by decide +kernel
set_option maxRecDepth 65536 in
set_option maxHeartbeats 40000000 in
theorem rm7 (l : Launch) (Z : State) (a0 : Array Value) (hw : ∀ d ∈ tables_1, d.before a0 Z = true) (a1 : Addr) (n : Int32) (pv : Int64) (h0 : Heap) (n0 : Nat) (F : OArr Z h0 a1 .byte n.toNatClampNeg (own_F pv)) (hn : 0 ≤ n.toInt) :
    OMeets l Z (⟨"com/example/libidem/libidem/FingerprintOfSha256PinLaw", "holds", "([BIJ)Z"⟩ : MethodName) [] method_6_code 4 (some .boolean) ({ frames := 2, cells := 0, slots := 0, locals := 30 } : Room) #[(.ref a1), (.int n), (.long pv)] h0 n0 (fun v h => v = some (.int 1) ∧ h0 = h) := by
  refine o_enter (Z := Z) (plainFor_of_name pn_com_example_libidem_libidem_FingerprintOfSha256PinLaw) ?_
  intro p e s m below meth c T0 X0
  refine OFin.cast (g' := (mkF m 0 #[.val (.ref a1), .val (.int n), .val (.long pv), .second] [])) (by first | rfl | simp [entryFrame, mkF, argsToLocals, Value.category]) ?_
  obtain ⟨cl, A, S, H⟩ := id F
  have e0 : (0 : Int32).toInt = 0 := by decide
  refine X0.step (fun hA hx hq t k => XS.aloadN hA hx rfl (hb hq d7_0) rfl rfl k) ?_
  show OFin _ _ _ _ _ _ _ _ T0 (mkF m 1 #[.val (.ref a1), .val (.int n), .val (.long pv), .second] [(.ref a1)])
  refine X0.step (fun hA hx hq t k => XS.ifnullNo hA hx rfl (hb hq d7_1) rfl k) ?_
  show OFin _ _ _ _ _ _ _ _ T0 (mkF m 4 #[.val (.ref a1), .val (.int n), .val (.long pv), .second] [])
  refine X0.step (fun hA hx hq t k => XS.aloadN hA hx rfl (hb hq d7_4) rfl rfl k) ?_
  show OFin _ _ _ _ _ _ _ _ T0 (mkF m 5 #[.val (.ref a1), .val (.int n), .val (.long pv), .second] [(.ref a1)])
  refine X0.alen A (n := n) (by rw [S]; exact (back32 (by rw [Int32.lt_iff_toInt_lt, e0]; omega)).1) (g := (mkF m 5 #[.val (.ref a1), .val (.int n), .val (.long pv), .second] [(.ref a1)])) rfl rfl d7_5 ?_
  show OFin _ _ _ _ _ _ _ _ T0 (mkF m 6 #[.val (.ref a1), .val (.int n), .val (.long pv), .second] [(.int n)])
  refine X0.step (fun hA hx hq t k => XS.iloadN hA hx rfl (hb hq d7_6) rfl k) ?_
  show OFin _ _ _ _ _ _ _ _ T0 (mkF m 7 #[.val (.ref a1), .val (.int n), .val (.long pv), .second] [(.int n), (.int n)])
  refine X0.step (fun hA hx hq t k => XS.icmpNo hA hx rfl (hb hq d7_7) rfl (teq ((rfl : n = n))).2 k) ?_
  show OFin _ _ _ _ _ _ _ _ T0 (mkF m 10 #[.val (.ref a1), .val (.int n), .val (.long pv), .second] [])
  refine X0.step (fun hA hx hq t k => XS.aloadN hA hx rfl (hb hq d7_10) rfl rfl k) ?_
  show OFin _ _ _ _ _ _ _ _ T0 (mkF m 11 #[.val (.ref a1), .val (.int n), .val (.long pv), .second] [(.ref a1)])
  refine X0.step (fun hA hx hq t k => XS.iconst hA hx rfl (hb hq d7_11) k) ?_
  show OFin _ _ _ _ _ _ _ _ T0 (mkF m 12 #[.val (.ref a1), .val (.int n), .val (.long pv), .second] [(.int (0 : Int32)), (.ref a1)])
  refine X0.step (fun hA hx hq t k => XS.lloadN hA hx rfl (hb hq d7_12) rfl k) ?_
  show OFin _ _ _ _ _ _ _ _ T0 (mkF m 13 #[.val (.ref a1), .val (.int n), .val (.long pv), .second] [(.long pv), (.int (0 : Int32)), (.ref a1)])
  refine X0.callS (y' := (⟨"com/example/libidem/libidem/FingerprintOfSha256PinLaw", "at", "([BIJ)Z"⟩ : MethodName)) (hw _ (List.mem_of_getElem? (i := 40) rfl)) (hw _ (List.mem_of_getElem? (i := 41) rfl)) (hw _ (List.mem_of_getElem? (i := 4) rfl)) (hw _ (List.mem_of_getElem? (i := 42) rfl)) (by decide) (argsL := [(.ref a1), (.int (0 : Int32)), (.long pv)]) (rest := []) (rm6 l Z a0 hw a1 0 pv n h0 n0 (by decide) F hn) (g := (mkF m 13 #[.val (.ref a1), .val (.int n), .val (.long pv), .second] [(.long pv), (.int (0 : Int32)), (.ref a1)])) rfl rfl pd_pA_BIJr_Z rfl rfl (W := 0) (by show 2 * 0 + _ ≤ _; exact Nat.le_of_eq rfl) d7_13 (by decide) (by decide) (by decide) (by decide) ?_
  intro v1 T1 h1 X1 q1
  obtain ⟨rfl, rfl⟩ := q1
  show OFin _ _ _ _ _ _ _ _ T1 (mkF m 16 #[.val (.ref a1), .val (.int n), .val (.long pv), .second] [(.int (1 : Int32))])
  refine X1.step (fun hA hx hq t k => XS.ifNo hA hx rfl (hb hq d7_16) rfl ((if0 _ _).trans (feq ((by decide))).1) k) ?_
  show OFin _ _ _ _ _ _ _ _ T1 (mkF m 19 #[.val (.ref a1), .val (.int n), .val (.long pv), .second] [])
  refine X1.step (fun hA hx hq t k => XS.aloadN hA hx rfl (hb hq d7_19) rfl rfl k) ?_
  show OFin _ _ _ _ _ _ _ _ T1 (mkF m 20 #[.val (.ref a1), .val (.int n), .val (.long pv), .second] [(.ref a1)])
  refine X1.step (fun hA hx hq t k => XS.iconst hA hx rfl (hb hq d7_20) k) ?_
  show OFin _ _ _ _ _ _ _ _ T1 (mkF m 21 #[.val (.ref a1), .val (.int n), .val (.long pv), .second] [(.int (1 : Int32)), (.ref a1)])
  refine X1.step (fun hA hx hq t k => XS.lloadN hA hx rfl (hb hq d7_21) rfl k) ?_
  show OFin _ _ _ _ _ _ _ _ T1 (mkF m 22 #[.val (.ref a1), .val (.int n), .val (.long pv), .second] [(.long pv), (.int (1 : Int32)), (.ref a1)])
  refine X1.callS (y' := (⟨"com/example/libidem/libidem/FingerprintOfSha256PinLaw", "at", "([BIJ)Z"⟩ : MethodName)) (hw _ (List.mem_of_getElem? (i := 40) rfl)) (hw _ (List.mem_of_getElem? (i := 41) rfl)) (hw _ (List.mem_of_getElem? (i := 4) rfl)) (hw _ (List.mem_of_getElem? (i := 42) rfl)) (by decide) (argsL := [(.ref a1), (.int (1 : Int32)), (.long pv)]) (rest := []) (rm6 l Z a0 hw a1 1 pv n h0 n0 (by decide) F hn) (g := (mkF m 22 #[.val (.ref a1), .val (.int n), .val (.long pv), .second] [(.long pv), (.int (1 : Int32)), (.ref a1)])) rfl rfl pd_pA_BIJr_Z rfl rfl (W := 0) (by show 2 * 0 + _ ≤ _; exact Nat.le_of_eq rfl) d7_22 (by decide) (by decide) (by decide) (by decide) ?_
  intro v2 T2 h2 X2 q2
  obtain ⟨rfl, rfl⟩ := q2
  show OFin _ _ _ _ _ _ _ _ T2 (mkF m 25 #[.val (.ref a1), .val (.int n), .val (.long pv), .second] [(.int (1 : Int32))])
  refine X2.step (fun hA hx hq t k => XS.ifNo hA hx rfl (hb hq d7_25) rfl ((if0 _ _).trans (feq ((by decide))).1) k) ?_
  show OFin _ _ _ _ _ _ _ _ T2 (mkF m 28 #[.val (.ref a1), .val (.int n), .val (.long pv), .second] [])
  refine X2.step (fun hA hx hq t k => XS.aloadN hA hx rfl (hb hq d7_28) rfl rfl k) ?_
  show OFin _ _ _ _ _ _ _ _ T2 (mkF m 29 #[.val (.ref a1), .val (.int n), .val (.long pv), .second] [(.ref a1)])
  refine X2.step (fun hA hx hq t k => XS.iconst hA hx rfl (hb hq d7_29) k) ?_
  show OFin _ _ _ _ _ _ _ _ T2 (mkF m 30 #[.val (.ref a1), .val (.int n), .val (.long pv), .second] [(.int (2 : Int32)), (.ref a1)])
  refine X2.step (fun hA hx hq t k => XS.lloadN hA hx rfl (hb hq d7_30) rfl k) ?_
  show OFin _ _ _ _ _ _ _ _ T2 (mkF m 31 #[.val (.ref a1), .val (.int n), .val (.long pv), .second] [(.long pv), (.int (2 : Int32)), (.ref a1)])
  refine X2.callS (y' := (⟨"com/example/libidem/libidem/FingerprintOfSha256PinLaw", "at", "([BIJ)Z"⟩ : MethodName)) (hw _ (List.mem_of_getElem? (i := 40) rfl)) (hw _ (List.mem_of_getElem? (i := 41) rfl)) (hw _ (List.mem_of_getElem? (i := 4) rfl)) (hw _ (List.mem_of_getElem? (i := 42) rfl)) (by decide) (argsL := [(.ref a1), (.int (2 : Int32)), (.long pv)]) (rest := []) (rm6 l Z a0 hw a1 2 pv n h0 n0 (by decide) F hn) (g := (mkF m 31 #[.val (.ref a1), .val (.int n), .val (.long pv), .second] [(.long pv), (.int (2 : Int32)), (.ref a1)])) rfl rfl pd_pA_BIJr_Z rfl rfl (W := 0) (by show 2 * 0 + _ ≤ _; exact Nat.le_of_eq rfl) d7_31 (by decide) (by decide) (by decide) (by decide) ?_
  intro v3 T3 h3 X3 q3
  obtain ⟨rfl, rfl⟩ := q3
  show OFin _ _ _ _ _ _ _ _ T3 (mkF m 34 #[.val (.ref a1), .val (.int n), .val (.long pv), .second] [(.int (1 : Int32))])
  refine X3.step (fun hA hx hq t k => XS.ifNo hA hx rfl (hb hq d7_34) rfl ((if0 _ _).trans (feq ((by decide))).1) k) ?_
  show OFin _ _ _ _ _ _ _ _ T3 (mkF m 37 #[.val (.ref a1), .val (.int n), .val (.long pv), .second] [])
  refine X3.step (fun hA hx hq t k => XS.aloadN hA hx rfl (hb hq d7_37) rfl rfl k) ?_
  show OFin _ _ _ _ _ _ _ _ T3 (mkF m 38 #[.val (.ref a1), .val (.int n), .val (.long pv), .second] [(.ref a1)])
  refine X3.step (fun hA hx hq t k => XS.iconst hA hx rfl (hb hq d7_38) k) ?_
  show OFin _ _ _ _ _ _ _ _ T3 (mkF m 39 #[.val (.ref a1), .val (.int n), .val (.long pv), .second] [(.int (3 : Int32)), (.ref a1)])
  refine X3.step (fun hA hx hq t k => XS.lloadN hA hx rfl (hb hq d7_39) rfl k) ?_
  show OFin _ _ _ _ _ _ _ _ T3 (mkF m 40 #[.val (.ref a1), .val (.int n), .val (.long pv), .second] [(.long pv), (.int (3 : Int32)), (.ref a1)])
  refine X3.callS (y' := (⟨"com/example/libidem/libidem/FingerprintOfSha256PinLaw", "at", "([BIJ)Z"⟩ : MethodName)) (hw _ (List.mem_of_getElem? (i := 40) rfl)) (hw _ (List.mem_of_getElem? (i := 41) rfl)) (hw _ (List.mem_of_getElem? (i := 4) rfl)) (hw _ (List.mem_of_getElem? (i := 42) rfl)) (by decide) (argsL := [(.ref a1), (.int (3 : Int32)), (.long pv)]) (rest := []) (rm6 l Z a0 hw a1 3 pv n h0 n0 (by decide) F hn) (g := (mkF m 40 #[.val (.ref a1), .val (.int n), .val (.long pv), .second] [(.long pv), (.int (3 : Int32)), (.ref a1)])) rfl rfl pd_pA_BIJr_Z rfl rfl (W := 0) (by show 2 * 0 + _ ≤ _; exact Nat.le_of_eq rfl) d7_40 (by decide) (by decide) (by decide) (by decide) ?_
  intro v4 T4 h4 X4 q4
  obtain ⟨rfl, rfl⟩ := q4
  show OFin _ _ _ _ _ _ _ _ T4 (mkF m 43 #[.val (.ref a1), .val (.int n), .val (.long pv), .second] [(.int (1 : Int32))])
  refine X4.step (fun hA hx hq t k => XS.ifNo hA hx rfl (hb hq d7_43) rfl ((if0 _ _).trans (feq ((by decide))).1) k) ?_
  show OFin _ _ _ _ _ _ _ _ T4 (mkF m 46 #[.val (.ref a1), .val (.int n), .val (.long pv), .second] [])
  refine X4.step (fun hA hx hq t k => XS.aloadN hA hx rfl (hb hq d7_46) rfl rfl k) ?_
  show OFin _ _ _ _ _ _ _ _ T4 (mkF m 47 #[.val (.ref a1), .val (.int n), .val (.long pv), .second] [(.ref a1)])
  refine X4.step (fun hA hx hq t k => XS.iconst hA hx rfl (hb hq d7_47) k) ?_
  show OFin _ _ _ _ _ _ _ _ T4 (mkF m 48 #[.val (.ref a1), .val (.int n), .val (.long pv), .second] [(.int (4 : Int32)), (.ref a1)])
  refine X4.step (fun hA hx hq t k => XS.lloadN hA hx rfl (hb hq d7_48) rfl k) ?_
  show OFin _ _ _ _ _ _ _ _ T4 (mkF m 49 #[.val (.ref a1), .val (.int n), .val (.long pv), .second] [(.long pv), (.int (4 : Int32)), (.ref a1)])
  refine X4.callS (y' := (⟨"com/example/libidem/libidem/FingerprintOfSha256PinLaw", "at", "([BIJ)Z"⟩ : MethodName)) (hw _ (List.mem_of_getElem? (i := 40) rfl)) (hw _ (List.mem_of_getElem? (i := 41) rfl)) (hw _ (List.mem_of_getElem? (i := 4) rfl)) (hw _ (List.mem_of_getElem? (i := 42) rfl)) (by decide) (argsL := [(.ref a1), (.int (4 : Int32)), (.long pv)]) (rest := []) (rm6 l Z a0 hw a1 4 pv n h0 n0 (by decide) F hn) (g := (mkF m 49 #[.val (.ref a1), .val (.int n), .val (.long pv), .second] [(.long pv), (.int (4 : Int32)), (.ref a1)])) rfl rfl pd_pA_BIJr_Z rfl rfl (W := 0) (by show 2 * 0 + _ ≤ _; exact Nat.le_of_eq rfl) d7_49 (by decide) (by decide) (by decide) (by decide) ?_
  intro v5 T5 h5 X5 q5
  obtain ⟨rfl, rfl⟩ := q5
  show OFin _ _ _ _ _ _ _ _ T5 (mkF m 52 #[.val (.ref a1), .val (.int n), .val (.long pv), .second] [(.int (1 : Int32))])
  refine X5.step (fun hA hx hq t k => XS.ifNo hA hx rfl (hb hq d7_52) rfl ((if0 _ _).trans (feq ((by decide))).1) k) ?_
  show OFin _ _ _ _ _ _ _ _ T5 (mkF m 55 #[.val (.ref a1), .val (.int n), .val (.long pv), .second] [])
  refine X5.step (fun hA hx hq t k => XS.aloadN hA hx rfl (hb hq d7_55) rfl rfl k) ?_
  show OFin _ _ _ _ _ _ _ _ T5 (mkF m 56 #[.val (.ref a1), .val (.int n), .val (.long pv), .second] [(.ref a1)])
  refine X5.step (fun hA hx hq t k => XS.iconst hA hx rfl (hb hq d7_56) k) ?_
  show OFin _ _ _ _ _ _ _ _ T5 (mkF m 57 #[.val (.ref a1), .val (.int n), .val (.long pv), .second] [(.int (5 : Int32)), (.ref a1)])
  refine X5.step (fun hA hx hq t k => XS.lloadN hA hx rfl (hb hq d7_57) rfl k) ?_
  show OFin _ _ _ _ _ _ _ _ T5 (mkF m 58 #[.val (.ref a1), .val (.int n), .val (.long pv), .second] [(.long pv), (.int (5 : Int32)), (.ref a1)])
  refine X5.callS (y' := (⟨"com/example/libidem/libidem/FingerprintOfSha256PinLaw", "at", "([BIJ)Z"⟩ : MethodName)) (hw _ (List.mem_of_getElem? (i := 40) rfl)) (hw _ (List.mem_of_getElem? (i := 41) rfl)) (hw _ (List.mem_of_getElem? (i := 4) rfl)) (hw _ (List.mem_of_getElem? (i := 42) rfl)) (by decide) (argsL := [(.ref a1), (.int (5 : Int32)), (.long pv)]) (rest := []) (rm6 l Z a0 hw a1 5 pv n h0 n0 (by decide) F hn) (g := (mkF m 58 #[.val (.ref a1), .val (.int n), .val (.long pv), .second] [(.long pv), (.int (5 : Int32)), (.ref a1)])) rfl rfl pd_pA_BIJr_Z rfl rfl (W := 0) (by show 2 * 0 + _ ≤ _; exact Nat.le_of_eq rfl) d7_58 (by decide) (by decide) (by decide) (by decide) ?_
  intro v6 T6 h6 X6 q6
  obtain ⟨rfl, rfl⟩ := q6
  show OFin _ _ _ _ _ _ _ _ T6 (mkF m 61 #[.val (.ref a1), .val (.int n), .val (.long pv), .second] [(.int (1 : Int32))])
  refine X6.step (fun hA hx hq t k => XS.ifNo hA hx rfl (hb hq d7_61) rfl ((if0 _ _).trans (feq ((by decide))).1) k) ?_
  show OFin _ _ _ _ _ _ _ _ T6 (mkF m 64 #[.val (.ref a1), .val (.int n), .val (.long pv), .second] [])
  refine X6.step (fun hA hx hq t k => XS.aloadN hA hx rfl (hb hq d7_64) rfl rfl k) ?_
  show OFin _ _ _ _ _ _ _ _ T6 (mkF m 65 #[.val (.ref a1), .val (.int n), .val (.long pv), .second] [(.ref a1)])
  refine X6.step (fun hA hx hq t k => XS.bipush hA hx rfl (hb hq d7_65) k) ?_
  show OFin _ _ _ _ _ _ _ _ T6 (mkF m 67 #[.val (.ref a1), .val (.int n), .val (.long pv), .second] [(.int (6 : Int32)), (.ref a1)])
  refine X6.step (fun hA hx hq t k => XS.lloadN hA hx rfl (hb hq d7_67) rfl k) ?_
  show OFin _ _ _ _ _ _ _ _ T6 (mkF m 68 #[.val (.ref a1), .val (.int n), .val (.long pv), .second] [(.long pv), (.int (6 : Int32)), (.ref a1)])
  refine X6.callS (y' := (⟨"com/example/libidem/libidem/FingerprintOfSha256PinLaw", "at", "([BIJ)Z"⟩ : MethodName)) (hw _ (List.mem_of_getElem? (i := 40) rfl)) (hw _ (List.mem_of_getElem? (i := 41) rfl)) (hw _ (List.mem_of_getElem? (i := 4) rfl)) (hw _ (List.mem_of_getElem? (i := 42) rfl)) (by decide) (argsL := [(.ref a1), (.int (6 : Int32)), (.long pv)]) (rest := []) (rm6 l Z a0 hw a1 6 pv n h0 n0 (by decide) F hn) (g := (mkF m 68 #[.val (.ref a1), .val (.int n), .val (.long pv), .second] [(.long pv), (.int (6 : Int32)), (.ref a1)])) rfl rfl pd_pA_BIJr_Z rfl rfl (W := 0) (by show 2 * 0 + _ ≤ _; exact Nat.le_of_eq rfl) d7_68 (by decide) (by decide) (by decide) (by decide) ?_
  intro v7 T7 h7 X7 q7
  obtain ⟨rfl, rfl⟩ := q7
  show OFin _ _ _ _ _ _ _ _ T7 (mkF m 71 #[.val (.ref a1), .val (.int n), .val (.long pv), .second] [(.int (1 : Int32))])
  refine X7.step (fun hA hx hq t k => XS.ifNo hA hx rfl (hb hq d7_71) rfl ((if0 _ _).trans (feq ((by decide))).1) k) ?_
  show OFin _ _ _ _ _ _ _ _ T7 (mkF m 74 #[.val (.ref a1), .val (.int n), .val (.long pv), .second] [])
  refine X7.step (fun hA hx hq t k => XS.aloadN hA hx rfl (hb hq d7_74) rfl rfl k) ?_
  show OFin _ _ _ _ _ _ _ _ T7 (mkF m 75 #[.val (.ref a1), .val (.int n), .val (.long pv), .second] [(.ref a1)])
  refine X7.step (fun hA hx hq t k => XS.bipush hA hx rfl (hb hq d7_75) k) ?_
  show OFin _ _ _ _ _ _ _ _ T7 (mkF m 77 #[.val (.ref a1), .val (.int n), .val (.long pv), .second] [(.int (7 : Int32)), (.ref a1)])
  refine X7.step (fun hA hx hq t k => XS.lloadN hA hx rfl (hb hq d7_77) rfl k) ?_
  show OFin _ _ _ _ _ _ _ _ T7 (mkF m 78 #[.val (.ref a1), .val (.int n), .val (.long pv), .second] [(.long pv), (.int (7 : Int32)), (.ref a1)])
  refine X7.callS (y' := (⟨"com/example/libidem/libidem/FingerprintOfSha256PinLaw", "at", "([BIJ)Z"⟩ : MethodName)) (hw _ (List.mem_of_getElem? (i := 40) rfl)) (hw _ (List.mem_of_getElem? (i := 41) rfl)) (hw _ (List.mem_of_getElem? (i := 4) rfl)) (hw _ (List.mem_of_getElem? (i := 42) rfl)) (by decide) (argsL := [(.ref a1), (.int (7 : Int32)), (.long pv)]) (rest := []) (rm6 l Z a0 hw a1 7 pv n h0 n0 (by decide) F hn) (g := (mkF m 78 #[.val (.ref a1), .val (.int n), .val (.long pv), .second] [(.long pv), (.int (7 : Int32)), (.ref a1)])) rfl rfl pd_pA_BIJr_Z rfl rfl (W := 0) (by show 2 * 0 + _ ≤ _; exact Nat.le_of_eq rfl) d7_78 (by decide) (by decide) (by decide) (by decide) ?_
  intro v8 T8 h8 X8 q8
  obtain ⟨rfl, rfl⟩ := q8
  show OFin _ _ _ _ _ _ _ _ T8 (mkF m 81 #[.val (.ref a1), .val (.int n), .val (.long pv), .second] [(.int (1 : Int32))])
  refine X8.step (fun hA hx hq t k => XS.ifNo hA hx rfl (hb hq d7_81) rfl ((if0 _ _).trans (feq ((by decide))).1) k) ?_
  show OFin _ _ _ _ _ _ _ _ T8 (mkF m 84 #[.val (.ref a1), .val (.int n), .val (.long pv), .second] [])
  refine X8.step (fun hA hx hq t k => XS.iconst hA hx rfl (hb hq d7_84) k) ?_
  show OFin _ _ _ _ _ _ _ _ T8 (mkF m 85 #[.val (.ref a1), .val (.int n), .val (.long pv), .second] [(.int (1 : Int32))])
  refine X8.step (fun hA hx hq t k => XS.goto hA hx rfl (pc0 := 85) (pc' := 89) rfl (hb hq d7_85) (by decide) (by decide) k) ?_
  show OFin _ _ _ _ _ _ _ _ T8 (mkF m 89 #[.val (.ref a1), .val (.int n), .val (.long pv), .second] [(.int (1 : Int32))])
  exact X8.retN (by simp) d7_89 (by decide) (by decide) (⟨rfl, rfl⟩)
theorem pd_pA_BIJr_V : parseMethodDescriptor "([BIJ)V" = some ⟨[(.array .byte), .int, .long], none⟩ := by decide +kernel
theorem pd_pA_Br_Lcom_example_libidem_libidem_Fingerprint_ : parseMethodDescriptor "([B)Lcom/example/libidem/libidem/Fingerprint;" = some ⟨[(.array .byte)], some (.object "com/example/libidem/libidem/Fingerprint")⟩ := by decide +kernel
theorem pd_pr_A_B : parseMethodDescriptor "()[B" = some ⟨[], some (.array .byte)⟩ := by decide +kernel
set_option maxRecDepth 65536 in
set_option maxHeartbeats 40000000 in
theorem rm0 (l : Launch) (Z : State) (a0 : Array Value) (hw : ∀ d ∈ tables_1, d.before a0 Z = true) (ws : List Jvm.Cond) (pv : Int64) (p1 p2 p3 : Int32) (h0 : Heap) (n0 : Nat) (Z0 : n0 ≤ h0.size) :
    OMeets l Z x ws code maxLocals ret room_1 #[(.long pv), (.int p1), (.int p2), (.int p3)] h0 n0 (fun v h => v = some (.int 1)) := by
  refine o_enter (Z := Z) (plainFor_of_name pn_com_example_libidem_libidem_FingerprintOfSha256PinLaw) ?_
  intro p e s m below meth c T0 X0
  refine OFin.cast (g' := (mkF m 0 #[.val (.long pv), .second, .val (.int p1), .val (.int p2), .val (.int p3), .unset, .unset, .unset, .unset, .unset, .unset, .unset] [])) (by first | rfl | simp [entryFrame, mkF, argsToLocals, Value.category, maxLocals]) ?_
  have hn := own_len p1
  have e0 : (0 : Int32).toInt = 0 := by decide
  refine X0.step (fun hA hx hq t k => XS.iloadN hA hx rfl (hb hq at_0) rfl k) ?_
  show OFin _ _ _ _ _ _ _ _ T0 (mkF m 1 #[.val (.long pv), .second, .val (.int p1), .val (.int p2), .val (.int p3), .unset, .unset, .unset, .unset, .unset, .unset, .unset] [(.int p1)])
  refine X0.ldcI (hw _ (List.mem_of_getElem? (i := 0) rfl)) (g := (mkF m 1 #[.val (.long pv), .second, .val (.int p1), .val (.int p2), .val (.int p3), .unset, .unset, .unset, .unset, .unset, .unset, .unset] [(.int p1)])) rfl at_1 ?_
  show OFin _ _ _ _ _ _ _ _ T0 (mkF m 3 #[.val (.long pv), .second, .val (.int p1), .val (.int p2), .val (.int p3), .unset, .unset, .unset, .unset, .unset, .unset, .unset] [(.int (2147483647 : Int32)), (.int p1)])
  refine X0.step (fun hA hx hq t k => XS.iand hA hx rfl (hb hq at_3) rfl k) ?_
  show OFin _ _ _ _ _ _ _ _ T0 (mkF m 4 #[.val (.long pv), .second, .val (.int p1), .val (.int p2), .val (.int p3), .unset, .unset, .unset, .unset, .unset, .unset, .unset] [(.int (p1 &&& (2147483647 : Int32)))])
  refine X0.step (fun hA hx hq t k => XS.bipush hA hx rfl (hb hq at_4) k) ?_
  show OFin _ _ _ _ _ _ _ _ T0 (mkF m 6 #[.val (.long pv), .second, .val (.int p1), .val (.int p2), .val (.int p3), .unset, .unset, .unset, .unset, .unset, .unset, .unset] [(.int (9 : Int32)), (.int (p1 &&& (2147483647 : Int32)))])
  refine X0.irem (g := (mkF m 6 #[.val (.long pv), .second, .val (.int p1), .val (.int p2), .val (.int p3), .unset, .unset, .unset, .unset, .unset, .unset, .unset] [(.int (9 : Int32)), (.int (p1 &&& (2147483647 : Int32)))])) rfl at_6 rfl (by decide) ?_
  show OFin _ _ _ _ _ _ _ _ T0 (mkF m 7 #[.val (.long pv), .second, .val (.int p1), .val (.int p2), .val (.int p3), .unset, .unset, .unset, .unset, .unset, .unset, .unset] [(.int ((p1 &&& (2147483647 : Int32)) % (9 : Int32)))])
  generalize ((p1 &&& (2147483647 : Int32)) % (9 : Int32)) = n at hn ⊢
  show OFin _ _ _ _ _ _ _ _ T0 (mkF m 7 #[.val (.long pv), .second, .val (.int p1), .val (.int p2), .val (.int p3), .unset, .unset, .unset, .unset, .unset, .unset, .unset] [(.int n)])
  have en := o_nat hn.1
  refine X0.step (fun hA hx hq t k => XS.istore hA hx rfl (hb hq at_7) rfl (l' := #[.val (.long pv), .second, .val (.int p1), .val (.int p2), .val (.int p3), .val (.int n), .unset, .unset, .unset, .unset, .unset, .unset]) rfl k) ?_
  show OFin _ _ _ _ _ _ _ _ T0 (mkF m 9 #[.val (.long pv), .second, .val (.int p1), .val (.int p2), .val (.int p3), .val (.int n), .unset, .unset, .unset, .unset, .unset, .unset] [])
  refine X0.step (fun hA hx hq t k => XS.iload hA hx rfl (hb hq at_9) rfl k) ?_
  show OFin _ _ _ _ _ _ _ _ T0 (mkF m 11 #[.val (.long pv), .second, .val (.int p1), .val (.int p2), .val (.int p3), .val (.int n), .unset, .unset, .unset, .unset, .unset, .unset] [(.int n)])
  refine X0.newP (hw _ (List.mem_of_getElem? (i := 1) rfl)) (g := (mkF m 11 #[.val (.long pv), .second, .val (.int p1), .val (.int p2), .val (.int p3), .val (.int n), .unset, .unset, .unset, .unset, .unset, .unset] [(.int n)])) rfl at_11 rfl (by rw [Int32.lt_iff_toInt_lt, e0]; omega) (cap := 8) (by omega) (by decide) (by decide) (by decide) (ad := "[B") (by first | rfl | decide) ?_
  intro T1 h1 k1 b1 gb1 X1 E1 A1 G1
  show OFin _ _ _ _ _ _ _ _ T1 (mkF m 13 #[.val (.long pv), .second, .val (.int p1), .val (.int p2), .val (.int p3), .val (.int n), .unset, .unset, .unset, .unset, .unset, .unset] [(.ref b1)])
  have V0 : OArr Z h1 b1 .byte n.toNatClampNeg (own_G pv 0) := (OArr.new A1).congr fun j hj => rfl
  have hnew : n0 ≤ b1 := by rw [gb1]; exact Z0
  refine X1.step (fun hA hx hq t k => XS.astore hA hx rfl (hb hq at_13) rfl rfl (l' := #[.val (.long pv), .second, .val (.int p1), .val (.int p2), .val (.int p3), .val (.int n), .val (.ref b1), .unset, .unset, .unset, .unset, .unset]) rfl k) ?_
  show OFin _ _ _ _ _ _ _ _ T1 (mkF m 15 #[.val (.long pv), .second, .val (.int p1), .val (.int p2), .val (.int p3), .val (.int n), .val (.ref b1), .unset, .unset, .unset, .unset, .unset] [])
  refine X1.step (fun hA hx hq t k => XS.aload hA hx rfl (hb hq at_15) rfl rfl k) ?_
  show OFin _ _ _ _ _ _ _ _ T1 (mkF m 17 #[.val (.long pv), .second, .val (.int p1), .val (.int p2), .val (.int p3), .val (.int n), .val (.ref b1), .unset, .unset, .unset, .unset, .unset] [(.ref b1)])
  refine X1.step (fun hA hx hq t k => XS.iconst hA hx rfl (hb hq at_17) k) ?_
  show OFin _ _ _ _ _ _ _ _ T1 (mkF m 18 #[.val (.long pv), .second, .val (.int p1), .val (.int p2), .val (.int p3), .val (.int n), .val (.ref b1), .unset, .unset, .unset, .unset, .unset] [(.int (0 : Int32)), (.ref b1)])
  refine X1.step (fun hA hx hq t k => XS.lloadN hA hx rfl (hb hq at_18) rfl k) ?_
  show OFin _ _ _ _ _ _ _ _ T1 (mkF m 19 #[.val (.long pv), .second, .val (.int p1), .val (.int p2), .val (.int p3), .val (.int n), .val (.ref b1), .unset, .unset, .unset, .unset, .unset] [(.long pv), (.int (0 : Int32)), (.ref b1)])
  refine X1.callS (y' := (⟨"com/example/libidem/libidem/FingerprintOfSha256PinLaw", "put", "([BIJ)V"⟩ : MethodName)) (hw _ (List.mem_of_getElem? (i := 2) rfl)) (hw _ (List.mem_of_getElem? (i := 3) rfl)) (hw _ (List.mem_of_getElem? (i := 4) rfl)) (hw _ (List.mem_of_getElem? (i := 5) rfl)) (by decide) (argsL := [(.ref b1), (.int (0 : Int32)), (.long pv)]) (rest := []) (rm2 l Z a0 hw b1 0 pv n h1 n0 (by decide) V0 hn.1 hnew) (g := (mkF m 19 #[.val (.long pv), .second, .val (.int p1), .val (.int p2), .val (.int p3), .val (.int n), .val (.ref b1), .unset, .unset, .unset, .unset, .unset] [(.long pv), (.int (0 : Int32)), (.ref b1)])) rfl rfl pd_pA_BIJr_V rfl rfl (W := 0) (by show 2 * 0 + _ ≤ _; exact Nat.le_of_eq rfl) at_19 (by decide) (by decide) (by decide) (by decide) ?_
  intro v2 T2 h2 X2 q2
  obtain ⟨rfl, K2, V1⟩ := q2
  show OFin _ _ _ _ _ _ _ _ T2 (mkF m 22 #[.val (.long pv), .second, .val (.int p1), .val (.int p2), .val (.int p3), .val (.int n), .val (.ref b1), .unset, .unset, .unset, .unset, .unset] [])
  have J0 := G1.keep K2
  have Z1 : n0 ≤ h2.size := Nat.le_trans (Nat.le_trans Z0 E1.1) K2.1
  refine X2.step (fun hA hx hq t k => XS.aload hA hx rfl (hb hq at_22) rfl rfl k) ?_
  show OFin _ _ _ _ _ _ _ _ T2 (mkF m 24 #[.val (.long pv), .second, .val (.int p1), .val (.int p2), .val (.int p3), .val (.int n), .val (.ref b1), .unset, .unset, .unset, .unset, .unset] [(.ref b1)])
  refine X2.step (fun hA hx hq t k => XS.iconst hA hx rfl (hb hq at_24) k) ?_
  show OFin _ _ _ _ _ _ _ _ T2 (mkF m 25 #[.val (.long pv), .second, .val (.int p1), .val (.int p2), .val (.int p3), .val (.int n), .val (.ref b1), .unset, .unset, .unset, .unset, .unset] [(.int (1 : Int32)), (.ref b1)])
  refine X2.step (fun hA hx hq t k => XS.lloadN hA hx rfl (hb hq at_25) rfl k) ?_
  show OFin _ _ _ _ _ _ _ _ T2 (mkF m 26 #[.val (.long pv), .second, .val (.int p1), .val (.int p2), .val (.int p3), .val (.int n), .val (.ref b1), .unset, .unset, .unset, .unset, .unset] [(.long pv), (.int (1 : Int32)), (.ref b1)])
  refine X2.callS (y' := (⟨"com/example/libidem/libidem/FingerprintOfSha256PinLaw", "put", "([BIJ)V"⟩ : MethodName)) (hw _ (List.mem_of_getElem? (i := 2) rfl)) (hw _ (List.mem_of_getElem? (i := 3) rfl)) (hw _ (List.mem_of_getElem? (i := 4) rfl)) (hw _ (List.mem_of_getElem? (i := 5) rfl)) (by decide) (argsL := [(.ref b1), (.int (1 : Int32)), (.long pv)]) (rest := []) (rm2 l Z a0 hw b1 1 pv n h2 n0 (by decide) V1 hn.1 hnew) (g := (mkF m 26 #[.val (.long pv), .second, .val (.int p1), .val (.int p2), .val (.int p3), .val (.int n), .val (.ref b1), .unset, .unset, .unset, .unset, .unset] [(.long pv), (.int (1 : Int32)), (.ref b1)])) rfl rfl pd_pA_BIJr_V rfl rfl (W := 0) (by show 2 * 0 + _ ≤ _; exact Nat.le_of_eq rfl) at_26 (by decide) (by decide) (by decide) (by decide) ?_
  intro v3 T3 h3 X3 q3
  obtain ⟨rfl, K3, V2⟩ := q3
  show OFin _ _ _ _ _ _ _ _ T3 (mkF m 29 #[.val (.long pv), .second, .val (.int p1), .val (.int p2), .val (.int p3), .val (.int n), .val (.ref b1), .unset, .unset, .unset, .unset, .unset] [])
  have J1 := J0.keep K3
  have Z2 : n0 ≤ h3.size := Nat.le_trans Z1 K3.1
  refine X3.step (fun hA hx hq t k => XS.aload hA hx rfl (hb hq at_29) rfl rfl k) ?_
  show OFin _ _ _ _ _ _ _ _ T3 (mkF m 31 #[.val (.long pv), .second, .val (.int p1), .val (.int p2), .val (.int p3), .val (.int n), .val (.ref b1), .unset, .unset, .unset, .unset, .unset] [(.ref b1)])
  refine X3.step (fun hA hx hq t k => XS.iconst hA hx rfl (hb hq at_31) k) ?_
  show OFin _ _ _ _ _ _ _ _ T3 (mkF m 32 #[.val (.long pv), .second, .val (.int p1), .val (.int p2), .val (.int p3), .val (.int n), .val (.ref b1), .unset, .unset, .unset, .unset, .unset] [(.int (2 : Int32)), (.ref b1)])
  refine X3.step (fun hA hx hq t k => XS.lloadN hA hx rfl (hb hq at_32) rfl k) ?_
  show OFin _ _ _ _ _ _ _ _ T3 (mkF m 33 #[.val (.long pv), .second, .val (.int p1), .val (.int p2), .val (.int p3), .val (.int n), .val (.ref b1), .unset, .unset, .unset, .unset, .unset] [(.long pv), (.int (2 : Int32)), (.ref b1)])
  refine X3.callS (y' := (⟨"com/example/libidem/libidem/FingerprintOfSha256PinLaw", "put", "([BIJ)V"⟩ : MethodName)) (hw _ (List.mem_of_getElem? (i := 2) rfl)) (hw _ (List.mem_of_getElem? (i := 3) rfl)) (hw _ (List.mem_of_getElem? (i := 4) rfl)) (hw _ (List.mem_of_getElem? (i := 5) rfl)) (by decide) (argsL := [(.ref b1), (.int (2 : Int32)), (.long pv)]) (rest := []) (rm2 l Z a0 hw b1 2 pv n h3 n0 (by decide) V2 hn.1 hnew) (g := (mkF m 33 #[.val (.long pv), .second, .val (.int p1), .val (.int p2), .val (.int p3), .val (.int n), .val (.ref b1), .unset, .unset, .unset, .unset, .unset] [(.long pv), (.int (2 : Int32)), (.ref b1)])) rfl rfl pd_pA_BIJr_V rfl rfl (W := 0) (by show 2 * 0 + _ ≤ _; exact Nat.le_of_eq rfl) at_33 (by decide) (by decide) (by decide) (by decide) ?_
  intro v4 T4 h4 X4 q4
  obtain ⟨rfl, K4, V3⟩ := q4
  show OFin _ _ _ _ _ _ _ _ T4 (mkF m 36 #[.val (.long pv), .second, .val (.int p1), .val (.int p2), .val (.int p3), .val (.int n), .val (.ref b1), .unset, .unset, .unset, .unset, .unset] [])
  have J2 := J1.keep K4
  have Z3 : n0 ≤ h4.size := Nat.le_trans Z2 K4.1
  refine X4.step (fun hA hx hq t k => XS.aload hA hx rfl (hb hq at_36) rfl rfl k) ?_
  show OFin _ _ _ _ _ _ _ _ T4 (mkF m 38 #[.val (.long pv), .second, .val (.int p1), .val (.int p2), .val (.int p3), .val (.int n), .val (.ref b1), .unset, .unset, .unset, .unset, .unset] [(.ref b1)])
  refine X4.step (fun hA hx hq t k => XS.iconst hA hx rfl (hb hq at_38) k) ?_
  show OFin _ _ _ _ _ _ _ _ T4 (mkF m 39 #[.val (.long pv), .second, .val (.int p1), .val (.int p2), .val (.int p3), .val (.int n), .val (.ref b1), .unset, .unset, .unset, .unset, .unset] [(.int (3 : Int32)), (.ref b1)])
  refine X4.step (fun hA hx hq t k => XS.lloadN hA hx rfl (hb hq at_39) rfl k) ?_
  show OFin _ _ _ _ _ _ _ _ T4 (mkF m 40 #[.val (.long pv), .second, .val (.int p1), .val (.int p2), .val (.int p3), .val (.int n), .val (.ref b1), .unset, .unset, .unset, .unset, .unset] [(.long pv), (.int (3 : Int32)), (.ref b1)])
  refine X4.callS (y' := (⟨"com/example/libidem/libidem/FingerprintOfSha256PinLaw", "put", "([BIJ)V"⟩ : MethodName)) (hw _ (List.mem_of_getElem? (i := 2) rfl)) (hw _ (List.mem_of_getElem? (i := 3) rfl)) (hw _ (List.mem_of_getElem? (i := 4) rfl)) (hw _ (List.mem_of_getElem? (i := 5) rfl)) (by decide) (argsL := [(.ref b1), (.int (3 : Int32)), (.long pv)]) (rest := []) (rm2 l Z a0 hw b1 3 pv n h4 n0 (by decide) V3 hn.1 hnew) (g := (mkF m 40 #[.val (.long pv), .second, .val (.int p1), .val (.int p2), .val (.int p3), .val (.int n), .val (.ref b1), .unset, .unset, .unset, .unset, .unset] [(.long pv), (.int (3 : Int32)), (.ref b1)])) rfl rfl pd_pA_BIJr_V rfl rfl (W := 0) (by show 2 * 0 + _ ≤ _; exact Nat.le_of_eq rfl) at_40 (by decide) (by decide) (by decide) (by decide) ?_
  intro v5 T5 h5 X5 q5
  obtain ⟨rfl, K5, V4⟩ := q5
  show OFin _ _ _ _ _ _ _ _ T5 (mkF m 43 #[.val (.long pv), .second, .val (.int p1), .val (.int p2), .val (.int p3), .val (.int n), .val (.ref b1), .unset, .unset, .unset, .unset, .unset] [])
  have J3 := J2.keep K5
  have Z4 : n0 ≤ h5.size := Nat.le_trans Z3 K5.1
  refine X5.step (fun hA hx hq t k => XS.aload hA hx rfl (hb hq at_43) rfl rfl k) ?_
  show OFin _ _ _ _ _ _ _ _ T5 (mkF m 45 #[.val (.long pv), .second, .val (.int p1), .val (.int p2), .val (.int p3), .val (.int n), .val (.ref b1), .unset, .unset, .unset, .unset, .unset] [(.ref b1)])
  refine X5.step (fun hA hx hq t k => XS.iconst hA hx rfl (hb hq at_45) k) ?_
  show OFin _ _ _ _ _ _ _ _ T5 (mkF m 46 #[.val (.long pv), .second, .val (.int p1), .val (.int p2), .val (.int p3), .val (.int n), .val (.ref b1), .unset, .unset, .unset, .unset, .unset] [(.int (4 : Int32)), (.ref b1)])
  refine X5.step (fun hA hx hq t k => XS.lloadN hA hx rfl (hb hq at_46) rfl k) ?_
  show OFin _ _ _ _ _ _ _ _ T5 (mkF m 47 #[.val (.long pv), .second, .val (.int p1), .val (.int p2), .val (.int p3), .val (.int n), .val (.ref b1), .unset, .unset, .unset, .unset, .unset] [(.long pv), (.int (4 : Int32)), (.ref b1)])
  refine X5.callS (y' := (⟨"com/example/libidem/libidem/FingerprintOfSha256PinLaw", "put", "([BIJ)V"⟩ : MethodName)) (hw _ (List.mem_of_getElem? (i := 2) rfl)) (hw _ (List.mem_of_getElem? (i := 3) rfl)) (hw _ (List.mem_of_getElem? (i := 4) rfl)) (hw _ (List.mem_of_getElem? (i := 5) rfl)) (by decide) (argsL := [(.ref b1), (.int (4 : Int32)), (.long pv)]) (rest := []) (rm2 l Z a0 hw b1 4 pv n h5 n0 (by decide) V4 hn.1 hnew) (g := (mkF m 47 #[.val (.long pv), .second, .val (.int p1), .val (.int p2), .val (.int p3), .val (.int n), .val (.ref b1), .unset, .unset, .unset, .unset, .unset] [(.long pv), (.int (4 : Int32)), (.ref b1)])) rfl rfl pd_pA_BIJr_V rfl rfl (W := 0) (by show 2 * 0 + _ ≤ _; exact Nat.le_of_eq rfl) at_47 (by decide) (by decide) (by decide) (by decide) ?_
  intro v6 T6 h6 X6 q6
  obtain ⟨rfl, K6, V5⟩ := q6
  show OFin _ _ _ _ _ _ _ _ T6 (mkF m 50 #[.val (.long pv), .second, .val (.int p1), .val (.int p2), .val (.int p3), .val (.int n), .val (.ref b1), .unset, .unset, .unset, .unset, .unset] [])
  have J4 := J3.keep K6
  have Z5 : n0 ≤ h6.size := Nat.le_trans Z4 K6.1
  refine X6.step (fun hA hx hq t k => XS.aload hA hx rfl (hb hq at_50) rfl rfl k) ?_
  show OFin _ _ _ _ _ _ _ _ T6 (mkF m 52 #[.val (.long pv), .second, .val (.int p1), .val (.int p2), .val (.int p3), .val (.int n), .val (.ref b1), .unset, .unset, .unset, .unset, .unset] [(.ref b1)])
  refine X6.step (fun hA hx hq t k => XS.iconst hA hx rfl (hb hq at_52) k) ?_
  show OFin _ _ _ _ _ _ _ _ T6 (mkF m 53 #[.val (.long pv), .second, .val (.int p1), .val (.int p2), .val (.int p3), .val (.int n), .val (.ref b1), .unset, .unset, .unset, .unset, .unset] [(.int (5 : Int32)), (.ref b1)])
  refine X6.step (fun hA hx hq t k => XS.lloadN hA hx rfl (hb hq at_53) rfl k) ?_
  show OFin _ _ _ _ _ _ _ _ T6 (mkF m 54 #[.val (.long pv), .second, .val (.int p1), .val (.int p2), .val (.int p3), .val (.int n), .val (.ref b1), .unset, .unset, .unset, .unset, .unset] [(.long pv), (.int (5 : Int32)), (.ref b1)])
  refine X6.callS (y' := (⟨"com/example/libidem/libidem/FingerprintOfSha256PinLaw", "put", "([BIJ)V"⟩ : MethodName)) (hw _ (List.mem_of_getElem? (i := 2) rfl)) (hw _ (List.mem_of_getElem? (i := 3) rfl)) (hw _ (List.mem_of_getElem? (i := 4) rfl)) (hw _ (List.mem_of_getElem? (i := 5) rfl)) (by decide) (argsL := [(.ref b1), (.int (5 : Int32)), (.long pv)]) (rest := []) (rm2 l Z a0 hw b1 5 pv n h6 n0 (by decide) V5 hn.1 hnew) (g := (mkF m 54 #[.val (.long pv), .second, .val (.int p1), .val (.int p2), .val (.int p3), .val (.int n), .val (.ref b1), .unset, .unset, .unset, .unset, .unset] [(.long pv), (.int (5 : Int32)), (.ref b1)])) rfl rfl pd_pA_BIJr_V rfl rfl (W := 0) (by show 2 * 0 + _ ≤ _; exact Nat.le_of_eq rfl) at_54 (by decide) (by decide) (by decide) (by decide) ?_
  intro v7 T7 h7 X7 q7
  obtain ⟨rfl, K7, V6⟩ := q7
  show OFin _ _ _ _ _ _ _ _ T7 (mkF m 57 #[.val (.long pv), .second, .val (.int p1), .val (.int p2), .val (.int p3), .val (.int n), .val (.ref b1), .unset, .unset, .unset, .unset, .unset] [])
  have J5 := J4.keep K7
  have Z6 : n0 ≤ h7.size := Nat.le_trans Z5 K7.1
  refine X7.step (fun hA hx hq t k => XS.aload hA hx rfl (hb hq at_57) rfl rfl k) ?_
  show OFin _ _ _ _ _ _ _ _ T7 (mkF m 59 #[.val (.long pv), .second, .val (.int p1), .val (.int p2), .val (.int p3), .val (.int n), .val (.ref b1), .unset, .unset, .unset, .unset, .unset] [(.ref b1)])
  refine X7.step (fun hA hx hq t k => XS.bipush hA hx rfl (hb hq at_59) k) ?_
  show OFin _ _ _ _ _ _ _ _ T7 (mkF m 61 #[.val (.long pv), .second, .val (.int p1), .val (.int p2), .val (.int p3), .val (.int n), .val (.ref b1), .unset, .unset, .unset, .unset, .unset] [(.int (6 : Int32)), (.ref b1)])
  refine X7.step (fun hA hx hq t k => XS.lloadN hA hx rfl (hb hq at_61) rfl k) ?_
  show OFin _ _ _ _ _ _ _ _ T7 (mkF m 62 #[.val (.long pv), .second, .val (.int p1), .val (.int p2), .val (.int p3), .val (.int n), .val (.ref b1), .unset, .unset, .unset, .unset, .unset] [(.long pv), (.int (6 : Int32)), (.ref b1)])
  refine X7.callS (y' := (⟨"com/example/libidem/libidem/FingerprintOfSha256PinLaw", "put", "([BIJ)V"⟩ : MethodName)) (hw _ (List.mem_of_getElem? (i := 2) rfl)) (hw _ (List.mem_of_getElem? (i := 3) rfl)) (hw _ (List.mem_of_getElem? (i := 4) rfl)) (hw _ (List.mem_of_getElem? (i := 5) rfl)) (by decide) (argsL := [(.ref b1), (.int (6 : Int32)), (.long pv)]) (rest := []) (rm2 l Z a0 hw b1 6 pv n h7 n0 (by decide) V6 hn.1 hnew) (g := (mkF m 62 #[.val (.long pv), .second, .val (.int p1), .val (.int p2), .val (.int p3), .val (.int n), .val (.ref b1), .unset, .unset, .unset, .unset, .unset] [(.long pv), (.int (6 : Int32)), (.ref b1)])) rfl rfl pd_pA_BIJr_V rfl rfl (W := 0) (by show 2 * 0 + _ ≤ _; exact Nat.le_of_eq rfl) at_62 (by decide) (by decide) (by decide) (by decide) ?_
  intro v8 T8 h8 X8 q8
  obtain ⟨rfl, K8, V7⟩ := q8
  show OFin _ _ _ _ _ _ _ _ T8 (mkF m 65 #[.val (.long pv), .second, .val (.int p1), .val (.int p2), .val (.int p3), .val (.int n), .val (.ref b1), .unset, .unset, .unset, .unset, .unset] [])
  have J6 := J5.keep K8
  have Z7 : n0 ≤ h8.size := Nat.le_trans Z6 K8.1
  refine X8.step (fun hA hx hq t k => XS.aload hA hx rfl (hb hq at_65) rfl rfl k) ?_
  show OFin _ _ _ _ _ _ _ _ T8 (mkF m 67 #[.val (.long pv), .second, .val (.int p1), .val (.int p2), .val (.int p3), .val (.int n), .val (.ref b1), .unset, .unset, .unset, .unset, .unset] [(.ref b1)])
  refine X8.step (fun hA hx hq t k => XS.bipush hA hx rfl (hb hq at_67) k) ?_
  show OFin _ _ _ _ _ _ _ _ T8 (mkF m 69 #[.val (.long pv), .second, .val (.int p1), .val (.int p2), .val (.int p3), .val (.int n), .val (.ref b1), .unset, .unset, .unset, .unset, .unset] [(.int (7 : Int32)), (.ref b1)])
  refine X8.step (fun hA hx hq t k => XS.lloadN hA hx rfl (hb hq at_69) rfl k) ?_
  show OFin _ _ _ _ _ _ _ _ T8 (mkF m 70 #[.val (.long pv), .second, .val (.int p1), .val (.int p2), .val (.int p3), .val (.int n), .val (.ref b1), .unset, .unset, .unset, .unset, .unset] [(.long pv), (.int (7 : Int32)), (.ref b1)])
  refine X8.callS (y' := (⟨"com/example/libidem/libidem/FingerprintOfSha256PinLaw", "put", "([BIJ)V"⟩ : MethodName)) (hw _ (List.mem_of_getElem? (i := 2) rfl)) (hw _ (List.mem_of_getElem? (i := 3) rfl)) (hw _ (List.mem_of_getElem? (i := 4) rfl)) (hw _ (List.mem_of_getElem? (i := 5) rfl)) (by decide) (argsL := [(.ref b1), (.int (7 : Int32)), (.long pv)]) (rest := []) (rm2 l Z a0 hw b1 7 pv n h8 n0 (by decide) V7 hn.1 hnew) (g := (mkF m 70 #[.val (.long pv), .second, .val (.int p1), .val (.int p2), .val (.int p3), .val (.int n), .val (.ref b1), .unset, .unset, .unset, .unset, .unset] [(.long pv), (.int (7 : Int32)), (.ref b1)])) rfl rfl pd_pA_BIJr_V rfl rfl (W := 0) (by show 2 * 0 + _ ≤ _; exact Nat.le_of_eq rfl) at_70 (by decide) (by decide) (by decide) (by decide) ?_
  intro v9 T9 h9 X9 q9
  obtain ⟨rfl, K9, V8⟩ := q9
  show OFin _ _ _ _ _ _ _ _ T9 (mkF m 73 #[.val (.long pv), .second, .val (.int p1), .val (.int p2), .val (.int p3), .val (.int n), .val (.ref b1), .unset, .unset, .unset, .unset, .unset] [])
  have J7 := J6.keep K9
  have Z8 : n0 ≤ h9.size := Nat.le_trans Z7 K9.1
  have V9 : OArr Z h9 b1 .byte n.toNatClampNeg (own_F pv) := V8.congr fun j hj => by unfold own_G; have q : j < 8 := (by omega); simp [q]
  refine X9.step (fun hA hx hq t k => XS.aload hA hx rfl (hb hq at_73) rfl rfl k) ?_
  show OFin _ _ _ _ _ _ _ _ T9 (mkF m 75 #[.val (.long pv), .second, .val (.int p1), .val (.int p2), .val (.int p3), .val (.int n), .val (.ref b1), .unset, .unset, .unset, .unset, .unset] [(.ref b1)])
  refine X9.callS (y' := (⟨"com/example/libidem/libidem/Fingerprint", "ofSha256", "([B)Lcom/example/libidem/libidem/Fingerprint;"⟩ : MethodName)) (hw _ (List.mem_of_getElem? (i := 9) rfl)) (hw _ (List.mem_of_getElem? (i := 10) rfl)) (hw _ (List.mem_of_getElem? (i := 11) rfl)) (hw _ (List.mem_of_getElem? (i := 12) rfl)) (by decide) (argsL := [(.ref b1)]) (rest := []) (rm3 l Z a0 hw b1 pv n h9 n0 V9 J7 hn Z8) (g := (mkF m 75 #[.val (.long pv), .second, .val (.int p1), .val (.int p2), .val (.int p3), .val (.int n), .val (.ref b1), .unset, .unset, .unset, .unset, .unset] [(.ref b1)])) rfl rfl pd_pA_Br_Lcom_example_libidem_libidem_Fingerprint_ rfl rfl (W := 0) (by show 2 * 0 + _ ≤ _; exact Nat.le_of_eq rfl) at_75 (by decide) (by decide) (by decide) (by decide) ?_
  intro v10 T10 h10 X10 q10
  obtain ⟨f, t, rfl, K10, Ef, Ff, Vt, Et, nt⟩ := q10
  show OFin _ _ _ _ _ _ _ _ T10 (mkF m 78 #[.val (.long pv), .second, .val (.int p1), .val (.int p2), .val (.int p3), .val (.int n), .val (.ref b1), .unset, .unset, .unset, .unset, .unset] [(.ref f)])
  have VB := V9.keep K10 nin0
  have tB : t ≠ b1 := Nat.ne_of_gt (Nat.lt_of_lt_of_le V9.lt nt)
  refine X10.step (fun hA hx hq t k => XS.astore hA hx rfl (hb hq at_78) rfl rfl (l' := #[.val (.long pv), .second, .val (.int p1), .val (.int p2), .val (.int p3), .val (.int n), .val (.ref b1), .val (.ref f), .unset, .unset, .unset, .unset]) rfl k) ?_
  show OFin _ _ _ _ _ _ _ _ T10 (mkF m 80 #[.val (.long pv), .second, .val (.int p1), .val (.int p2), .val (.int p3), .val (.int n), .val (.ref b1), .val (.ref f), .unset, .unset, .unset, .unset] [])
  refine X10.step (fun hA hx hq t k => XS.aload hA hx rfl (hb hq at_80) rfl rfl k) ?_
  show OFin _ _ _ _ _ _ _ _ T10 (mkF m 82 #[.val (.long pv), .second, .val (.int p1), .val (.int p2), .val (.int p3), .val (.int n), .val (.ref b1), .val (.ref f), .unset, .unset, .unset, .unset] [(.ref f)])
  refine X10.callV (y' := (⟨"com/example/libidem/libidem/Fingerprint", "sha256", "()[B"⟩ : MethodName)) (z' := (⟨"com/example/libidem/libidem/Fingerprint", "sha256", "()[B"⟩ : MethodName)) (hw _ (List.mem_of_getElem? (i := 32) rfl)) (hw _ (List.mem_of_getElem? (i := 33) rfl)) (X10.notFace (hw _ (List.mem_of_getElem? (i := 35) rfl)) rfl) (hw _ (List.mem_of_getElem? (i := 35) rfl)) (hw _ (List.mem_of_getElem? (i := 34) rfl)) (hw _ (List.mem_of_getElem? (i := 11) rfl)) (hw _ (List.mem_of_getElem? (i := 36) rfl)) (by decide) Ef (argsL := []) (rest := []) (rm5 l Z a0 hw f t pv n h10 n0 Ff Vt Et hn) (g := (mkF m 82 #[.val (.long pv), .second, .val (.int p1), .val (.int p2), .val (.int p3), .val (.int n), .val (.ref b1), .val (.ref f), .unset, .unset, .unset, .unset] [(.ref f)])) rfl rfl pd_pr_A_B rfl rfl (W := 0) (by show 2 * 0 + _ ≤ _; exact Nat.le_of_eq rfl) at_82 (by decide) (by decide) (by decide) (by decide) ?_
  intro v11 T11 h11 X11 q11
  obtain ⟨t2, rfl, K11, V11, n11⟩ := q11
  show OFin _ _ _ _ _ _ _ _ T11 (mkF m 85 #[.val (.long pv), .second, .val (.int p1), .val (.int p2), .val (.int p3), .val (.int n), .val (.ref b1), .val (.ref f), .unset, .unset, .unset, .unset] [(.ref t2)])
  refine X11.step (fun hA hx hq t k => XS.astore hA hx rfl (hb hq at_85) rfl rfl (l' := #[.val (.long pv), .second, .val (.int p1), .val (.int p2), .val (.int p3), .val (.int n), .val (.ref b1), .val (.ref f), .val (.ref t2), .unset, .unset, .unset]) rfl k) ?_
  show OFin _ _ _ _ _ _ _ _ T11 (mkF m 87 #[.val (.long pv), .second, .val (.int p1), .val (.int p2), .val (.int p3), .val (.int n), .val (.ref b1), .val (.ref f), .val (.ref t2), .unset, .unset, .unset] [])
  refine X11.step (fun hA hx hq t k => XS.aload hA hx rfl (hb hq at_87) rfl rfl k) ?_
  show OFin _ _ _ _ _ _ _ _ T11 (mkF m 89 #[.val (.long pv), .second, .val (.int p1), .val (.int p2), .val (.int p3), .val (.int n), .val (.ref b1), .val (.ref f), .val (.ref t2), .unset, .unset, .unset] [(.ref t2)])
  refine X11.step (fun hA hx hq t k => XS.iload hA hx rfl (hb hq at_89) rfl k) ?_
  show OFin _ _ _ _ _ _ _ _ T11 (mkF m 91 #[.val (.long pv), .second, .val (.int p1), .val (.int p2), .val (.int p3), .val (.int n), .val (.ref b1), .val (.ref f), .val (.ref t2), .unset, .unset, .unset] [(.int n), (.ref t2)])
  refine X11.step (fun hA hx hq t k => XS.lloadN hA hx rfl (hb hq at_91) rfl k) ?_
  show OFin _ _ _ _ _ _ _ _ T11 (mkF m 92 #[.val (.long pv), .second, .val (.int p1), .val (.int p2), .val (.int p3), .val (.int n), .val (.ref b1), .val (.ref f), .val (.ref t2), .unset, .unset, .unset] [(.long pv), (.int n), (.ref t2)])
  refine X11.callS (y' := (⟨"com/example/libidem/libidem/FingerprintOfSha256PinLaw", "holds", "([BIJ)Z"⟩ : MethodName)) (hw _ (List.mem_of_getElem? (i := 37) rfl)) (hw _ (List.mem_of_getElem? (i := 38) rfl)) (hw _ (List.mem_of_getElem? (i := 4) rfl)) (hw _ (List.mem_of_getElem? (i := 39) rfl)) (by decide) (argsL := [(.ref t2), (.int n), (.long pv)]) (rest := []) (rm7 l Z a0 hw t2 n pv h11 n0 V11 hn.1) (g := (mkF m 92 #[.val (.long pv), .second, .val (.int p1), .val (.int p2), .val (.int p3), .val (.int n), .val (.ref b1), .val (.ref f), .val (.ref t2), .unset, .unset, .unset] [(.long pv), (.int n), (.ref t2)])) rfl rfl pd_pA_BIJr_Z rfl rfl (W := 0) (by show 2 * 0 + _ ≤ _; exact Nat.le_of_eq rfl) at_92 (by decide) (by decide) (by decide) (by decide) ?_
  intro v12 T12 h12 X12 q12
  obtain ⟨rfl, rfl⟩ := q12
  show OFin _ _ _ _ _ _ _ _ T12 (mkF m 95 #[.val (.long pv), .second, .val (.int p1), .val (.int p2), .val (.int p3), .val (.int n), .val (.ref b1), .val (.ref f), .val (.ref t2), .unset, .unset, .unset] [(.int (1 : Int32))])
  refine X12.step (fun hA hx hq t k => XS.istore hA hx rfl (hb hq at_95) rfl (l' := #[.val (.long pv), .second, .val (.int p1), .val (.int p2), .val (.int p3), .val (.int n), .val (.ref b1), .val (.ref f), .val (.ref t2), .val (.int (1 : Int32)), .unset, .unset]) rfl k) ?_
  show OFin _ _ _ _ _ _ _ _ T12 (mkF m 97 #[.val (.long pv), .second, .val (.int p1), .val (.int p2), .val (.int p3), .val (.int n), .val (.ref b1), .val (.ref f), .val (.ref t2), .val (.int (1 : Int32)), .unset, .unset] [])
  refine X12.step (fun hA hx hq t k => XS.iload hA hx rfl (hb hq at_97) rfl k) ?_
  show OFin _ _ _ _ _ _ _ _ T12 (mkF m 99 #[.val (.long pv), .second, .val (.int p1), .val (.int p2), .val (.int p3), .val (.int n), .val (.ref b1), .val (.ref f), .val (.ref t2), .val (.int (1 : Int32)), .unset, .unset] [(.int n)])
  have Ef2 := Ef.keep K11
  have Ff2 := Ff.keep K11 nin0
  have Vt2 := Vt.keep K11 nin0
  have Et2 := Et.keep K11
  by_cases k1 : (0 : Int32) < n
  · have fne : f ≠ b1 := ne_exa Ef2 (J7.keep K10 |>.keep K11) (by decide)
    refine X12.step (fun hA hx hq t k => XS.ifNo hA hx rfl (hb hq at_99) rfl ((if0 _ _).trans (tlt (k1)).2.2.2) k) ?_
    show OFin _ _ _ _ _ _ _ _ T12 (mkF m 102 #[.val (.long pv), .second, .val (.int p1), .val (.int p2), .val (.int p3), .val (.int n), .val (.ref b1), .val (.ref f), .val (.ref t2), .val (.int (1 : Int32)), .unset, .unset] [])
    have np : 0 < n.toInt := by rw [Int32.lt_iff_toInt_lt, e0] at k1; exact k1
    have hi := own_idx p2 n np
    have VB2 := VB.keep K11 nin0
    obtain ⟨cB, AB, SB, HB⟩ := id VB2
    refine X12.step (fun hA hx hq t k => XS.iloadN hA hx rfl (hb hq at_102) rfl k) ?_
    show OFin _ _ _ _ _ _ _ _ T12 (mkF m 103 #[.val (.long pv), .second, .val (.int p1), .val (.int p2), .val (.int p3), .val (.int n), .val (.ref b1), .val (.ref f), .val (.ref t2), .val (.int (1 : Int32)), .unset, .unset] [(.int p2)])
    refine X12.ldcI (hw _ (List.mem_of_getElem? (i := 0) rfl)) (g := (mkF m 103 #[.val (.long pv), .second, .val (.int p1), .val (.int p2), .val (.int p3), .val (.int n), .val (.ref b1), .val (.ref f), .val (.ref t2), .val (.int (1 : Int32)), .unset, .unset] [(.int p2)])) rfl at_103 ?_
    show OFin _ _ _ _ _ _ _ _ T12 (mkF m 105 #[.val (.long pv), .second, .val (.int p1), .val (.int p2), .val (.int p3), .val (.int n), .val (.ref b1), .val (.ref f), .val (.ref t2), .val (.int (1 : Int32)), .unset, .unset] [(.int (2147483647 : Int32)), (.int p2)])
    refine X12.step (fun hA hx hq t k => XS.iand hA hx rfl (hb hq at_105) rfl k) ?_
    show OFin _ _ _ _ _ _ _ _ T12 (mkF m 106 #[.val (.long pv), .second, .val (.int p1), .val (.int p2), .val (.int p3), .val (.int n), .val (.ref b1), .val (.ref f), .val (.ref t2), .val (.int (1 : Int32)), .unset, .unset] [(.int (p2 &&& (2147483647 : Int32)))])
    refine X12.step (fun hA hx hq t k => XS.iload hA hx rfl (hb hq at_106) rfl k) ?_
    show OFin _ _ _ _ _ _ _ _ T12 (mkF m 108 #[.val (.long pv), .second, .val (.int p1), .val (.int p2), .val (.int p3), .val (.int n), .val (.ref b1), .val (.ref f), .val (.ref t2), .val (.int (1 : Int32)), .unset, .unset] [(.int n), (.int (p2 &&& (2147483647 : Int32)))])
    refine X12.irem (g := (mkF m 108 #[.val (.long pv), .second, .val (.int p1), .val (.int p2), .val (.int p3), .val (.int n), .val (.ref b1), .val (.ref f), .val (.ref t2), .val (.int (1 : Int32)), .unset, .unset] [(.int n), (.int (p2 &&& (2147483647 : Int32)))])) rfl at_108 rfl (fun q => by rw [q, e0] at np; omega) ?_
    show OFin _ _ _ _ _ _ _ _ T12 (mkF m 109 #[.val (.long pv), .second, .val (.int p1), .val (.int p2), .val (.int p3), .val (.int n), .val (.ref b1), .val (.ref f), .val (.ref t2), .val (.int (1 : Int32)), .unset, .unset] [(.int ((p2 &&& (2147483647 : Int32)) % n))])
    generalize ((p2 &&& (2147483647 : Int32)) % n) = j at hi ⊢
    show OFin _ _ _ _ _ _ _ _ T12 (mkF m 109 #[.val (.long pv), .second, .val (.int p1), .val (.int p2), .val (.int p3), .val (.int n), .val (.ref b1), .val (.ref f), .val (.ref t2), .val (.int (1 : Int32)), .unset, .unset] [(.int j)])
    have ej := o_nat hi.1
    refine X12.step (fun hA hx hq t k => XS.istore hA hx rfl (hb hq at_109) rfl (l' := #[.val (.long pv), .second, .val (.int p1), .val (.int p2), .val (.int p3), .val (.int n), .val (.ref b1), .val (.ref f), .val (.ref t2), .val (.int (1 : Int32)), .val (.int j), .unset]) rfl k) ?_
    show OFin _ _ _ _ _ _ _ _ T12 (mkF m 111 #[.val (.long pv), .second, .val (.int p1), .val (.int p2), .val (.int p3), .val (.int n), .val (.ref b1), .val (.ref f), .val (.ref t2), .val (.int (1 : Int32)), .val (.int j), .unset] [])
    refine X12.step (fun hA hx hq t k => XS.iconst hA hx rfl (hb hq at_111) k) ?_
    show OFin _ _ _ _ _ _ _ _ T12 (mkF m 112 #[.val (.long pv), .second, .val (.int p1), .val (.int p2), .val (.int p3), .val (.int n), .val (.ref b1), .val (.ref f), .val (.ref t2), .val (.int (1 : Int32)), .val (.int j), .unset] [(.int (1 : Int32))])
    refine X12.step (fun hA hx hq t k => XS.iload hA hx rfl (hb hq at_112) rfl k) ?_
    show OFin _ _ _ _ _ _ _ _ T12 (mkF m 114 #[.val (.long pv), .second, .val (.int p1), .val (.int p2), .val (.int p3), .val (.int n), .val (.ref b1), .val (.ref f), .val (.ref t2), .val (.int (1 : Int32)), .val (.int j), .unset] [(.int p3), (.int (1 : Int32))])
    refine X12.ldcI (hw _ (List.mem_of_getElem? (i := 0) rfl)) (g := (mkF m 114 #[.val (.long pv), .second, .val (.int p1), .val (.int p2), .val (.int p3), .val (.int n), .val (.ref b1), .val (.ref f), .val (.ref t2), .val (.int (1 : Int32)), .val (.int j), .unset] [(.int p3), (.int (1 : Int32))])) rfl at_114 ?_
    show OFin _ _ _ _ _ _ _ _ T12 (mkF m 116 #[.val (.long pv), .second, .val (.int p1), .val (.int p2), .val (.int p3), .val (.int n), .val (.ref b1), .val (.ref f), .val (.ref t2), .val (.int (1 : Int32)), .val (.int j), .unset] [(.int (2147483647 : Int32)), (.int p3), (.int (1 : Int32))])
    refine X12.step (fun hA hx hq t k => XS.iand hA hx rfl (hb hq at_116) rfl k) ?_
    show OFin _ _ _ _ _ _ _ _ T12 (mkF m 117 #[.val (.long pv), .second, .val (.int p1), .val (.int p2), .val (.int p3), .val (.int n), .val (.ref b1), .val (.ref f), .val (.ref t2), .val (.int (1 : Int32)), .val (.int j), .unset] [(.int (p3 &&& (2147483647 : Int32))), (.int (1 : Int32))])
    refine X12.step (fun hA hx hq t k => XS.sipush hA hx rfl (hb hq at_117) k) ?_
    show OFin _ _ _ _ _ _ _ _ T12 (mkF m 120 #[.val (.long pv), .second, .val (.int p1), .val (.int p2), .val (.int p3), .val (.int n), .val (.ref b1), .val (.ref f), .val (.ref t2), .val (.int (1 : Int32)), .val (.int j), .unset] [(.int (255 : Int32)), (.int (p3 &&& (2147483647 : Int32))), (.int (1 : Int32))])
    refine X12.irem (g := (mkF m 120 #[.val (.long pv), .second, .val (.int p1), .val (.int p2), .val (.int p3), .val (.int n), .val (.ref b1), .val (.ref f), .val (.ref t2), .val (.int (1 : Int32)), .val (.int j), .unset] [(.int (255 : Int32)), (.int (p3 &&& (2147483647 : Int32))), (.int (1 : Int32))])) rfl at_120 rfl (by decide) ?_
    show OFin _ _ _ _ _ _ _ _ T12 (mkF m 121 #[.val (.long pv), .second, .val (.int p1), .val (.int p2), .val (.int p3), .val (.int n), .val (.ref b1), .val (.ref f), .val (.ref t2), .val (.int (1 : Int32)), .val (.int j), .unset] [(.int ((p3 &&& (2147483647 : Int32)) % (255 : Int32))), (.int (1 : Int32))])
    refine X12.step (fun hA hx hq t k => XS.iadd hA hx rfl (hb hq at_121) rfl k) ?_
    show OFin _ _ _ _ _ _ _ _ T12 (mkF m 122 #[.val (.long pv), .second, .val (.int p1), .val (.int p2), .val (.int p3), .val (.int n), .val (.ref b1), .val (.ref f), .val (.ref t2), .val (.int (1 : Int32)), .val (.int j), .unset] [(.int ((1 : Int32) + ((p3 &&& (2147483647 : Int32)) % (255 : Int32))))])
    refine X12.step (fun hA hx hq t k => XS.istore hA hx rfl (hb hq at_122) rfl (l' := #[.val (.long pv), .second, .val (.int p1), .val (.int p2), .val (.int p3), .val (.int n), .val (.ref b1), .val (.ref f), .val (.ref t2), .val (.int (1 : Int32)), .val (.int j), .val (.int ((1 : Int32) + ((p3 &&& (2147483647 : Int32)) % (255 : Int32))))]) rfl k) ?_
    show OFin _ _ _ _ _ _ _ _ T12 (mkF m 124 #[.val (.long pv), .second, .val (.int p1), .val (.int p2), .val (.int p3), .val (.int n), .val (.ref b1), .val (.ref f), .val (.ref t2), .val (.int (1 : Int32)), .val (.int j), .val (.int ((1 : Int32) + ((p3 &&& (2147483647 : Int32)) % (255 : Int32))))] [])
    refine X12.step (fun hA hx hq t k => XS.aload hA hx rfl (hb hq at_124) rfl rfl k) ?_
    show OFin _ _ _ _ _ _ _ _ T12 (mkF m 126 #[.val (.long pv), .second, .val (.int p1), .val (.int p2), .val (.int p3), .val (.int n), .val (.ref b1), .val (.ref f), .val (.ref t2), .val (.int (1 : Int32)), .val (.int j), .val (.int ((1 : Int32) + ((p3 &&& (2147483647 : Int32)) % (255 : Int32))))] [(.ref b1)])
    refine X12.step (fun hA hx hq t k => XS.iload hA hx rfl (hb hq at_126) rfl k) ?_
    show OFin _ _ _ _ _ _ _ _ T12 (mkF m 128 #[.val (.long pv), .second, .val (.int p1), .val (.int p2), .val (.int p3), .val (.int n), .val (.ref b1), .val (.ref f), .val (.ref t2), .val (.int (1 : Int32)), .val (.int j), .val (.int ((1 : Int32) + ((p3 &&& (2147483647 : Int32)) % (255 : Int32))))] [(.int j), (.ref b1)])
    refine X12.step (fun hA hx hq t k => XS.aload hA hx rfl (hb hq at_128) rfl rfl k) ?_
    show OFin _ _ _ _ _ _ _ _ T12 (mkF m 130 #[.val (.long pv), .second, .val (.int p1), .val (.int p2), .val (.int p3), .val (.int n), .val (.ref b1), .val (.ref f), .val (.ref t2), .val (.int (1 : Int32)), .val (.int j), .val (.int ((1 : Int32) + ((p3 &&& (2147483647 : Int32)) % (255 : Int32))))] [(.ref b1), (.int j), (.ref b1)])
    refine X12.step (fun hA hx hq t k => XS.iload hA hx rfl (hb hq at_130) rfl k) ?_
    show OFin _ _ _ _ _ _ _ _ T12 (mkF m 132 #[.val (.long pv), .second, .val (.int p1), .val (.int p2), .val (.int p3), .val (.int n), .val (.ref b1), .val (.ref f), .val (.ref t2), .val (.int (1 : Int32)), .val (.int j), .val (.int ((1 : Int32) + ((p3 &&& (2147483647 : Int32)) % (255 : Int32))))] [(.int j), (.ref b1), (.int j), (.ref b1)])
    refine X12.aload0 AB (v := (.int (nar .byte (own_b pv (Int32.ofNat j.toNatClampNeg))))) (o_in SB hi.1 (by omega)) (HB j.toNatClampNeg (by omega)) (g := (mkF m 132 #[.val (.long pv), .second, .val (.int p1), .val (.int p2), .val (.int p3), .val (.int n), .val (.ref b1), .val (.ref f), .val (.ref t2), .val (.int (1 : Int32)), .val (.int j), .val (.int ((1 : Int32) + ((p3 &&& (2147483647 : Int32)) % (255 : Int32))))] [(.int j), (.ref b1), (.int j), (.ref b1)])) rfl rfl (Or.inr (Or.inr (Or.inr (Or.inl ⟨rfl, rfl⟩)))) at_132 ?_
    show OFin _ _ _ _ _ _ _ _ T12 (mkF m 133 #[.val (.long pv), .second, .val (.int p1), .val (.int p2), .val (.int p3), .val (.int n), .val (.ref b1), .val (.ref f), .val (.ref t2), .val (.int (1 : Int32)), .val (.int j), .val (.int ((1 : Int32) + ((p3 &&& (2147483647 : Int32)) % (255 : Int32))))] [(.int (nar .byte (own_b pv (Int32.ofNat j.toNatClampNeg)))), (.int j), (.ref b1)])
    refine X12.step (fun hA hx hq t k => XS.iload hA hx rfl (hb hq at_133) rfl k) ?_
    show OFin _ _ _ _ _ _ _ _ T12 (mkF m 135 #[.val (.long pv), .second, .val (.int p1), .val (.int p2), .val (.int p3), .val (.int n), .val (.ref b1), .val (.ref f), .val (.ref t2), .val (.int (1 : Int32)), .val (.int j), .val (.int ((1 : Int32) + ((p3 &&& (2147483647 : Int32)) % (255 : Int32))))] [(.int ((1 : Int32) + ((p3 &&& (2147483647 : Int32)) % (255 : Int32)))), (.int (nar .byte (own_b pv (Int32.ofNat j.toNatClampNeg)))), (.int j), (.ref b1)])
    refine X12.step (fun hA hx hq t k => XS.ixor hA hx rfl (hb hq at_135) rfl k) ?_
    show OFin _ _ _ _ _ _ _ _ T12 (mkF m 136 #[.val (.long pv), .second, .val (.int p1), .val (.int p2), .val (.int p3), .val (.int n), .val (.ref b1), .val (.ref f), .val (.ref t2), .val (.int (1 : Int32)), .val (.int j), .val (.int ((1 : Int32) + ((p3 &&& (2147483647 : Int32)) % (255 : Int32))))] [(.int ((nar .byte (own_b pv (Int32.ofNat j.toNatClampNeg))) ^^^ ((1 : Int32) + ((p3 &&& (2147483647 : Int32)) % (255 : Int32))))), (.int j), (.ref b1)])
    refine X12.step (fun hA hx hq t k => XS.i2b hA hx rfl (hb hq at_136) rfl k) ?_
    show OFin _ _ _ _ _ _ _ _ T12 (mkF m 137 #[.val (.long pv), .second, .val (.int p1), .val (.int p2), .val (.int p3), .val (.int n), .val (.ref b1), .val (.ref f), .val (.ref t2), .val (.int (1 : Int32)), .val (.int j), .val (.int ((1 : Int32) + ((p3 &&& (2147483647 : Int32)) % (255 : Int32))))] [(.int (((nar .byte (own_b pv (Int32.ofNat j.toNatClampNeg))) ^^^ ((1 : Int32) + ((p3 &&& (2147483647 : Int32)) % (255 : Int32)))).toInt8.toInt32)), (.int j), (.ref b1)])
    refine X12.stB AB (o_in SB hi.1 (by omega)) (hnew) (g := (mkF m 137 #[.val (.long pv), .second, .val (.int p1), .val (.int p2), .val (.int p3), .val (.int n), .val (.ref b1), .val (.ref f), .val (.ref t2), .val (.int (1 : Int32)), .val (.int j), .val (.int ((1 : Int32) + ((p3 &&& (2147483647 : Int32)) % (255 : Int32))))] [(.int (((nar .byte (own_b pv (Int32.ofNat j.toNatClampNeg))) ^^^ ((1 : Int32) + ((p3 &&& (2147483647 : Int32)) % (255 : Int32)))).toInt8.toInt32)), (.int j), (.ref b1)])) rfl rfl at_137 ?_
    intro T15 h15 X15 W15
    show OFin _ _ _ _ _ _ _ _ T15 (mkF m 138 #[.val (.long pv), .second, .val (.int p1), .val (.int p2), .val (.int p3), .val (.int n), .val (.ref b1), .val (.ref f), .val (.ref t2), .val (.int (1 : Int32)), .val (.int j), .val (.int ((1 : Int32) + ((p3 &&& (2147483647 : Int32)) % (255 : Int32))))] [])
    refine X15.step (fun hA hx hq t k => XS.aload hA hx rfl (hb hq at_138) rfl rfl k) ?_
    show OFin _ _ _ _ _ _ _ _ T15 (mkF m 140 #[.val (.long pv), .second, .val (.int p1), .val (.int p2), .val (.int p3), .val (.int n), .val (.ref b1), .val (.ref f), .val (.ref t2), .val (.int (1 : Int32)), .val (.int j), .val (.int ((1 : Int32) + ((p3 &&& (2147483647 : Int32)) % (255 : Int32))))] [(.ref f)])
    refine X15.callV (y' := (⟨"com/example/libidem/libidem/Fingerprint", "sha256", "()[B"⟩ : MethodName)) (z' := (⟨"com/example/libidem/libidem/Fingerprint", "sha256", "()[B"⟩ : MethodName)) (hw _ (List.mem_of_getElem? (i := 32) rfl)) (hw _ (List.mem_of_getElem? (i := 33) rfl)) (X15.notFace (hw _ (List.mem_of_getElem? (i := 35) rfl)) rfl) (hw _ (List.mem_of_getElem? (i := 35) rfl)) (hw _ (List.mem_of_getElem? (i := 34) rfl)) (hw _ (List.mem_of_getElem? (i := 11) rfl)) (hw _ (List.mem_of_getElem? (i := 36) rfl)) (by decide) (Ef2.wr W15) (argsL := []) (rest := []) (rm5 l Z a0 hw f t pv n h15 n0 (Ff2.other W15 (Or.inl fne)) (Vt2.other W15 tB) (Et2.wr W15) hn) (g := (mkF m 140 #[.val (.long pv), .second, .val (.int p1), .val (.int p2), .val (.int p3), .val (.int n), .val (.ref b1), .val (.ref f), .val (.ref t2), .val (.int (1 : Int32)), .val (.int j), .val (.int ((1 : Int32) + ((p3 &&& (2147483647 : Int32)) % (255 : Int32))))] [(.ref f)])) rfl rfl pd_pr_A_B rfl rfl (W := 0) (by show 2 * 0 + _ ≤ _; exact Nat.le_of_eq rfl) at_140 (by decide) (by decide) (by decide) (by decide) ?_
    intro v16 T16 h16 X16 q16
    obtain ⟨t3, rfl, K16, V16, n16⟩ := q16
    show OFin _ _ _ _ _ _ _ _ T16 (mkF m 143 #[.val (.long pv), .second, .val (.int p1), .val (.int p2), .val (.int p3), .val (.int n), .val (.ref b1), .val (.ref f), .val (.ref t2), .val (.int (1 : Int32)), .val (.int j), .val (.int ((1 : Int32) + ((p3 &&& (2147483647 : Int32)) % (255 : Int32))))] [(.ref t3)])
    refine X16.step (fun hA hx hq t k => XS.astore hA hx rfl (hb hq at_143) rfl rfl (l' := #[.val (.long pv), .second, .val (.int p1), .val (.int p2), .val (.int p3), .val (.int n), .val (.ref b1), .val (.ref f), .val (.ref t2), .val (.int (1 : Int32)), .val (.ref t3), .val (.int ((1 : Int32) + ((p3 &&& (2147483647 : Int32)) % (255 : Int32))))]) rfl k) ?_
    show OFin _ _ _ _ _ _ _ _ T16 (mkF m 145 #[.val (.long pv), .second, .val (.int p1), .val (.int p2), .val (.int p3), .val (.int n), .val (.ref b1), .val (.ref f), .val (.ref t2), .val (.int (1 : Int32)), .val (.ref t3), .val (.int ((1 : Int32) + ((p3 &&& (2147483647 : Int32)) % (255 : Int32))))] [])
    refine X16.step (fun hA hx hq t k => XS.iload hA hx rfl (hb hq at_145) rfl k) ?_
    show OFin _ _ _ _ _ _ _ _ T16 (mkF m 147 #[.val (.long pv), .second, .val (.int p1), .val (.int p2), .val (.int p3), .val (.int n), .val (.ref b1), .val (.ref f), .val (.ref t2), .val (.int (1 : Int32)), .val (.ref t3), .val (.int ((1 : Int32) + ((p3 &&& (2147483647 : Int32)) % (255 : Int32))))] [(.int (1 : Int32))])
    refine X16.step (fun hA hx hq t k => XS.ifNo hA hx rfl (hb hq at_147) rfl ((if0 _ _).trans (feq ((by decide))).1) k) ?_
    show OFin _ _ _ _ _ _ _ _ T16 (mkF m 150 #[.val (.long pv), .second, .val (.int p1), .val (.int p2), .val (.int p3), .val (.int n), .val (.ref b1), .val (.ref f), .val (.ref t2), .val (.int (1 : Int32)), .val (.ref t3), .val (.int ((1 : Int32) + ((p3 &&& (2147483647 : Int32)) % (255 : Int32))))] [])
    refine X16.step (fun hA hx hq t k => XS.aload hA hx rfl (hb hq at_150) rfl rfl k) ?_
    show OFin _ _ _ _ _ _ _ _ T16 (mkF m 152 #[.val (.long pv), .second, .val (.int p1), .val (.int p2), .val (.int p3), .val (.int n), .val (.ref b1), .val (.ref f), .val (.ref t2), .val (.int (1 : Int32)), .val (.ref t3), .val (.int ((1 : Int32) + ((p3 &&& (2147483647 : Int32)) % (255 : Int32))))] [(.ref t3)])
    refine X16.step (fun hA hx hq t k => XS.iload hA hx rfl (hb hq at_152) rfl k) ?_
    show OFin _ _ _ _ _ _ _ _ T16 (mkF m 154 #[.val (.long pv), .second, .val (.int p1), .val (.int p2), .val (.int p3), .val (.int n), .val (.ref b1), .val (.ref f), .val (.ref t2), .val (.int (1 : Int32)), .val (.ref t3), .val (.int ((1 : Int32) + ((p3 &&& (2147483647 : Int32)) % (255 : Int32))))] [(.int n), (.ref t3)])
    refine X16.step (fun hA hx hq t k => XS.lloadN hA hx rfl (hb hq at_154) rfl k) ?_
    show OFin _ _ _ _ _ _ _ _ T16 (mkF m 155 #[.val (.long pv), .second, .val (.int p1), .val (.int p2), .val (.int p3), .val (.int n), .val (.ref b1), .val (.ref f), .val (.ref t2), .val (.int (1 : Int32)), .val (.ref t3), .val (.int ((1 : Int32) + ((p3 &&& (2147483647 : Int32)) % (255 : Int32))))] [(.long pv), (.int n), (.ref t3)])
    refine X16.callS (y' := (⟨"com/example/libidem/libidem/FingerprintOfSha256PinLaw", "holds", "([BIJ)Z"⟩ : MethodName)) (hw _ (List.mem_of_getElem? (i := 37) rfl)) (hw _ (List.mem_of_getElem? (i := 38) rfl)) (hw _ (List.mem_of_getElem? (i := 4) rfl)) (hw _ (List.mem_of_getElem? (i := 39) rfl)) (by decide) (argsL := [(.ref t3), (.int n), (.long pv)]) (rest := []) (rm7 l Z a0 hw t3 n pv h16 n0 V16 hn.1) (g := (mkF m 155 #[.val (.long pv), .second, .val (.int p1), .val (.int p2), .val (.int p3), .val (.int n), .val (.ref b1), .val (.ref f), .val (.ref t2), .val (.int (1 : Int32)), .val (.ref t3), .val (.int ((1 : Int32) + ((p3 &&& (2147483647 : Int32)) % (255 : Int32))))] [(.long pv), (.int n), (.ref t3)])) rfl rfl pd_pA_BIJr_Z rfl rfl (W := 0) (by show 2 * 0 + _ ≤ _; exact Nat.le_of_eq rfl) at_155 (by decide) (by decide) (by decide) (by decide) ?_
    intro v17 T17 h17 X17 q17
    obtain ⟨rfl, rfl⟩ := q17
    show OFin _ _ _ _ _ _ _ _ T17 (mkF m 158 #[.val (.long pv), .second, .val (.int p1), .val (.int p2), .val (.int p3), .val (.int n), .val (.ref b1), .val (.ref f), .val (.ref t2), .val (.int (1 : Int32)), .val (.ref t3), .val (.int ((1 : Int32) + ((p3 &&& (2147483647 : Int32)) % (255 : Int32))))] [(.int (1 : Int32))])
    refine X17.step (fun hA hx hq t k => XS.ifNo hA hx rfl (hb hq at_158) rfl ((if0 _ _).trans (feq ((by decide))).1) k) ?_
    show OFin _ _ _ _ _ _ _ _ T17 (mkF m 161 #[.val (.long pv), .second, .val (.int p1), .val (.int p2), .val (.int p3), .val (.int n), .val (.ref b1), .val (.ref f), .val (.ref t2), .val (.int (1 : Int32)), .val (.ref t3), .val (.int ((1 : Int32) + ((p3 &&& (2147483647 : Int32)) % (255 : Int32))))] [])
    refine X17.step (fun hA hx hq t k => XS.iconst hA hx rfl (hb hq at_161) k) ?_
    show OFin _ _ _ _ _ _ _ _ T17 (mkF m 162 #[.val (.long pv), .second, .val (.int p1), .val (.int p2), .val (.int p3), .val (.int n), .val (.ref b1), .val (.ref f), .val (.ref t2), .val (.int (1 : Int32)), .val (.ref t3), .val (.int ((1 : Int32) + ((p3 &&& (2147483647 : Int32)) % (255 : Int32))))] [(.int (1 : Int32))])
    refine X17.step (fun hA hx hq t k => XS.goto hA hx rfl (pc0 := 162) (pc' := 166) rfl (hb hq at_162) (by decide) (by decide) k) ?_
    show OFin _ _ _ _ _ _ _ _ T17 (mkF m 166 #[.val (.long pv), .second, .val (.int p1), .val (.int p2), .val (.int p3), .val (.int n), .val (.ref b1), .val (.ref f), .val (.ref t2), .val (.int (1 : Int32)), .val (.ref t3), .val (.int ((1 : Int32) + ((p3 &&& (2147483647 : Int32)) % (255 : Int32))))] [(.int (1 : Int32))])
    exact X17.retN (by simp) at_166 (by decide) (by decide) (rfl)
  · refine X12.step (fun hA hx hq t k => XS.ifYes hA hx rfl (pc0 := 99) (pc' := 138) rfl (hb hq at_99) rfl ((if0 _ _).trans (flt (k1)).2.2.2) (by decide) (by decide) k) ?_
    show OFin _ _ _ _ _ _ _ _ T12 (mkF m 138 #[.val (.long pv), .second, .val (.int p1), .val (.int p2), .val (.int p3), .val (.int n), .val (.ref b1), .val (.ref f), .val (.ref t2), .val (.int (1 : Int32)), .unset, .unset] [])
    refine X12.step (fun hA hx hq t k => XS.aload hA hx rfl (hb hq at_138) rfl rfl k) ?_
    show OFin _ _ _ _ _ _ _ _ T12 (mkF m 140 #[.val (.long pv), .second, .val (.int p1), .val (.int p2), .val (.int p3), .val (.int n), .val (.ref b1), .val (.ref f), .val (.ref t2), .val (.int (1 : Int32)), .unset, .unset] [(.ref f)])
    refine X12.callV (y' := (⟨"com/example/libidem/libidem/Fingerprint", "sha256", "()[B"⟩ : MethodName)) (z' := (⟨"com/example/libidem/libidem/Fingerprint", "sha256", "()[B"⟩ : MethodName)) (hw _ (List.mem_of_getElem? (i := 32) rfl)) (hw _ (List.mem_of_getElem? (i := 33) rfl)) (X12.notFace (hw _ (List.mem_of_getElem? (i := 35) rfl)) rfl) (hw _ (List.mem_of_getElem? (i := 35) rfl)) (hw _ (List.mem_of_getElem? (i := 34) rfl)) (hw _ (List.mem_of_getElem? (i := 11) rfl)) (hw _ (List.mem_of_getElem? (i := 36) rfl)) (by decide) Ef2 (argsL := []) (rest := []) (rm5 l Z a0 hw f t pv n h11 n0 Ff2 Vt2 Et2 hn) (g := (mkF m 140 #[.val (.long pv), .second, .val (.int p1), .val (.int p2), .val (.int p3), .val (.int n), .val (.ref b1), .val (.ref f), .val (.ref t2), .val (.int (1 : Int32)), .unset, .unset] [(.ref f)])) rfl rfl pd_pr_A_B rfl rfl (W := 0) (by show 2 * 0 + _ ≤ _; exact Nat.le_of_eq rfl) at_140 (by decide) (by decide) (by decide) (by decide) ?_
    intro v13 T13 h13 X13 q13
    obtain ⟨t3, rfl, K13, V13, n13⟩ := q13
    show OFin _ _ _ _ _ _ _ _ T13 (mkF m 143 #[.val (.long pv), .second, .val (.int p1), .val (.int p2), .val (.int p3), .val (.int n), .val (.ref b1), .val (.ref f), .val (.ref t2), .val (.int (1 : Int32)), .unset, .unset] [(.ref t3)])
    refine X13.step (fun hA hx hq t k => XS.astore hA hx rfl (hb hq at_143) rfl rfl (l' := #[.val (.long pv), .second, .val (.int p1), .val (.int p2), .val (.int p3), .val (.int n), .val (.ref b1), .val (.ref f), .val (.ref t2), .val (.int (1 : Int32)), .val (.ref t3), .unset]) rfl k) ?_
    show OFin _ _ _ _ _ _ _ _ T13 (mkF m 145 #[.val (.long pv), .second, .val (.int p1), .val (.int p2), .val (.int p3), .val (.int n), .val (.ref b1), .val (.ref f), .val (.ref t2), .val (.int (1 : Int32)), .val (.ref t3), .unset] [])
    refine X13.step (fun hA hx hq t k => XS.iload hA hx rfl (hb hq at_145) rfl k) ?_
    show OFin _ _ _ _ _ _ _ _ T13 (mkF m 147 #[.val (.long pv), .second, .val (.int p1), .val (.int p2), .val (.int p3), .val (.int n), .val (.ref b1), .val (.ref f), .val (.ref t2), .val (.int (1 : Int32)), .val (.ref t3), .unset] [(.int (1 : Int32))])
    refine X13.step (fun hA hx hq t k => XS.ifNo hA hx rfl (hb hq at_147) rfl ((if0 _ _).trans (feq ((by decide))).1) k) ?_
    show OFin _ _ _ _ _ _ _ _ T13 (mkF m 150 #[.val (.long pv), .second, .val (.int p1), .val (.int p2), .val (.int p3), .val (.int n), .val (.ref b1), .val (.ref f), .val (.ref t2), .val (.int (1 : Int32)), .val (.ref t3), .unset] [])
    refine X13.step (fun hA hx hq t k => XS.aload hA hx rfl (hb hq at_150) rfl rfl k) ?_
    show OFin _ _ _ _ _ _ _ _ T13 (mkF m 152 #[.val (.long pv), .second, .val (.int p1), .val (.int p2), .val (.int p3), .val (.int n), .val (.ref b1), .val (.ref f), .val (.ref t2), .val (.int (1 : Int32)), .val (.ref t3), .unset] [(.ref t3)])
    refine X13.step (fun hA hx hq t k => XS.iload hA hx rfl (hb hq at_152) rfl k) ?_
    show OFin _ _ _ _ _ _ _ _ T13 (mkF m 154 #[.val (.long pv), .second, .val (.int p1), .val (.int p2), .val (.int p3), .val (.int n), .val (.ref b1), .val (.ref f), .val (.ref t2), .val (.int (1 : Int32)), .val (.ref t3), .unset] [(.int n), (.ref t3)])
    refine X13.step (fun hA hx hq t k => XS.lloadN hA hx rfl (hb hq at_154) rfl k) ?_
    show OFin _ _ _ _ _ _ _ _ T13 (mkF m 155 #[.val (.long pv), .second, .val (.int p1), .val (.int p2), .val (.int p3), .val (.int n), .val (.ref b1), .val (.ref f), .val (.ref t2), .val (.int (1 : Int32)), .val (.ref t3), .unset] [(.long pv), (.int n), (.ref t3)])
    refine X13.callS (y' := (⟨"com/example/libidem/libidem/FingerprintOfSha256PinLaw", "holds", "([BIJ)Z"⟩ : MethodName)) (hw _ (List.mem_of_getElem? (i := 37) rfl)) (hw _ (List.mem_of_getElem? (i := 38) rfl)) (hw _ (List.mem_of_getElem? (i := 4) rfl)) (hw _ (List.mem_of_getElem? (i := 39) rfl)) (by decide) (argsL := [(.ref t3), (.int n), (.long pv)]) (rest := []) (rm7 l Z a0 hw t3 n pv h13 n0 V13 hn.1) (g := (mkF m 155 #[.val (.long pv), .second, .val (.int p1), .val (.int p2), .val (.int p3), .val (.int n), .val (.ref b1), .val (.ref f), .val (.ref t2), .val (.int (1 : Int32)), .val (.ref t3), .unset] [(.long pv), (.int n), (.ref t3)])) rfl rfl pd_pA_BIJr_Z rfl rfl (W := 0) (by show 2 * 0 + _ ≤ _; exact Nat.le_of_eq rfl) at_155 (by decide) (by decide) (by decide) (by decide) ?_
    intro v14 T14 h14 X14 q14
    obtain ⟨rfl, rfl⟩ := q14
    show OFin _ _ _ _ _ _ _ _ T14 (mkF m 158 #[.val (.long pv), .second, .val (.int p1), .val (.int p2), .val (.int p3), .val (.int n), .val (.ref b1), .val (.ref f), .val (.ref t2), .val (.int (1 : Int32)), .val (.ref t3), .unset] [(.int (1 : Int32))])
    refine X14.step (fun hA hx hq t k => XS.ifNo hA hx rfl (hb hq at_158) rfl ((if0 _ _).trans (feq ((by decide))).1) k) ?_
    show OFin _ _ _ _ _ _ _ _ T14 (mkF m 161 #[.val (.long pv), .second, .val (.int p1), .val (.int p2), .val (.int p3), .val (.int n), .val (.ref b1), .val (.ref f), .val (.ref t2), .val (.int (1 : Int32)), .val (.ref t3), .unset] [])
    refine X14.step (fun hA hx hq t k => XS.iconst hA hx rfl (hb hq at_161) k) ?_
    show OFin _ _ _ _ _ _ _ _ T14 (mkF m 162 #[.val (.long pv), .second, .val (.int p1), .val (.int p2), .val (.int p3), .val (.int n), .val (.ref b1), .val (.ref f), .val (.ref t2), .val (.int (1 : Int32)), .val (.ref t3), .unset] [(.int (1 : Int32))])
    refine X14.step (fun hA hx hq t k => XS.goto hA hx rfl (pc0 := 162) (pc' := 166) rfl (hb hq at_162) (by decide) (by decide) k) ?_
    show OFin _ _ _ _ _ _ _ _ T14 (mkF m 166 #[.val (.long pv), .second, .val (.int p1), .val (.int p2), .val (.int p3), .val (.int n), .val (.ref b1), .val (.ref f), .val (.ref t2), .val (.int (1 : Int32)), .val (.ref t3), .unset] [(.int (1 : Int32))])
    exact X14.retN (by simp) at_166 (by decide) (by decide) (rfl)
set_option maxRecDepth 65536 in
set_option maxHeartbeats 40000000 in
theorem comes_1 {Post : Tables → Env → Array Value → State → Outcome → State → Prop} (hpost : ∀ tb e args s v u, (limb_1_1.after args s (.returned v) u = true ∧ limb_1_2.after args s (.returned v) u = true ∧ True) → FrameEnd s (.returned v) u (Jvm.fieldLocs frame_1_writes args s ++ Jvm.arrayLocs frame_1_arrays args s ++ Jvm.staticLocs frame_1_statics s) 24 192 → Post tb e args s (.returned v) u) :
    ArmFor flags0 classFile x code maxLocals ret World_1 tables_1 room_1 Calls_1 rest_1 Pre_1 Post := by
  intro l hfl _ _ p e ha hc hk s m args below hf hA hF happ hP
  obtain ⟨hcalls, hrest, hpre⟩ := hP
  obtain ⟨-, -, -, hnamed, -, -, -, hat⟩ := (Spec.applies_iff hf).mp happ
  obtain ⟨hg, hn⟩ := and_e (Cond.before_iff.mp (show (Jvm.Cond.and given_1 narrow_1).before args s = true from hpre))
  obtain ⟨hcount, hg0⟩ := and_e hg
  obtain ⟨w0, w1, w2, w3, rfl⟩ : ∃ w0 w1 w2 w3 : Value, args = #[w0, w1, w2, w3] := by
    have hs : args.size = 4 := by simpa [Cond.value, given_1] using hcount
    obtain ⟨L⟩ := args
    match L, hs with
    | [w0, w1, w2, w3], _ => exact ⟨w0, w1, w2, w3, rfl⟩
  have hw := fun d (hd : d ∈ tables_1) => atoms_spec (ws := Jvm.Cond.code x code maxLocals ret :: tables_1) hat d (List.mem_cons_of_mem _ hd)
  have hfit : Fit s := fun {y c} hc i hi => by
    obtain ⟨ha, rfl⟩ := Array.getElem?_eq_some_iff.mp hc
    have q := List.all_eq_true.mp ((Array.all_eq_true_iff_forall_mem.mp hF) _ (Array.getElem_mem ha)) i (List.mem_range.mpr hi)
    simpa [Array.getElem?_eq_getElem hi] using q
  obtain ⟨ha0, hg1⟩ := and_e hg0
  obtain ⟨i0, ei0⟩ := isL_v ha0
  obtain rfl : w0 = (.long i0) := Option.some.inj ei0
  obtain ⟨ha1, hg2⟩ := and_e hg1
  obtain ⟨i1, ei1⟩ := is_v ha1
  obtain rfl : w1 = (.int i1) := Option.some.inj ei1
  obtain ⟨ha2, hg3⟩ := and_e hg2
  obtain ⟨i2, ei2⟩ := is_v ha2
  obtain rfl : w2 = (.int i2) := Option.some.inj ei2
  obtain ⟨i3, ei3⟩ := is_v hg3
  obtain rfl : w3 = (.int i3) := Option.some.inj ei3
  obtain ⟨n, o, h1, h2, h3, _, L, rfl, ⟨rfl, N⟩, hq⟩ := rm0 l s _ hw tables_1 i0 i1 i2 i3 s.heap s.heap.size (Nat.le_refl _) p e ha hc hk s m _ below hf ((Spec.applies_iff_loose hf).mp happ).1 ⟨rfl, State.Warmed39.refl s, rfl⟩ trivial
  refine ⟨n, _, h1, h2, h3, hpost _ _ _ _ _ _ ⟨Cond.after_iff.mpr rfl, Cond.after_iff.mpr (eq_i res_at (Term.int_eval (1)) rfl), trivial⟩ ⟨hq.1, hq.2.1, (hq.2.2.sift fun y hy => Or.inr (N y hy)).mono (by decide) (by decide)⟩⟩
theorem main_1_1 : Claimed_1_1 := comes_1 fun _ _ _ _ _ _ h hF => ⟨h.1, hF⟩
theorem main_1_2 : Claimed_1_2 := comes_1 fun _ _ _ _ _ _ h hF => ⟨h.2.1, hF⟩
end Jvm.Pilot.@@N@@
namespace Jvm.Pilot.@@N@@
open Jvm Jvm.ClassFile Sem Op Lib Jvm.Free Jvm.Stand Jvm.Pilot.@@N@@.Jvm.D
/-! MADE BY PROGRAM (witnessworld.py) out of the Statement's table words and the real class files: 9 classes; the members and pool entries that the words name. The judged class is class 1, her method 1. -/
namespace start1
open Jvm.ClassFile
def u (s : String) : CpInfo := .utf8 (stringToUtf16 s)
/-- a pool by its gaps: so many unusable entries, then the entry; so many at the end -/
def gap : Nat → List CpInfo → List CpInfo
  | 0, r => r
  | n + 1, r => .unusable :: gap n r
def poolList (es : List (Nat × CpInfo)) (last : Nat) : List CpInfo := es.foldr (fun e r => gap e.1 (e.2 :: r)) (gap last [])
def pool (es : List (Nat × CpInfo)) (last : Nat) : Array CpInfo := ⟨poolList es last⟩
def fileOf (pool : Array CpInfo) (this : Nat) (attrs : Array Attribute := #[]) (ms : Array MethodInfo := #[]) (fl : Nat := 33) (sup : Nat := 0) (ifs : Array Nat := #[]) (fds : Array FieldInfo := #[]) : ClassFile where
  minorVersion := 0
  majorVersion := 65
  constantPool := pool
  accessFlags := fl
  thisClass := this
  superClass := sup
  interfaces := ifs
  fields := fds
  methods := ms
  attributes := attrs
def plain (name : String) (sup : Option ClassId) : Class where
  name := name
  kind := .ordinary
  loader := none
  accessFlags := 33
  super := sup
  interfaces := #[]
  cf := none
  fields := #[]
  methods := #[]
  instanceTypes := #[]
  staticTypes := #[]
  resolved := #[]
  callSites := []
  init := .initialized
  statics := none
  mirror := none

def pool0 : Array CpInfo := pool [(5, u "<init>"), (0, u "()V"), (1, .class_ 10), (1, u "java/lang/Object"), (85, u "clone"), (0, u "()Ljava/lang/Object;")] 26

def k0c0 : Code := { maxStack := 0, maxLocals := 1, code := object_method_1_code, exceptionTable := #[], attributes := #[] }
def k0m0 : Method := { name := "<init>", desc := "()V", sig := { parameters := [], returnType := none }, accessFlags := 1, code := some k0c0 }
def k0m1 : Method := { name := "clone", desc := "()Ljava/lang/Object;", sig := { parameters := [], returnType := some (.object "java/lang/Object") }, accessFlags := 260, code := none }
/-- java/lang/Object -/
def k0 : Class := { plain "java/lang/Object" none with
  accessFlags := 33
  interfaces := #[]
  cf := some (fileOf pool0 8 #[] #[{ accessFlags := 1, nameIndex := 5, descriptorIndex := 6, attributes := #[] }, { accessFlags := 260, nameIndex := 96, descriptorIndex := 97, attributes := #[] }] 33 0 #[] #[])
  fields := #[]
  methods := #[k0m0, k0m1]
  instanceTypes := #[]
  staticTypes := #[]
  resolved := Array.replicate 124 none
  statics := none }

def pool1 : Array CpInfo := pool [(2, .class_ 4), (1, u "java/lang/Object"), (0, u "<init>"), (0, u "()V"), (0, .integer 2147483647), (0, .methodref 9 10), (0, .class_ 11), (0, .nameAndType 12 13), (0, u "com/example/libidem/libidem/FingerprintOfSha256PinLaw"), (0, u "put"), (0, u "([BIJ)V"), (0, .methodref 15 16), (0, .class_ 17), (0, .nameAndType 18 19), (0, u "com/example/libidem/libidem/Fingerprint"), (0, u "ofSha256"), (0, u "([B)Lcom/example/libidem/libidem/Fingerprint;"), (0, .methodref 15 21), (0, .nameAndType 22 23), (0, u "sha256"), (0, u "()[B"), (0, .methodref 9 25), (0, .nameAndType 26 27), (0, u "holds"), (0, u "([BIJ)Z"), (0, .methodref 9 29), (0, .nameAndType 30 31), (0, u "byteAt"), (0, u "(JI)B"), (0, .methodref 9 33), (0, .nameAndType 34 27), (0, u "at"), (2, u "law"), (0, u "(JIII)Z")] 5

def k1m0 : Method := { name := "<init>", desc := "()V", sig := { parameters := [], returnType := none }, accessFlags := 1, code := none }
def k1c1 : Code := { maxStack := 4, maxLocals := 12, code := code, exceptionTable := #[], attributes := #[] }
def k1m1 : Method := { name := "law", desc := "(JIII)Z", sig := { parameters := [.long, .int, .int, .int], returnType := some .boolean }, accessFlags := 9, code := some k1c1 }
def k1c2 : Code := { maxStack := 4, maxLocals := 3, code := method_3_code, exceptionTable := #[], attributes := #[] }
def k1m2 : Method := { name := "byteAt", desc := "(JI)B", sig := { parameters := [.long, .int], returnType := some .byte }, accessFlags := 10, code := some k1c2 }
def k1c3 : Code := { maxStack := 5, maxLocals := 4, code := method_4_code, exceptionTable := #[], attributes := #[] }
def k1m3 : Method := { name := "put", desc := "([BIJ)V", sig := { parameters := [(.array .byte), .int, .long], returnType := none }, accessFlags := 10, code := some k1c3 }
def k1c4 : Code := { maxStack := 4, maxLocals := 4, code := method_5_code, exceptionTable := #[], attributes := #[] }
def k1m4 : Method := { name := "at", desc := "([BIJ)Z", sig := { parameters := [(.array .byte), .int, .long], returnType := some .boolean }, accessFlags := 10, code := some k1c4 }
def k1c5 : Code := { maxStack := 4, maxLocals := 4, code := method_6_code, exceptionTable := #[], attributes := #[] }
def k1m5 : Method := { name := "holds", desc := "([BIJ)Z", sig := { parameters := [(.array .byte), .int, .long], returnType := some .boolean }, accessFlags := 10, code := some k1c5 }
/-- com/example/libidem/libidem/FingerprintOfSha256PinLaw -/
def k1 : Class := { plain "com/example/libidem/libidem/FingerprintOfSha256PinLaw" (some 0) with
  accessFlags := 49
  interfaces := #[]
  cf := some (fileOf pool1 9 #[] #[{ accessFlags := 1, nameIndex := 5, descriptorIndex := 6, attributes := #[] }, { accessFlags := 9, nameIndex := 37, descriptorIndex := 38, attributes := #[] }, { accessFlags := 10, nameIndex := 30, descriptorIndex := 31, attributes := #[] }, { accessFlags := 10, nameIndex := 12, descriptorIndex := 13, attributes := #[] }, { accessFlags := 10, nameIndex := 34, descriptorIndex := 27, attributes := #[] }, { accessFlags := 10, nameIndex := 26, descriptorIndex := 27, attributes := #[] }] 49 2 #[] #[])
  fields := #[]
  methods := #[k1m0, k1m1, k1m2, k1m3, k1m4, k1m5]
  instanceTypes := #[]
  staticTypes := #[]
  resolved := Array.replicate 44 none
  statics := none }

def pool2 : Array CpInfo := pool [(1, .methodref 2 3), (0, .class_ 4), (0, .nameAndType 5 6), (0, u "java/lang/Object"), (0, u "<init>"), (0, u "()V"), (0, .fieldref 8 9), (0, .class_ 10), (0, .nameAndType 11 12), (0, u "com/example/libidem/libidem/Fingerprint"), (0, u "sha256"), (0, u "[B"), (24, u "SHA_256"), (0, u "Ljava/lang/ThreadLocal;"), (5, u "()Ljava/lang/Object;"), (5, .methodref 8 51), (0, .nameAndType 5 52), (0, u "([B)V"), (0, .methodref 54 55), (0, .class_ 12), (0, .nameAndType 56 44), (0, u "clone"), (50, u "ofSha256"), (0, u "([B)Lcom/example/libidem/libidem/Fingerprint;"), (0, u "()[B")] 29

def k2c0 : Code := { maxStack := 2, maxLocals := 2, code := prog_9_method_1_code, exceptionTable := #[], attributes := #[] }
def k2m0 : Method := { name := "<init>", desc := "([B)V", sig := { parameters := [(.array .byte)], returnType := none }, accessFlags := 2, code := some k2c0 }
def k2c1 : Code := { maxStack := 3, maxLocals := 1, code := prog_9_method_3_code, exceptionTable := #[], attributes := #[] }
def k2m1 : Method := { name := "ofSha256", desc := "([B)Lcom/example/libidem/libidem/Fingerprint;", sig := { parameters := [(.array .byte)], returnType := some (.object "com/example/libidem/libidem/Fingerprint") }, accessFlags := 8, code := some k2c1 }
def k2c2 : Code := { maxStack := 1, maxLocals := 1, code := prog_9_method_4_code, exceptionTable := #[], attributes := #[] }
def k2m2 : Method := { name := "sha256", desc := "()[B", sig := { parameters := [], returnType := some (.array .byte) }, accessFlags := 0, code := some k2c2 }
/-- com/example/libidem/libidem/Fingerprint -/
def k2 : Class := { plain "com/example/libidem/libidem/Fingerprint" (some 0) with
  accessFlags := 33
  interfaces := #[]
  cf := some (fileOf pool2 8 #[] #[{ accessFlags := 2, nameIndex := 5, descriptorIndex := 52, attributes := #[] }, { accessFlags := 8, nameIndex := 107, descriptorIndex := 108, attributes := #[] }, { accessFlags := 0, nameIndex := 11, descriptorIndex := 109, attributes := #[] }] 33 2 #[] #[{ accessFlags := 26, nameIndex := 37, descriptorIndex := 38, attributes := #[] }, { accessFlags := 18, nameIndex := 11, descriptorIndex := 12, attributes := #[] }])
  fields := #[{ name := "SHA_256", type := (.object "java/lang/ThreadLocal"), accessFlags := 26, slot := 0, constantValue := 0 }, { name := "sha256", type := (.array .byte), accessFlags := 18, slot := 0, constantValue := 0 }]
  methods := #[k2m0, k2m1, k2m2]
  instanceTypes := #[(.array .byte)]
  staticTypes := #[(.object "java/lang/ThreadLocal")]
  resolved := Array.replicate 139 none
  statics := none }

def pool3 : Array CpInfo := pool [(1, .class_ 2), (0, u "java/lang/Cloneable"), (0, .class_ 4), (0, u "java/lang/Object")] 2

/-- java/lang/Cloneable -/
def k3 : Class := { plain "java/lang/Cloneable" (some 0) with
  accessFlags := 1537
  interfaces := #[]
  cf := some (fileOf pool3 1 #[] #[] 1537 3 #[] #[])
  fields := #[]
  methods := #[]
  instanceTypes := #[]
  staticTypes := #[]
  resolved := Array.replicate 7 none
  statics := none }

def pool4 : Array CpInfo := pool [(1, u "java/io/Serializable"), (0, .class_ 1), (0, u "java/lang/Object"), (0, .class_ 3)] 3

/-- java/io/Serializable -/
def k4 : Class := { plain "java/io/Serializable" (some 0) with
  accessFlags := 1537
  interfaces := #[]
  cf := some (fileOf pool4 2 #[] #[] 1537 4 #[] #[])
  fields := #[]
  methods := #[]
  instanceTypes := #[]
  staticTypes := #[]
  resolved := Array.replicate 8 none
  statics := none }

/-- the primitive byte -/
def k5 : Class := { plain "byte" none with kind := .primitive 'B', accessFlags := 0x411 }
/-- [B -/
def k6 : Class := { plain "[B" (some 0) with kind := .array 5 .byte, interfaces := #[3, 4], accessFlags := 1041 }

/-- the primitive int -/
def k7 : Class := { plain "int" none with kind := .primitive 'I', accessFlags := 0x411 }
/-- [I -/
def k8 : Class := { plain "[I" (some 0) with kind := .array 7 .int, interfaces := #[3, 4], accessFlags := 1041 }

def heap : Heap := #[]
def classes : Array Class := #[k0, k1, k2, k3, k4, k5, k6, k7, k8]
def interned : List (Array UInt16 × Addr) := []
def slotsUsed : Nat := 0
def theMethod : MethodId := ⟨1, 1⟩
def args0 : Array Value := #[.long 5, .int 7, .int 2, .int 3]
def aboutOver (below : List Frame) : State where
  vm := { classes := classes, interned := interned.toArray }
  heap := heap
  slotsUsed := slotsUsed
  threads := #[{ frames := .invoking theMethod args0 :: below }]
def below0 : List Frame := [.native { method := ⟨0, 0⟩, args := #[] }]
def about1 : State := aboutOver below0
def p0 : Program := .bare "" "" ""
def e0 : Env := launch0.env 0 0 0
theorem w_frames : about1.frames = Frame.invoking theMethod args0 :: below0 := rfl
set_option maxRecDepth 65536 in
theorem w_args : argsFit about1.vm theMethod args0 = true := by decide +kernel
set_option maxRecDepth 65536 in
theorem w_heap : heapFits about1 = true := by decide +kernel
set_option maxRecDepth 65536 in
theorem w_runnable : about1.curStatus? = some .runnable := by decide +kernel
set_option maxRecDepth 65536 in
theorem w_alone : about1.alone = true := by decide +kernel
set_option maxRecDepth 65536 in
theorem w_named : about1.methodNamed? x = some theMethod := by decide +kernel
set_option maxRecDepth 65536 in
theorem w_hears : about1.hears theMethod below0 = true := by decide +kernel
set_option maxRecDepth 65536 in
theorem w_ripe : about1.ripe theMethod args0 below0 = true := by decide +kernel
theorem w_running : about1.status = .running := rfl
set_option maxRecDepth 65536 in
theorem w_room : about1.hasRoom e0.platform room_1 = true :=
  launch0.hasRoom_least _ room_1 (by decide +kernel) (by decide +kernel) (by decide +kernel) (by decide +kernel) (by decide +kernel) (by decide +kernel)
theorem allAtoms_all (ts : List Jvm.Cond) (a : Array Jvm.Value) (st : Jvm.State) : (allAtoms ts).before a st = ts.all (fun c => c.before a st) := by
  induction ts with
  | nil => rfl
  | cons c t ih =>
    show (Jvm.Cond.and c (allAtoms t)).before a st = _
    rw [Jvm.Cond.before_and, ih, List.all_cons]
def words1 : List Jvm.Cond := Jvm.Cond.code x code maxLocals ret :: tables_1
/-- a 'code' word, met by the world's own term for the bytes: nothing is compared byte by byte -/
theorem code_word {y : MethodName} {bytes : ByteArray} {mx : Nat} {rt : Option FieldType} {a : Array Value} {s : State} {m : MethodId} {meth : Method} {c : Code} (h1 : s.methodNamed? y = some m) (h2 : s.vm.method? m = some meth) (h3 : meth.code = some c) (h4 : c.code = bytes)
    (h5 : (c.maxLocals == mx && c.exceptionTable.isEmpty && decide (c.maxStack ≤ mostOperands) && decide (meth.sig.returnType = rt) && !meth.locks && decide (parseMethodDescriptor y.desc = some meth.sig)) = true) : (Jvm.Cond.code y bytes mx rt).before a s = true := by
  simp only [Bool.and_eq_true, beq_iff_eq, Bool.not_eq_true', decide_eq_true_eq] at h5
  obtain ⟨⟨⟨⟨⟨g1, g2⟩, g3⟩, g4⟩, g5⟩, g6⟩ := h5
  simp [Cond.before, Cond.holds, Cond.value, h1, h2, h3, h4, g1, g2, g3, g4, g5, g6]
def isCode : Jvm.Cond → Bool
  | .code _ _ _ _ => true
  | _ => false
theorem all_split {L : List Jvm.Cond} {P : Jvm.Cond → Bool} (h1 : L.all (fun c => isCode c || P c) = true) (h2 : ∀ c ∈ L.filter isCode, P c = true) : L.all P = true := by
  refine List.all_eq_true.mpr fun c hc => ?_
  have h := List.all_eq_true.mp h1 c hc
  rcases Bool.eq_false_or_eq_true (isCode c) with hi | hi
  · exact h2 c (List.mem_filter.mpr ⟨hc, hi⟩)
  · simpa [hi] using h
set_option maxRecDepth 65536 in
theorem w_c0 : (Jvm.Cond.code x code maxLocals ret).before args0 about1 = true := code_word (m := ⟨1, 1⟩) (meth := k1m1) (c := k1c1) (by decide +kernel) rfl rfl rfl (by decide +kernel)
set_option maxRecDepth 65536 in
theorem w_c1 : (Jvm.Cond.code ({ cls := "com/example/libidem/libidem/FingerprintOfSha256PinLaw", name := "put", desc := "([BIJ)V" } : Jvm.MethodName) method_4_code (4 : Nat) (Option.none : Option Jvm.ClassFile.FieldType)).before args0 about1 = true := code_word (m := ⟨1, 3⟩) (meth := k1m3) (c := k1c3) (by decide +kernel) rfl rfl rfl (by decide +kernel)
set_option maxRecDepth 65536 in
theorem w_c2 : (Jvm.Cond.code ({ cls := "com/example/libidem/libidem/FingerprintOfSha256PinLaw", name := "byteAt", desc := "(JI)B" } : Jvm.MethodName) method_3_code (3 : Nat) (Option.some Jvm.ClassFile.FieldType.byte)).before args0 about1 = true := code_word (m := ⟨1, 2⟩) (meth := k1m2) (c := k1c2) (by decide +kernel) rfl rfl rfl (by decide +kernel)
set_option maxRecDepth 65536 in
theorem w_c3 : (Jvm.Cond.code ({ cls := "com/example/libidem/libidem/Fingerprint", name := "ofSha256", desc := "([B)Lcom/example/libidem/libidem/Fingerprint;" } : Jvm.MethodName) prog_9_method_3_code (1 : Nat) (Option.some (Jvm.ClassFile.FieldType.object "com/example/libidem/libidem/Fingerprint"))).before args0 about1 = true := code_word (m := ⟨2, 1⟩) (meth := k2m1) (c := k2c1) (by decide +kernel) rfl rfl rfl (by decide +kernel)
set_option maxRecDepth 65536 in
theorem w_c4 : (Jvm.Cond.code ({ cls := "com/example/libidem/libidem/Fingerprint", name := "<init>", desc := "([B)V" } : Jvm.MethodName) prog_9_method_1_code (2 : Nat) (Option.none : Option Jvm.ClassFile.FieldType)).before args0 about1 = true := code_word (m := ⟨2, 0⟩) (meth := k2m0) (c := k2c0) (by decide +kernel) rfl rfl rfl (by decide +kernel)
set_option maxRecDepth 65536 in
theorem w_c5 : (Jvm.Cond.code ({ cls := "java/lang/Object", name := "<init>", desc := "()V" } : Jvm.MethodName) object_method_1_code (1 : Nat) (Option.none : Option Jvm.ClassFile.FieldType)).before args0 about1 = true := code_word (m := ⟨0, 0⟩) (meth := k0m0) (c := k0c0) (by decide +kernel) rfl rfl rfl (by decide +kernel)
set_option maxRecDepth 65536 in
theorem w_c6 : (Jvm.Cond.code ({ cls := "com/example/libidem/libidem/Fingerprint", name := "sha256", desc := "()[B" } : Jvm.MethodName) prog_9_method_4_code (1 : Nat) (Option.some (Jvm.ClassFile.FieldType.array Jvm.ClassFile.FieldType.byte))).before args0 about1 = true := code_word (m := ⟨2, 2⟩) (meth := k2m2) (c := k2c2) (by decide +kernel) rfl rfl rfl (by decide +kernel)
set_option maxRecDepth 65536 in
theorem w_c7 : (Jvm.Cond.code ({ cls := "com/example/libidem/libidem/FingerprintOfSha256PinLaw", name := "holds", desc := "([BIJ)Z" } : Jvm.MethodName) method_6_code (4 : Nat) (Option.some Jvm.ClassFile.FieldType.boolean)).before args0 about1 = true := code_word (m := ⟨1, 5⟩) (meth := k1m5) (c := k1c5) (by decide +kernel) rfl rfl rfl (by decide +kernel)
set_option maxRecDepth 65536 in
theorem w_c8 : (Jvm.Cond.code ({ cls := "com/example/libidem/libidem/FingerprintOfSha256PinLaw", name := "at", desc := "([BIJ)Z" } : Jvm.MethodName) method_5_code (4 : Nat) (Option.some Jvm.ClassFile.FieldType.boolean)).before args0 about1 = true := code_word (m := ⟨1, 4⟩) (meth := k1m4) (c := k1c4) (by decide +kernel) rfl rfl rfl (by decide +kernel)
def codes1 : List Jvm.Cond := [Jvm.Cond.code x code maxLocals ret, Jvm.Cond.code ({ cls := "com/example/libidem/libidem/FingerprintOfSha256PinLaw", name := "put", desc := "([BIJ)V" } : Jvm.MethodName) method_4_code (4 : Nat) (Option.none : Option Jvm.ClassFile.FieldType), Jvm.Cond.code ({ cls := "com/example/libidem/libidem/FingerprintOfSha256PinLaw", name := "byteAt", desc := "(JI)B" } : Jvm.MethodName) method_3_code (3 : Nat) (Option.some Jvm.ClassFile.FieldType.byte), Jvm.Cond.code ({ cls := "com/example/libidem/libidem/Fingerprint", name := "ofSha256", desc := "([B)Lcom/example/libidem/libidem/Fingerprint;" } : Jvm.MethodName) prog_9_method_3_code (1 : Nat) (Option.some (Jvm.ClassFile.FieldType.object "com/example/libidem/libidem/Fingerprint")), Jvm.Cond.code ({ cls := "com/example/libidem/libidem/Fingerprint", name := "<init>", desc := "([B)V" } : Jvm.MethodName) prog_9_method_1_code (2 : Nat) (Option.none : Option Jvm.ClassFile.FieldType), Jvm.Cond.code ({ cls := "java/lang/Object", name := "<init>", desc := "()V" } : Jvm.MethodName) object_method_1_code (1 : Nat) (Option.none : Option Jvm.ClassFile.FieldType), Jvm.Cond.code ({ cls := "com/example/libidem/libidem/Fingerprint", name := "sha256", desc := "()[B" } : Jvm.MethodName) prog_9_method_4_code (1 : Nat) (Option.some (Jvm.ClassFile.FieldType.array Jvm.ClassFile.FieldType.byte)), Jvm.Cond.code ({ cls := "com/example/libidem/libidem/FingerprintOfSha256PinLaw", name := "holds", desc := "([BIJ)Z" } : Jvm.MethodName) method_6_code (4 : Nat) (Option.some Jvm.ClassFile.FieldType.boolean), Jvm.Cond.code ({ cls := "com/example/libidem/libidem/FingerprintOfSha256PinLaw", name := "at", desc := "([BIJ)Z" } : Jvm.MethodName) method_5_code (4 : Nat) (Option.some Jvm.ClassFile.FieldType.boolean)]
set_option maxRecDepth 65536 in
theorem codes_eq : words1.filter isCode = codes1 := rfl
theorem w_codes : ∀ c ∈ words1.filter isCode, c.before args0 about1 = true := by
  rw [codes_eq]
  intro c hc
  simp only [codes1, List.mem_cons, List.not_mem_nil, or_false] at hc
  rcases hc with rfl | rfl | rfl | rfl | rfl | rfl | rfl | rfl | rfl
  · exact w_c0
  · exact w_c1
  · exact w_c2
  · exact w_c3
  · exact w_c4
  · exact w_c5
  · exact w_c6
  · exact w_c7
  · exact w_c8
set_option maxRecDepth 65536 in
theorem w_t1 : (words1.take 24).all (fun c => isCode c || c.before args0 about1) = true := by decide +kernel
set_option maxRecDepth 65536 in
theorem w_t2 : (words1.drop 24).all (fun c => isCode c || c.before args0 about1) = true := by decide +kernel
theorem w_tables : (allAtoms (Jvm.Cond.code x code maxLocals ret :: tables_1)).before args0 about1 = true := by
  rw [allAtoms_all]
  show words1.all (fun c => c.before args0 about1) = true
  refine all_split ?_ w_codes
  rw [← List.take_append_drop 24 words1, List.all_append, w_t1, w_t2]
  rfl
set_option maxRecDepth 65536 in
theorem w_case : (Jvm.Cond.and given_1 narrow_1).before args0 about1 = true := by decide +kernel
theorem w_applies : (headSpec (Jvm.Cond.code x code maxLocals ret :: tables_1) room_1).applies x e0.platform about1 = true :=
  (Spec.applies_iff w_frames).mpr ⟨w_running, w_runnable, w_alone, w_named, w_hears, w_ripe, w_room, w_tables⟩
theorem atStart : AtStart classFile x code maxLocals ret World_1 tables_1 room_1 Calls_1 rest_1 Pre_1 launch0 p0 e0 about1 theMethod args0 below0 :=
  ⟨lists_1, trivial, launch0.admits_env _ _ _, launch0.least_env, fairChoices_fair.cas, fairChoices_fair.clock, w_frames, w_args, w_heap, w_applies, trivial, trivial, w_case⟩
end start1
theorem witness_1 : WitnessClaimed_1 := ⟨start1.p0, start1.e0, start1.about1, start1.theMethod, start1.args0, start1.below0, start1.atStart⟩
end Jvm.Pilot.@@N@@
