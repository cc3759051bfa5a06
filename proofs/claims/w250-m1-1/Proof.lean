import JvmDerived
import JvmDerived.Pilot.@@N@@Statement
import JvmDerived.Pilot.@@N@@Code
set_option linter.unusedVariables false
set_option linter.unusedSimpArgs false

namespace Jvm.Pilot.@@N@@
open Jvm Jvm.ClassFile Sem Op Lib Jvm.Free Jvm.Stand Jvm.LawKit Jvm.RoadKit Bundle Jvm.Pilot.@@N@@.Jvm.D
section Own
variable {p : Program} {l : Launch} {e : Env} {R : Room} {s : State} {m : MethodId} {args : Array Value} {below : List Frame} {meth : Method} {c : Code} {T T' : State} {cells slots n0 kk nn : Nat} {Z : State} {a0 : Array Value} {h h' : Heap} {Q : Option Value → Heap → Prop} {g g' : JFrame} {y : MethodName} {bytes : ByteArray} {maxL : Nat} {ret : Option FieldType}
/-- where a walk stands: its fixed facts, and the library's Stand with its written places hidden (all of them new) -/
def OAt (n0 : Nat) (Z : State) (y : MethodName) (bytes : ByteArray) (maxL : Nat) (ret : Option FieldType) (p : Program) (l : Launch) (e : Env) (R : Room) (s : State) (m : MethodId) (args : Array Value) (below : List Frame) (meth : Method) (c : Code) (T : State) (h : Heap) (cells slots : Nat) : Prop :=
  (p.tables.exec = Jvm.exec ∧ Z.Warmed39 s.vm ∧ s.vm.findClass y.cls = some m.cls ∧ meth.name = y.name ∧ c.code = bytes ∧ c.maxLocals = maxL ∧ meth.sig.returnType = ret ∧ meth.locks = false) ∧
    ∃ locs, Stand p l e R s m args below meth c T locs cells slots ∧ Fr n0 locs ∧ T.heap = h
/-- the run from here ends, returns, and Q holds of what it returns and of the heap -/
def OFin (n0 : Nat) (p : Program) (e : Env) (s : State) (below : List Frame) (Q : Option Value → Heap → Prop) (kk nn : Nat) (T : State) (g : JFrame) : Prop :=
  ∃ s₂ o, Steps p.tables e below (T.setTop g) s₂ ∧ s₂.status = .running ∧ Ended s₂ below o ∧ ∃ v L, o = .returned v ∧ (Q v s₂.heap ∧ Fr n0 L) ∧ FrameEnd s o s₂ L kk nn
abbrev OMeets (l : Launch) (Z : State) (y : MethodName) (ws : List Jvm.Cond) (bytes : ByteArray) (maxL : Nat) (ret : Option FieldType) (rm : Room) (as' : Array Value) (h0 : Heap) (n0 : Nat) (Q : Option Value → Heap → Prop) : Prop :=
  MetFree l y (head1 (Jvm.Cond.code y bytes maxL ret :: ws) rm) (fun a U => a = as' ∧ Z.Warmed39 U.vm ∧ U.heap = h0) (fun _ _ _ _ _ => True) (fun _ U o U' => ∃ v L, o = .returned v ∧ (Q v U'.heap ∧ Fr n0 L) ∧ FrameEnd U o U' L rm.cells rm.slots)
theorem o_enter {ws : List Jvm.Cond} {rm : Room} {as' : Array Value} {h0 : Heap} (pn : plainFor y = true)
    (body : ∀ (p : Program) (e : Env) (s : State) (m : MethodId) (below : List Frame) (meth : Method) (c : Code) (s₁ : State), OAt n0 Z y bytes maxL ret p l e rm s m as' below meth c s₁ h0 0 0 → OFin n0 p e s below Q rm.cells rm.slots s₁ (entryFrame m as' maxL)) :
    OMeets l Z y ws bytes maxL ret rm as' h0 n0 Q := by
  refine MetFree.of_bodySF pn hisR ?_
  intro p e s m args below meth c s₁ Bd hml0 hP hK
  obtain ⟨rfl, hZ, hh⟩ := hP
  have e0 : s₁.heap = h0 := by rw [← hh, Bd.state]; rfl
  exact body p e s m below meth c s₁ ⟨⟨Bd.exec, hZ, findClass_of_methodNamed Bd.named, (name_of_methodNamed Bd.named Bd.method).1, Bd.bytes, hml0, Bd.returns, Bd.notSynchronized⟩, [], Stand.of_body Bd, Fr.nil n0, e0⟩
theorem OFin.cast (q : g = g') (k : OFin n0 p e s below Q kk nn T g') : OFin n0 p e s below Q kk nn T g := q ▸ k
theorem OFin.run (f : ∀ t, Steps p.tables e below (T'.setTop g') t → Steps p.tables e below (T.setTop g) t) (k : OFin n0 p e s below Q kk nn T' g') : OFin n0 p e s below Q kk nn T g := by
  obtain ⟨s₂, o, h1, h2⟩ := k; exact ⟨s₂, o, f _ h1, h2⟩
theorem OFin.imp {Q' : Option Value → Heap → Prop} (k : OFin n0 p e s below Q' kk nn T g) (f : ∀ v h, Q' v h → Q v h) : OFin n0 p e s below Q kk nn T g := by
  obtain ⟨s₂, o, h1, h2, h3, v, L, h4, h5, h6⟩ := k; exact ⟨s₂, o, h1, h2, h3, v, L, h4, ⟨f _ _ h5.1, h5.2⟩, h6⟩
/-- a step of the single-step laws -/
theorem OAt.step (X : OAt n0 Z y bytes maxL ret p l e R s m args below meth c T h cells slots) (f : At T m c below → p.tables.exec = Jvm.exec → c.code = bytes → ∀ t, Steps p.tables e below (T.setTop g') t → Steps p.tables e below (T.setTop g) t) (k : OFin n0 p e s below Q kk nn T g') : OFin n0 p e s below Q kk nn T g := by
  obtain ⟨⟨hx, -, -, -, hby, -⟩, locs, X, -⟩ := X
  exact OFin.run (f X.here hx hby) k
theorem OAt.retN (X : OAt n0 Z y bytes maxL (some t) p l e R s m args below meth c T h cells slots) (ht : t = .boolean ∨ t = .byte ∨ t = .char ∨ t = .short) {pc : Nat} {Ls : Array Slot} {z : Int32} {rest : List Value} (hd : decode bytes pc = .ok (.ireturn, 1)) (hc : cells ≤ kk) (hn : slots ≤ nn) (hQ : Q (some (.int (nar t z))) h) : OFin n0 p e s below Q kk nn T (mkF m pc Ls (.int z :: rest)) := by
  obtain ⟨⟨hx, -, -, -, hby, -, hret, hlk⟩, locs, X, N, eh⟩ := X
  obtain ⟨fs, hr, hrun, hended, hW, hsame⟩ := X.leave (v := some (.int (nar t z))) (fun h => by rw [hret] at h; cases h) hlk
  exact ⟨_, _, Jvm.RoadKit.retN X hx hret ht (hb hby hd) hr, hrun, hended, _, _, rfl, ⟨by show Q _ T.heap; rw [eh]; exact hQ, N⟩, ⟨_, rfl⟩, hW, hsame.mono hc hn⟩
theorem OAt.retI (X : OAt n0 Z y bytes maxL (some .int) p l e R s m args below meth c T h cells slots) {pc : Nat} {Ls : Array Slot} {z : Int32} {rest : List Value} (hd : decode bytes pc = .ok (.ireturn, 1)) (hc : cells ≤ kk) (hn : slots ≤ nn) (hQ : Q (some (.int z)) h) : OFin n0 p e s below Q kk nn T (mkF m pc Ls (.int z :: rest)) := by
  obtain ⟨⟨hx, -, -, -, hby, -, hret, hlk⟩, locs, X, N, eh⟩ := X
  obtain ⟨fs, hr, hrun, hended, hW, hsame⟩ := X.leave (v := some (.int z)) (fun h => by rw [hret] at h; cases h) hlk
  exact ⟨_, _, retOut X hx hret rfl (Or.inl ⟨rfl, Or.inl rfl, _, rfl⟩) (hb hby hd) hr, hrun, hended, _, _, rfl, ⟨by show Q _ T.heap; rw [eh]; exact hQ, N⟩, ⟨_, rfl⟩, hW, hsame.mono hc hn⟩
theorem OAt.retL (X : OAt n0 Z y bytes maxL (some .long) p l e R s m args below meth c T h cells slots) {pc : Nat} {Ls : Array Slot} {z : Int64} {rest : List Value} (hd : decode bytes pc = .ok (.lreturn, 1)) (hc : cells ≤ kk) (hn : slots ≤ nn) (hQ : Q (some (.long z)) h) : OFin n0 p e s below Q kk nn T (mkF m pc Ls (.long z :: rest)) := by
  obtain ⟨⟨hx, -, -, -, hby, -, hret, hlk⟩, locs, X, N, eh⟩ := X
  obtain ⟨fs, hr, hrun, hended, hW, hsame⟩ := X.leave (v := some (.long z)) (fun h => by rw [hret] at h; cases h) hlk
  exact ⟨_, _, retOut X hx hret rfl (Or.inr (Or.inl ⟨rfl, rfl, _, rfl⟩)) (hb hby hd) hr, hrun, hended, _, _, rfl, ⟨by show Q _ T.heap; rw [eh]; exact hQ, N⟩, ⟨_, rfl⟩, hW, hsame.mono hc hn⟩
theorem OAt.retR (X : OAt n0 Z y bytes maxL (some t) p l e R s m args below meth c T h cells slots) (ht : t.isReference = true) {pc : Nat} {Ls : Array Slot} {w : Value} {rest : List Value} (hw : w.isRef = true) (hd : decode bytes pc = .ok (.areturn, 1)) (hc : cells ≤ kk) (hn : slots ≤ nn) (hQ : Q (some w) h) : OFin n0 p e s below Q kk nn T (mkF m pc Ls (w :: rest)) := by
  obtain ⟨⟨hx, -, -, -, hby, -, hret, hlk⟩, locs, X, N, eh⟩ := X
  have hna : narrow t w = w := by rcases ref_cases hw with rfl | ⟨a, rfl⟩ <;> cases t <;> first | rfl | cases ht
  obtain ⟨fs, hr, hrun, hended, hW, hsame⟩ := X.leave (v := some w) (fun h => by rw [hret] at h; cases h) hlk
  exact ⟨_, _, retOut X hx hret hna (Or.inr (Or.inr (Or.inr (Or.inr ⟨rfl, ht, hw⟩)))) (hb hby hd) hr, hrun, hended, _, _, rfl, ⟨by show Q _ T.heap; rw [eh]; exact hQ, N⟩, ⟨_, rfl⟩, hW, hsame.mono hc hn⟩
theorem OAt.retV (X : OAt n0 Z y bytes maxL none p l e R s m args below meth c T h cells slots) {pc : Nat} {Ls : Array Slot} (hd : decode bytes pc = .ok (.return_, 1)) (hc : cells ≤ kk) (hn : slots ≤ nn) (hQ : Q none h) : OFin n0 p e s below Q kk nn T (mkF m pc Ls []) := by
  obtain ⟨⟨hx, -, -, -, hby, -, hret, hlk⟩, locs, X, N, eh⟩ := X
  obtain ⟨fs, hr, hrun, hended, hW, hsame⟩ := X.leave (v := none) (fun _ => rfl) hlk
  exact ⟨_, _, X.returnOut hx hret (hb hby hd) hr, hrun, hended, _, _, rfl, ⟨by show Q _ T.heap; rw [eh]; exact hQ, N⟩, ⟨_, rfl⟩, hW, hsame.mono hc hn⟩
theorem OAt.ldcI (X : OAt n0 Z y bytes maxL ret p l e R s m args below meth c T h cells slots) {index : Nat} {v : Int32} (w : (Jvm.Cond.constant y.cls index v).before a0 Z = true) (hg : g.method = m) (hd : decode bytes g.pc = .ok (.ldc index, 2))
    (k : OFin n0 p e s below Q kk nn T { g with pc := g.pc + 2, stack := .int v :: g.stack }) : OFin n0 p e s below Q kk nn T g := by
  obtain ⟨⟨hx, hZ, hown, -, hby, -⟩, locs, X, -⟩ := X
  exact OFin.run (X.ldcInt hx hown (mvT hZ w) hg (hb hby hd)) k
theorem OAt.ldcwI (X : OAt n0 Z y bytes maxL ret p l e R s m args below meth c T h cells slots) {index : Nat} {v : Int32} (w : (Jvm.Cond.constant y.cls index v).before a0 Z = true) (hg : g.method = m) (hd : decode bytes g.pc = .ok (.ldc_w index, 3))
    (k : OFin n0 p e s below Q kk nn T { g with pc := g.pc + 3, stack := .int v :: g.stack }) : OFin n0 p e s below Q kk nn T g := by
  obtain ⟨⟨hx, hZ, hown, -, hby, -⟩, locs, X, -⟩ := X
  exact OFin.run (X.ldcwInt hx hown (mvT hZ w) hg (hb hby hd)) k
theorem OAt.ldcL (X : OAt n0 Z y bytes maxL ret p l e R s m args below meth c T h cells slots) {index : Nat} {v : Int64} (w : (Jvm.Cond.constantLong y.cls index v).before a0 Z = true) (hg : g.method = m) (hd : decode bytes g.pc = .ok (.ldc2_w index, 3))
    (k : OFin n0 p e s below Q kk nn T { g with pc := g.pc + 3, stack := .long v :: g.stack }) : OFin n0 p e s below Q kk nn T g := by
  obtain ⟨⟨hx, hZ, hown, -, hby, -⟩, locs, X, -⟩ := X
  exact OFin.run (X.ldc2Long hx hown (mvT hZ w) hg (hb hby hd)) k
theorem OAt.getF (X : OAt n0 Z y bytes maxL ret p l e R s m args below meth c T h cells slots) {O n d : String} {index : Nat} (w : (Jvm.Cond.fieldLink y.cls index O n d).before a0 Z = true) {a : Addr} {v : Value} (F : Fld Z h a O n d v) (hg : g.method = m) {rest : List Value} (hs : g.stack = .ref a :: rest) (hd : decode bytes g.pc = .ok (.getfield index, 3))
    (k : ∀ T', OAt n0 Z y bytes maxL ret p l e R s m args below meth c T' h cells slots → OFin n0 p e s below Q kk nn T' { g with pc := g.pc + 3, stack := v :: rest }) : OFin n0 p e s below Q kk nn T g := by
  obtain ⟨C, locs, X, N, eh⟩ := X
  obtain ⟨hx, hZ, hown, -, hby, -⟩ := id C
  obtain ⟨T', X', e', st⟩ := Jvm.RoadKit.getF X hx hZ hown (host := "") (Or.inl w) Via.refl eh F hg hs (hb hby hd)
  exact OFin.run st (k T' ⟨C, locs, X', N, e'⟩)
theorem OAt.getS (X : OAt n0 Z y bytes maxL ret p l e R s m args below meth c T h cells slots) {O n d : String} {index : Nat} (w : (Jvm.Cond.fieldLink y.cls index O n d).before a0 Z = true) {v : Value} (F : Sta Z h O n d v) (hg : g.method = m) (hd : decode bytes g.pc = .ok (.getstatic index, 3))
    (k : ∀ T', OAt n0 Z y bytes maxL ret p l e R s m args below meth c T' h cells slots → OFin n0 p e s below Q kk nn T' { g with pc := g.pc + 3, stack := v :: g.stack }) : OFin n0 p e s below Q kk nn T g := by
  obtain ⟨C, locs, X, N, eh⟩ := X
  obtain ⟨hx, hZ, hown, -, hby, -⟩ := id C
  obtain ⟨T', X', e', st⟩ := Jvm.RoadKit.getS X hx hZ hown w Via.refl eh F hg (hb hby hd) (host := "")
  exact OFin.run st (k T' ⟨C, locs, X', N, e'⟩)
theorem OAt.putF (X : OAt n0 Z y bytes maxL ret p l e R s m args below meth c T h cells slots) {O n d C : String} {index ki : Nat} {ty : FieldType} (w : (Jvm.Cond.fieldLink y.cls index O n d).before a0 Z = true) {a : Addr} {v old : Value} (F : Fld Z h a O n d old) (E : Exa Z h a C) (L : (Jvm.Cond.lays C O n d).before a0 Z = true ∨ ((Jvm.Cond.laysFinal C O n d).before a0 Z = true ∧ y.cls = O ∧ y.name = "<init>"))
    (wi : (Jvm.Cond.instantiable C ki).before a0 Z = true) (hty : parseFieldDescriptor d = some ty) (hn : narrow ty v = v) (hf : fits ty v = true) (hnew : n0 ≤ a) (hg : g.method = m) {rest : List Value} (hs : g.stack = v :: .ref a :: rest) (hd : decode bytes g.pc = .ok (.putfield index, 3))
    (k : ∀ T' h', OAt n0 Z y bytes maxL ret p l e R s m args below meth c T' h' cells slots → Wr h h' a (Jvm.RoadKit.slotOf Z O n d) v → OFin n0 p e s below Q kk nn T' { g with pc := g.pc + 3, stack := rest }) : OFin n0 p e s below Q kk nn T g := by
  obtain ⟨C, locs, X, N, eh⟩ := X
  obtain ⟨hx, hZ, hown, hnm, hby, -⟩ := id C
  obtain ⟨T', h', X', e', W, st⟩ := Jvm.RoadKit.putF X hx hZ hown (host := "") (Or.inl w) Via.refl eh F E (L.imp id fun q => ⟨q.1, q.2.1, hnm.trans q.2.2⟩) wi hty hn hf hg hs (hb hby hd)
  exact OFin.run st (k T' h' ⟨C, _, X', Fr.snoc X' N hnew, e'⟩ W)
theorem OAt.initO (X : OAt n0 Z y bytes maxL ret p l e R s m args below meth c T h cells slots) {idx : Nat} (w1 : (Jvm.Cond.methodLink y.cls idx Lib.objectInit).before a0 Z = true) (w2 : (Jvm.Cond.instanceMethod Lib.objectInit).before a0 Z = true) (w3 : (Jvm.Cond.code Lib.objectInit ⟨#[0xb1]⟩ 1 none).before a0 Z = true) (hg : g.method = m) (hsize : g.locals.size = maxL) {a : Addr} {rest : List Value} (hs : g.stack = .ref a :: rest) (hd : decode bytes g.pc = .ok (.invokespecial idx, 3))
    (hf : 1 ≤ R.frames) {W : Nat} (hW : 2 * g.monitorRoom + (rest.map fun v => v.category).sum ≤ W) (hl : W + 12 ≤ R.locals)
    (k : ∀ T', OAt n0 Z y bytes maxL ret p l e R s m args below meth c T' h cells slots → OFin n0 p e s below Q kk nn T' { g with pc := g.pc + 3, stack := rest }) : OFin n0 p e s below Q kk nn T g := by
  obtain ⟨C, locs, X, N, eh⟩ := X
  obtain ⟨hx, hZ, hown, -, hby, hml, -⟩ := id C
  obtain ⟨T', X', e', st⟩ := Jvm.RoadKit.initO X hx hZ hown w1 w2 w3 eh hg (hsize.trans hml.symm) hs (hb hby hd) hf hW hl
  exact OFin.run st (k T' ⟨C, locs, X', N, e'⟩)
theorem OAt.newO (X : OAt n0 Z y bytes maxL ret p l e R s m args below meth c T h cells slots) {C : String} {index n : Nat} (w : (Jvm.Cond.classLink y.cls index C).before a0 Z = true) (wi : (Jvm.Cond.instantiable C n).before a0 Z = true) (wz : (Jvm.Cond.initialized C).before a0 Z = true) (hg : g.method = m) (hd : decode bytes g.pc = .ok (.new index, 3)) (hc : cells + 1 ≤ R.cells) (hl : slots + n ≤ R.slots)
    (k : ∀ T' h' a, a = h.size → OAt n0 Z y bytes maxL ret p l e R s m args below meth c T' h' (cells + 1) (slots + n) → Ext h h' → Exa Z h' a C → (∀ {O nm d : String} {ty : FieldType}, Laid Z a0 C O nm d → parseFieldDescriptor d = some ty → Fld Z h' a O nm d (defaultValue ty)) → OFin n0 p e s below Q kk nn T' { g with pc := g.pc + 3, stack := .ref a :: g.stack }) : OFin n0 p e s below Q kk nn T g := by
  obtain ⟨C', locs, X, N, eh⟩ := X
  obtain ⟨hx, hZ, hown, -, hby, -⟩ := id C'
  obtain ⟨T', h', X', e', E, A, D, -, st⟩ := Jvm.RoadKit.newO X hx hZ hown w wi wz eh hg (hb hby hd) hc hl
  exact OFin.run st (k T' h' _ rfl ⟨C', locs, X', N, e'⟩ E A D)
theorem OAt.newP (X : OAt n0 Z y bytes maxL ret p l e R s m args below meth c T h cells slots) {aty : ArrayType} (w : (Jvm.Cond.arrayClass (newarray.typeOf aty)).before a0 Z = true) (hg : g.method = m) (hd : decode bytes g.pc = .ok (.newarray aty, 2)) {n : Int32} {rest : List Value} (hs : g.stack = .int n :: rest) (hn : ¬ n < 0) {cap : Nat} (hcap : n.toNatClampNeg ≤ cap) (hb8 : cap * 8 ≤ 536870912) (hc : cells + 1 ≤ R.cells) (hl : slots + cap ≤ R.slots) {ad : String} (had : "[" ++ (newarray.typeOf aty).toString = ad)
    (k : ∀ T' h' cA a, a = h.size → OAt n0 Z y bytes maxL ret p l e R s m args below meth c T' h' (cells + 1) (slots + cap) → Ext h h' → Arr Z h' a (newA cA (newarray.typeOf aty) n) (newarray.typeOf aty) → Exa Z h' a ad → OFin n0 p e s below Q kk nn T' { g with pc := g.pc + 2, stack := .ref a :: rest }) : OFin n0 p e s below Q kk nn T g := by
  obtain ⟨C', locs, X, N, eh⟩ := X
  obtain ⟨hx, hZ, hown, -, hby, -⟩ := id C'
  obtain ⟨T', h', cA, X', e', E, A, A', st⟩ := newPE X hx hZ w eh hg (hb hby hd) hs hn hcap hb8 hc hl had
  exact OFin.run st (k T' h' cA _ rfl ⟨C', locs, X', N, e'⟩ E A A')
theorem OAt.newRA (X : OAt n0 Z y bytes maxL ret p l e R s m args below meth c T h cells slots) {C : String} {ty : FieldType} {index : Nat} (hC : (FieldType.array ty).toString = C) (w1 : (Jvm.Cond.classLink y.cls index C).before a0 Z = true) (w2 : (Jvm.Cond.arrayOver (.array ty)).before a0 Z = true) (hg : g.method = m) (hd : decode bytes g.pc = .ok (.anewarray index, 3)) {n : Int32} {rest : List Value} (hs : g.stack = .int n :: rest) (hn : ¬ n < 0) {cap : Nat} (hcap : n.toNatClampNeg ≤ cap) (hb8 : cap * 8 ≤ 536870912) (hc : cells + 1 ≤ R.cells) (hl : slots + cap ≤ R.slots) {ad : String} (had : "[" ++ C = ad)
    (k : ∀ T' h' cA a, a = h.size → OAt n0 Z y bytes maxL ret p l e R s m args below meth c T' h' (cells + 1) (slots + cap) → Ext h h' → Arr Z h' a (newA cA (.array ty) n) (.array ty) → Exa Z h' a ad → OvrA Z cA ty C → OFin n0 p e s below Q kk nn T' { g with pc := g.pc + 3, stack := .ref a :: rest }) : OFin n0 p e s below Q kk nn T g := by
  obtain ⟨C', locs, X, N, eh⟩ := X
  obtain ⟨hx, hZ, hown, -, hby, -⟩ := id C'
  obtain ⟨T', h', cA, X', e', E, A, A', O, st⟩ := Jvm.RoadKit.newRA X hx hZ hown hC w1 w2 eh hg (hb hby hd) hs hn hcap hb8 hc hl had
  exact OFin.run st (k T' h' cA _ rfl ⟨C', locs, X', N, e'⟩ E A A' O)
theorem OAt.clone (X : OAt n0 Z y bytes maxL ret p l e R s m args below meth c T h cells slots) {ad : String} {index : Nat} (w1 : (Jvm.Cond.methodLink y.cls index ⟨ad, "clone", "()Ljava/lang/Object;"⟩).before a0 Z = true) (w2 : (Jvm.Cond.sameMethod ad "java/lang/Object" "clone" "()Ljava/lang/Object;").before a0 Z = true) (w3 : (Jvm.Cond.native ⟨"java/lang/Object", "clone", "()Ljava/lang/Object;"⟩).before a0 Z = true)
    (w4 : (Jvm.Cond.instanceMethod ⟨"java/lang/Object", "clone", "()Ljava/lang/Object;"⟩).before a0 Z = true) (w5 : (Jvm.Cond.selects ad ⟨ad, "clone", "()Ljava/lang/Object;"⟩ ⟨"java/lang/Object", "clone", "()Ljava/lang/Object;"⟩).before a0 Z = true) (w6 : (Jvm.Cond.castable ad "java/lang/Cloneable").before a0 Z = true)
    {a : Addr} {cl : Cell} {ty : FieldType} (A : Arr Z h a cl ty) (E : Exa Z h a ad) (F : FitC Z cl) (hg : g.method = m) (hsize : g.locals.size = maxL) {rest : List Value} (hs : g.stack = .ref a :: rest) (hd : decode bytes g.pc = .ok (.invokevirtual index, 3))
    (hf : 1 ≤ R.frames) {W cap : Nat} (hW : 2 * g.monitorRoom + (rest.map fun v => v.category).sum ≤ W) (hl : W + 14 ≤ R.locals) (hcap : cl.slots.size ≤ cap) (hc : cells + 1 ≤ R.cells) (hsl : slots + cap ≤ R.slots)
    (k : ∀ T' h' b, b = h.size → OAt n0 Z y bytes maxL ret p l e R s m args below meth c T' h' (cells + 1) (slots + cap) → Ext h h' → Arr Z h' b (Jvm.RoadKit.cloneOf cl) ty → Exa Z h' b ad → OFin n0 p e s below Q kk nn T' { g with pc := g.pc + 3, stack := .ref b :: rest }) : OFin n0 p e s below Q kk nn T g := by
  obtain ⟨C', locs, X, N, eh⟩ := X
  obtain ⟨hx, hZ, hown, -, hby, hml, -⟩ := id C'
  obtain ⟨T', h', X', e', E', A', A'', st⟩ := Jvm.RoadKit.cloneA X hx hZ hown w1 w2 w3 w4 w5 w6 eh A E F hg (hsize.trans hml.symm) hs (hb hby hd) hf hW hl hcap hc hsl
  exact OFin.run st (k T' h' _ rfl ⟨C', locs, X', N, e'⟩ E' A' A'')
theorem OAt.stR (X : OAt n0 Z y bytes maxL ret p l e R s m args below meth c T h cells slots) {a : Addr} {cl : Cell} {ty : FieldType} (A : Arr Z h a cl ty) {j : Int32} {v : Value} (hin : ¬ (j < 0 ∨ cl.slots.size ≤ j.toNatClampNeg)) (hty : ty.isReference = true) (F : Sto Z h a v) (hnew : n0 ≤ a) (hg : g.method = m) {rest : List Value} (hs : g.stack = v :: .int j :: .ref a :: rest) (hd : decode bytes g.pc = .ok (.aastore, 1))
    (k : ∀ T' h', OAt n0 Z y bytes maxL ret p l e R s m args below meth c T' h' cells slots → Wr h h' a j.toNatClampNeg v → OFin n0 p e s below Q kk nn T' { g with pc := g.pc + 1, stack := rest }) : OFin n0 p e s below Q kk nn T g := by
  obtain ⟨C, locs, X, N, eh⟩ := X
  obtain ⟨hx, hZ, hown, -, hby, -⟩ := id C
  obtain ⟨T', h', X', e', W, st⟩ := Jvm.RoadKit.stR X hx hZ eh A hin hty F hg hs (hb hby hd)
  exact OFin.run st (k T' h' ⟨C, _, X', Fr.snoc X' N hnew, e'⟩ W)
theorem OAt.acmp (X : OAt n0 Z y bytes maxL ret p l e R s m args below meth c T h cells slots) (hg : g.method = m) {cd : ACond} {u v : Value} (h1 : u.isRef = true) (h2 : v.isRef = true) {rest : List Value} {o : Int} {pc0 pc' : Nat} {same : Bool} (hpc : g.pc = pc0) (hd : decode bytes g.pc = .ok (.if_acmp cd o, 3)) (hs : g.stack = v :: u :: rest) (hq : decide (u = v) = same) (ho : 0 ≤ (pc0 : Int) + o) (hp : pc' = if acV cd same = true then ((pc0 : Int) + o).toNat else pc0 + 3)
    (k : OFin n0 p e s below Q kk nn T { g with pc := pc', stack := rest }) : OFin n0 p e s below Q kk nn T g := by
  obtain ⟨⟨hx, hZ, hown, -, hby, -⟩, locs, X, -⟩ := X
  exact OFin.run (fun t kk => Jvm.RoadKit.acmp X hx hg h1 h2 hpc (hb hby hd) hs hq ho hp kk) k
theorem OAt.irem (X : OAt n0 Z y bytes maxL ret p l e R s m args below meth c T h cells slots) (hg : g.method = m) {u v : Int32} {rest : List Value} (hd : decode bytes g.pc = .ok (.irem, 1)) (hs : g.stack = .int v :: .int u :: rest) (hv : v ≠ 0)
    (k : OFin n0 p e s below Q kk nn T { g with pc := g.pc + 1, stack := .int (u % v) :: rest }) : OFin n0 p e s below Q kk nn T g := by
  obtain ⟨⟨hx, hZ, hown, -, hby, -⟩, locs, X, -⟩ := X
  exact OFin.run (fun t kk => iremM X hx hg (hb hby hd) hs hv kk) k
theorem OAt.callS (X : OAt n0 Z y bytes maxL ret p l e R s m args below meth c T h cells slots) {index : Nat} {y' : MethodName} {bytes' : ByteArray} {maxL' : Nat} {ret' : Option FieldType} (w1 : (Jvm.Cond.methodLink y.cls index y').before a0 Z = true) (w2 : (Jvm.Cond.static y').before a0 Z = true) (w3 : (Jvm.Cond.initialized y'.cls).before a0 Z = true) (w4 : (Jvm.Cond.code y' bytes' maxL' ret').before a0 Z = true)
    (hy : y'.cls ≠ "java/lang/invoke/MethodHandle" ∧ y'.cls ≠ "java/lang/invoke/VarHandle") {rm : Room} {Qc : Option Value → Heap → Prop} {argsL rest : List Value} (hM : OMeets l Z y' [] bytes' maxL' ret' rm argsL.toArray h n0 Qc)
    (hg : g.method = m) (hsize : g.locals.size = maxL) {ps : List FieldType} {r : Option FieldType} (hpd : parseMethodDescriptor y'.desc = some ⟨ps, r⟩) (hlen : argsL.length = ps.length) (hs : g.stack = argsL.reverse ++ rest) {W : Nat} (hW : 2 * g.monitorRoom + (rest.map fun v => v.category).sum ≤ W) (hd : decode bytes g.pc = .ok (.invokestatic index, 3))
    (hf : rm.frames + 1 ≤ R.frames) (hl : W + (maxL' + 11) + rm.locals ≤ R.locals) (hc : cells + rm.cells ≤ R.cells) (hn : slots + rm.slots ≤ R.slots)
    (k : ∀ v T' h', OAt n0 Z y bytes maxL ret p l e R s m args below meth c T' h' (cells + rm.cells) (slots + rm.slots) → Qc v h' → OFin n0 p e s below Q kk nn T' { g with pc := g.pc + 3, stack := v.toList ++ rest }) : OFin n0 p e s below Q kk nn T g := by
  obtain ⟨C, locs, X, N, eh⟩ := X
  obtain ⟨hx, hZ, hown, -, hby, hml, -⟩ := id C
  obtain ⟨v, _, ⟨T1, L1, k1, n1⟩, -, X1, ⟨Lc, hQ, l1, y1, z1⟩, st⟩ := Jvm.LawKit.callS X hx hown (mvT hZ w1) (mvT hZ w2) (mvT hZ w3) (mvT hZ w4) hy
    (backOf (W := W) (Q := fun v h L => Qc v h ∧ Fr n0 L) hM hZ w4 w3 hf hl) hg (hsize.trans hml.symm) (lenOf hpd hlen) hs hW (hb hby hd) (fun _ _ => ⟨rfl, eh, hc, hn⟩)
  dsimp only [Pt.U, Pt.locs, Pt.cells, Pt.slots] at X1 l1 y1 z1 st hQ
  subst l1 y1 z1
  exact OFin.run st (k v T1 _ ⟨C, _, X1, N.app hQ.2, rfl⟩ hQ.1)
theorem OAt.callI (X : OAt n0 Z y bytes maxL ret p l e R s m args below meth c T h cells slots) {index : Nat} {y' : MethodName} {bytes' : ByteArray} {maxL' : Nat} (hy1 : y'.name = "<init>") (w1 : (Jvm.Cond.methodLink y.cls index y').before a0 Z = true) (w2 : (Jvm.Cond.instanceMethod y').before a0 Z = true) (w3 : (Jvm.Cond.initialized y'.cls).before a0 Z = true) (w4 : (Jvm.Cond.code y' bytes' maxL' none).before a0 Z = true)
    (hy : y'.cls ≠ "java/lang/invoke/MethodHandle" ∧ y'.cls ≠ "java/lang/invoke/VarHandle") {rm : Room} {Qc : Option Value → Heap → Prop} {a : Addr} {argsL rest : List Value} (hM : OMeets l Z y' [] bytes' maxL' none rm (Value.ref a :: argsL).toArray h n0 Qc)
    (hg : g.method = m) (hsize : g.locals.size = maxL) {ps : List FieldType} {r : Option FieldType} (hpd : parseMethodDescriptor y'.desc = some ⟨ps, r⟩) (hlen : argsL.length = ps.length) (hs : g.stack = argsL.reverse ++ .ref a :: rest) {W : Nat} (hW : 2 * g.monitorRoom + (rest.map fun v => v.category).sum ≤ W) (hd : decode bytes g.pc = .ok (.invokespecial index, 3))
    (hf : rm.frames + 1 ≤ R.frames) (hl : W + (maxL' + 11) + rm.locals ≤ R.locals) (hc : cells + rm.cells ≤ R.cells) (hn : slots + rm.slots ≤ R.slots)
    (k : ∀ v T' h', OAt n0 Z y bytes maxL ret p l e R s m args below meth c T' h' (cells + rm.cells) (slots + rm.slots) → Qc v h' → OFin n0 p e s below Q kk nn T' { g with pc := g.pc + 3, stack := v.toList ++ rest }) : OFin n0 p e s below Q kk nn T g := by
  obtain ⟨C, locs, X, N, eh⟩ := X
  obtain ⟨hx, hZ, hown, -, hby, hml, -⟩ := id C
  obtain ⟨v, _, ⟨T1, L1, k1, n1⟩, -, X1, ⟨Lc, hQ, l1, y1, z1⟩, st⟩ := X.specialBack hx hy1 hown (mvT hZ w1) (mvT hZ w2) (mvT hZ w4) hy
    (backOf (W := W) (Q := fun v h L => Qc v h ∧ Fr n0 L) hM hZ w4 w3 hf hl) hg (hsize.trans hml.symm) (Steps.refl _) (lenOf hpd hlen) hs hW (hb hby hd) (fun _ _ => ⟨rfl, eh, hc, hn⟩)
  dsimp only [Pt.U, Pt.locs, Pt.cells, Pt.slots] at X1 l1 y1 z1 st hQ
  subst l1 y1 z1
  exact OFin.run (fun t k => st.trans k) (k v T1 _ ⟨C, _, X1, N.app hQ.2, rfl⟩ hQ.1)
theorem OAt.callV (X : OAt n0 Z y bytes maxL ret p l e R s m args below meth c T h cells slots) {index : Nat} {y' z' : MethodName} {C0 : String} {bytes' : ByteArray} {maxL' : Nat} {ret' : Option FieldType} (w1 : (Jvm.Cond.methodLink y.cls index y').before a0 Z = true) (w2 : (Jvm.Cond.declares y').before a0 Z = true) (nf : NotFace s y') (w5 : (Jvm.Cond.selects C0 y' z').before a0 Z = true) (w6 : (Jvm.Cond.instanceMethod z').before a0 Z = true) (w3 : (Jvm.Cond.initialized z'.cls).before a0 Z = true) (w4 : (Jvm.Cond.code z' bytes' maxL' ret').before a0 Z = true)
    (hy : y'.cls ≠ "java/lang/invoke/MethodHandle" ∧ y'.cls ≠ "java/lang/invoke/VarHandle") {rm : Room} {Qc : Option Value → Heap → Prop} {a : Addr} (E : Exa Z h a C0) {argsL rest : List Value} (hM : OMeets l Z z' [] bytes' maxL' ret' rm (Value.ref a :: argsL).toArray h n0 Qc)
    (hg : g.method = m) (hsize : g.locals.size = maxL) {ps : List FieldType} {r : Option FieldType} (hpd : parseMethodDescriptor y'.desc = some ⟨ps, r⟩) (hlen : argsL.length = ps.length) (hs : g.stack = argsL.reverse ++ .ref a :: rest) {W : Nat} (hW : 2 * g.monitorRoom + (rest.map fun v => v.category).sum ≤ W) (hd : decode bytes g.pc = .ok (.invokevirtual index, 3))
    (hf : rm.frames + 1 ≤ R.frames) (hl : W + (maxL' + 11) + rm.locals ≤ R.locals) (hc : cells + rm.cells ≤ R.cells) (hn : slots + rm.slots ≤ R.slots)
    (k : ∀ v T' h', OAt n0 Z y bytes maxL ret p l e R s m args below meth c T' h' (cells + rm.cells) (slots + rm.slots) → Qc v h' → OFin n0 p e s below Q kk nn T' { g with pc := g.pc + 3, stack := v.toList ++ rest }) : OFin n0 p e s below Q kk nn T g := by
  obtain ⟨C, locs, X, N, eh⟩ := X
  obtain ⟨hx, hZ, hown, -, hby, hml, -⟩ := id C
  obtain ⟨cq, kq, qa, qb, qc⟩ := isOf hZ eh E
  obtain ⟨v, _, ⟨T1, L1, k1, n1⟩, -, X1, ⟨Lc, hQ, l1, y1, z1⟩, st⟩ := X.virtualBack hx hown (mvT hZ w1) (mvT hZ w2) nf (mvT hZ w5) (mvT hZ w6) hy
    (backOf (W := W) (Q := fun v h L => Qc v h ∧ Fr n0 L) hM hZ w4 w3 hf hl) qa qc hg (hsize.trans hml.symm) (Steps.refl _) (lenOf hpd hlen) hs hW (hb hby hd) (fun _ _ => ⟨rfl, eh, hc, hn⟩)
  dsimp only [Pt.U, Pt.locs, Pt.cells, Pt.slots] at X1 l1 y1 z1 st hQ
  subst l1 y1 z1
  exact OFin.run (fun t k => st.trans k) (k v T1 _ ⟨C, _, X1, N.app hQ.2, rfl⟩ hQ.1)
theorem OAt.notFace (X : OAt n0 Z y bytes maxL ret p l e R s m args below meth c T h cells slots) {C0 : String} {y' z' : MethodName} (w : (Jvm.Cond.selects C0 y' z').before a0 Z = true) (hq : y' = z') : NotFace s y' := by
  obtain ⟨⟨hx, hZ, -⟩, -⟩ := X
  subst hq
  exact notFace_of_selects (args := #[]) (mvT hZ w)
theorem OAt.aload0 (X : OAt n0 Z y bytes maxL ret p l e R s m args below meth c T h cells slots) {a : Addr} {cl : Cell} {ty : FieldType} (A : Arr Z h a cl ty) {j : Int32} {v : Value} (hin : ¬ (j < 0 ∨ cl.slots.size ≤ j.toNatClampNeg)) (hv : cl.slots[j.toNatClampNeg]? = some v) (hg : g.method = m) {rest : List Value} (hs : g.stack = .int j :: .ref a :: rest)
    {i : Instr} (hi : (i = .iaload ∧ ty = .int) ∨ (i = .laload ∧ ty = .long) ∨ (i = .caload ∧ ty = .char) ∨ (i = .baload ∧ ty = .byte) ∨ (i = .aaload ∧ ty.isReference = true)) (hd : decode bytes g.pc = .ok (i, 1))
    (k : OFin n0 p e s below Q kk nn T { g with pc := g.pc + 1, stack := v :: rest }) : OFin n0 p e s below Q kk nn T g := by
  obtain ⟨⟨hx, hZ, hown, -, hby, -⟩, locs, X, N, eh⟩ := X
  have hA := State.isArrayOf_alike hZ.alike A.2.1
  have hc : T.heap[a]? = some cl := by rw [eh]; exact A.1
  rcases hi with ⟨rfl, rfl⟩ | ⟨rfl, rfl⟩ | ⟨rfl, rfl⟩ | ⟨rfl, rfl⟩ | ⟨rfl, ht⟩
  · exact OFin.run (X.iaload hx hc hA A.2.2 hin hv hg hs (hb hby hd)) k
  · exact OFin.run (X.laload hx hc hA A.2.2 hin hv hg hs (hb hby hd)) k
  · exact OFin.run (X.caload hx hc hA A.2.2 hin hv hg hs (hb hby hd)) k
  · exact OFin.run (X.baloadBytes hx hc hA A.2.2 hin hv hg hs (hb hby hd)) k
  · exact OFin.run (X.aaload hx hc hA ht A.2.2 hin hv hg hs (hb hby hd)) k
theorem OAt.alen (X : OAt n0 Z y bytes maxL ret p l e R s m args below meth c T h cells slots) {a : Addr} {cl : Cell} {ty : FieldType} (A : Arr Z h a cl ty) {n : Int32} (hn : cl.slots.size.toInt32 = n) (hg : g.method = m) {rest : List Value} (hs : g.stack = .ref a :: rest) (hd : decode bytes g.pc = .ok (.arraylength, 1))
    (k : OFin n0 p e s below Q kk nn T { g with pc := g.pc + 1, stack := .int n :: rest }) : OFin n0 p e s below Q kk nn T g := by
  obtain ⟨⟨hx, hZ, hown, -, hby, -⟩, locs, X, N, eh⟩ := X
  subst hn
  exact OFin.run (X.arraylength hx (by rw [eh]; exact A.1) (State.isArrayOf_alike hZ.alike A.2.1) hg hs (hb hby hd)) k
theorem OAt.stJ (X : OAt n0 Z y bytes maxL ret p l e R s m args below meth c T h cells slots) {a : Addr} {cl : Cell} (A : Arr Z h a cl .long) {j : Int32} {v : Int64} (hin : ¬ (j < 0 ∨ cl.slots.size ≤ j.toNatClampNeg)) (hnew : n0 ≤ a) (hg : g.method = m) {rest : List Value} (hs : g.stack = .long v :: .int j :: .ref a :: rest) (hd : decode bytes g.pc = .ok (.lastore, 1))
    (k : ∀ T' h', OAt n0 Z y bytes maxL ret p l e R s m args below meth c T' h' cells slots → Wr h h' a j.toNatClampNeg (.long v) → OFin n0 p e s below Q kk nn T' { g with pc := g.pc + 1, stack := rest }) : OFin n0 p e s below Q kk nn T g := by
  obtain ⟨C, locs, X, N, eh⟩ := X
  obtain ⟨hx, hZ, hown, -, hby, -⟩ := id C
  obtain ⟨T', h', X', e', W, st⟩ := Jvm.RoadKit.stJ X hx hZ eh A hin hg hs (hb hby hd)
  exact OFin.run st (k T' h' ⟨C, _, X', Fr.snoc X' N hnew, e'⟩ W)
theorem OAt.stB (X : OAt n0 Z y bytes maxL ret p l e R s m args below meth c T h cells slots) {a : Addr} {cl : Cell} (A : Arr Z h a cl .byte) {j v : Int32} (hin : ¬ (j < 0 ∨ cl.slots.size ≤ j.toNatClampNeg)) (hnew : n0 ≤ a) (hg : g.method = m) {rest : List Value} (hs : g.stack = .int v :: .int j :: .ref a :: rest) (hd : decode bytes g.pc = .ok (.bastore, 1))
    (k : ∀ T' h', OAt n0 Z y bytes maxL ret p l e R s m args below meth c T' h' cells slots → Wr h h' a j.toNatClampNeg (.int (nar .byte v)) → OFin n0 p e s below Q kk nn T' { g with pc := g.pc + 1, stack := rest }) : OFin n0 p e s below Q kk nn T g := by
  obtain ⟨C, locs, X, N, eh⟩ := X
  obtain ⟨hx, hZ, hown, -, hby, -⟩ := id C
  obtain ⟨T', h', X', e', W, st⟩ := Jvm.RoadKit.stB X hx hZ eh A hin hg hs (hb hby hd)
  exact OFin.run st (k T' h' ⟨C, _, X', Fr.snoc X' N hnew, e'⟩ W)
theorem OAt.stC (X : OAt n0 Z y bytes maxL ret p l e R s m args below meth c T h cells slots) {a : Addr} {cl : Cell} (A : Arr Z h a cl .char) {j v : Int32} (hin : ¬ (j < 0 ∨ cl.slots.size ≤ j.toNatClampNeg)) (hnew : n0 ≤ a) (hg : g.method = m) {rest : List Value} (hs : g.stack = .int v :: .int j :: .ref a :: rest) (hd : decode bytes g.pc = .ok (.castore, 1))
    (k : ∀ T' h', OAt n0 Z y bytes maxL ret p l e R s m args below meth c T' h' cells slots → Wr h h' a j.toNatClampNeg (.int (nar .char v)) → OFin n0 p e s below Q kk nn T' { g with pc := g.pc + 1, stack := rest }) : OFin n0 p e s below Q kk nn T g := by
  obtain ⟨C, locs, X, N, eh⟩ := X
  obtain ⟨hx, hZ, hown, -, hby, -⟩ := id C
  obtain ⟨T', h', X', e', W, st⟩ := Jvm.RoadKit.stC X hx hZ eh A hin hg hs (hb hby hd)
  exact OFin.run st (k T' h' ⟨C, _, X', Fr.snoc X' N hnew, e'⟩ W)
theorem OAt.instY (X : OAt n0 Z y bytes maxL ret p l e R s m args below meth c T h cells slots) {K : String} {index : Nat} (w : (Jvm.Cond.classLink y.cls index K).before a0 Z = true) {a : Addr} (F : Ins Z h a K true) (hg : g.method = m) {rest : List Value} (hs : g.stack = .ref a :: rest) (hd : decode bytes g.pc = .ok (.instanceof index, 3))
    (k : ∀ T', OAt n0 Z y bytes maxL ret p l e R s m args below meth c T' h cells slots → OFin n0 p e s below Q kk nn T' { g with pc := g.pc + 3, stack := .int 1 :: rest }) : OFin n0 p e s below Q kk nn T g := by
  obtain ⟨C, locs, X, N, eh⟩ := X
  obtain ⟨hx, hZ, hown, -, hby, -⟩ := id C
  obtain ⟨T', X', e', st⟩ := Jvm.RoadKit.instY X hx hZ hown w eh F hg hs (hb hby hd)
  exact OFin.run st (k T' ⟨C, locs, X', N, e'⟩)
theorem OAt.castY (X : OAt n0 Z y bytes maxL ret p l e R s m args below meth c T h cells slots) {K : String} {index : Nat} (w : (Jvm.Cond.classLink y.cls index K).before a0 Z = true) {a : Addr} (F : Ins Z h a K true) (hg : g.method = m) {rest : List Value} (hs : g.stack = .ref a :: rest) (hd : decode bytes g.pc = .ok (.checkcast index, 3))
    (k : ∀ T', OAt n0 Z y bytes maxL ret p l e R s m args below meth c T' h cells slots → OFin n0 p e s below Q kk nn T' { g with pc := g.pc + 3 }) : OFin n0 p e s below Q kk nn T g := by
  obtain ⟨C, locs, X, N, eh⟩ := X
  obtain ⟨hx, hZ, hown, -, hby, -⟩ := id C
  obtain ⟨T', X', e', st⟩ := Jvm.RoadKit.castY X hx hZ hown w eh F hg hs (hb hby hd)
  exact OFin.run st (k T' ⟨C, locs, X', N, e'⟩)
theorem OAt.instNo (X : OAt n0 Z y bytes maxL ret p l e R s m args below meth c T h cells slots) {K C : String} {index : Nat} (w : (Jvm.Cond.classLink y.cls index K).before a0 Z = true) {a : Addr} (E : Exa Z h a C) (F : ∃ c t, Z.vm.findClass C = some c ∧ Z.vm.findClass K = some t ∧ Z.vm.assignable c t = false) (hg : g.method = m) {rest : List Value} (hs : g.stack = .ref a :: rest) (hd : decode bytes g.pc = .ok (.instanceof index, 3))
    (k : ∀ T', OAt n0 Z y bytes maxL ret p l e R s m args below meth c T' h cells slots → OFin n0 p e s below Q kk nn T' { g with pc := g.pc + 3, stack := .int 0 :: rest }) : OFin n0 p e s below Q kk nn T g := by
  obtain ⟨C, locs, X, N, eh⟩ := X
  obtain ⟨hx, hZ, hown, -, hby, -⟩ := id C
  obtain ⟨T', X', e', st⟩ := Jvm.RoadKit.instNo X hx hZ hown w eh E F hg hs (hb hby hd)
  exact OFin.run st (k T' ⟨C, locs, X', N, e'⟩)
theorem OAt.instNull (X : OAt n0 Z y bytes maxL ret p l e R s m args below meth c T h cells slots) {index : Nat} (hg : g.method = m) {rest : List Value} (hs : g.stack = .null :: rest) (hd : decode bytes g.pc = .ok (.instanceof index, 3))
    (k : OFin n0 p e s below Q kk nn T { g with pc := g.pc + 3, stack := .int 0 :: rest }) : OFin n0 p e s below Q kk nn T g := by
  obtain ⟨⟨hx, hZ, hown, -, hby, -⟩, locs, X, N, eh⟩ := X
  exact OFin.run (X.instanceofNull hx hg hs (hb hby hd)) k
theorem o_nsRoot {O K : String} {n : Nat} (w : (Jvm.Cond.noSuperclass O).before a0 Z = true) (wk : (Jvm.Cond.instantiable K n).before a0 Z = true) (hn : O ≠ K) : NS Z O K := by
  obtain ⟨c, k, h1, h2, h3, -, -⟩ := Cond.noSuperclass_spec w
  obtain ⟨t, kt, g1, -⟩ := Cond.instantiable_spec wk
  have ne := ids_ne h1 g1 hn
  refine ⟨c, t, h1, g1, fun fuel => ?_⟩
  cases fuel with
  | zero => rfl
  | succ f => simp [Vm.isSubclassAux, ne, h2, h3]
theorem o_nsNo {C S K : String} {n : Nat} (w : (Jvm.Cond.superclass C S).before a0 Z = true) (wk : (Jvm.Cond.instantiable K n).before a0 Z = true) (q : NS Z C K) (hn : C ≠ K) : ∃ c t, Z.vm.findClass C = some c ∧ Z.vm.findClass K = some t ∧ Z.vm.assignable c t = false := by
  obtain ⟨c, t, h0, g0, n3⟩ := q
  obtain ⟨p, k, kp, h1, h2, h3, h4, h5, -, h7⟩ := Cond.superclass_spec h0 w
  obtain ⟨t2, k', g1, g2, g3, g4, -⟩ := Cond.instantiable_spec wk
  cases g0.symm.trans g1
  have ne := ids_ne h0 g0 hn
  have g5 : k'.isInterface = false := by simp only [Bool.or_eq_false_iff] at g4; exact g4.1
  refine ⟨c, t, h0, g0, ?_⟩
  show Z.vm.assignableAux (255 + 1) c t = false
  simp [Vm.assignableAux, ne, h2, g2, h5, g3, g5, Vm.isSubclass, n3]
/-- an array of N places; place j holds f j -/
def OArr (Z : State) (h : Heap) (a : Addr) (ty : FieldType) (N : Nat) (f : Nat → Value) : Prop := ∃ c : Cell, Arr Z h a c ty ∧ c.slots.size = N ∧ ∀ j, j < N → c.slots[j]? = some (f j)
theorem OArr.lt {a : Addr} {ty : FieldType} {N : Nat} {f : Nat → Value} (F : OArr Z h a ty N f) : a < h.size := by obtain ⟨c, A, -⟩ := F; exact A.lt
theorem OArr.ext {a : Addr} {ty : FieldType} {N : Nat} {f : Nat → Value} (F : OArr Z h a ty N f) (E : Ext h h') : OArr Z h' a ty N f := by obtain ⟨c, A, r⟩ := F; exact ⟨c, A.ext E, r⟩
theorem OArr.other {a b : Addr} {ty : FieldType} {N sl : Nat} {f : Nat → Value} {v : Value} (F : OArr Z h b ty N f) (W : Wr h h' a sl v) (q : b ≠ a) : OArr Z h' b ty N f := by obtain ⟨c, A, r⟩ := F; exact ⟨c, A.other W q, r⟩
theorem OArr.keep {a : Addr} {ws : List Addr} {ty : FieldType} {N : Nat} {f : Nat → Value} (F : OArr Z h a ty N f) (K : Keep h h' ws) (q : a ∉ ws) : OArr Z h' a ty N f := by obtain ⟨c, A, r⟩ := F; exact ⟨c, ⟨K.2.1 a c A.1 q, A.2⟩, r⟩
theorem OArr.new {a : Addr} {k : ClassId} {ty : FieldType} {z : Int32} (A : Arr Z h a (newA k ty z) ty) : OArr Z h a ty z.toNatClampNeg (fun _ => defaultValue ty) := ⟨_, A, sz_new _ _ _, fun j hj => by simp [newA, hj]⟩
theorem OArr.congr {a : Addr} {ty : FieldType} {N : Nat} {f f' : Nat → Value} (F : OArr Z h a ty N f) (q : ∀ j, j < N → f j = f' j) : OArr Z h a ty N f' := by obtain ⟨c, A, r1, r2⟩ := F; exact ⟨c, A, r1, fun j hj => by rw [r2 j hj, q j hj]⟩
theorem OArr.set {a : Addr} {ty : FieldType} {N i : Nat} {f : Nat → Value} {v : Value} (F : OArr Z h a ty N f) (W : Wr h h' a i v) : OArr Z h' a ty N (fun j => if j = i then v else f j) := by
  obtain ⟨c, A, r1, r2⟩ := F
  refine ⟨c.setSlot i v, A.same W, by rw [sz_set]; exact r1, fun j hj => ?_⟩
  by_cases q : j = i
  · subst q; simp [Cell.setSlot, r1, hj]
  · simp only [q, if_false]
    rw [← r2 j hj]
    exact Array.getElem?_setIfInBounds_ne (Ne.symm q)
theorem o_fitC {a : Addr} {cl : Cell} {ty : FieldType} (A : Arr Z h a cl ty) (q : ∀ (i : Nat) (v : Value), cl.slots[i]? = some v → fits ty v = true) : FitC Z cl := fun i v hv => by
  obtain ⟨hs, k, hk, comp, hkind⟩ := A.2.1
  simp [State.fitsSlot, State.slotType?, hk, hkind, q i v hv]
theorem o_in {N : Nat} {j : Int32} {cl : Cell} (S : cl.slots.size = N) (h0 : 0 ≤ j.toInt) (h1 : j.toInt < N) : ¬ (j < 0 ∨ cl.slots.size ≤ j.toNatClampNeg) := by
  have e : (0 : Int32).toInt = 0 := by decide
  have q : (j.toNatClampNeg : Int) = j.toInt := by show (j.toInt.toNat : Int) = _; omega
  rw [Int32.lt_iff_toInt_lt, S, e]; omega
theorem o_nat {j : Int32} (h0 : 0 ≤ j.toInt) : (j.toNatClampNeg : Int) = j.toInt := by show (j.toInt.toNat : Int) = _; omega
theorem OFin.mono {k2 n2 : Nat} (k : OFin n0 p e s below Q kk nn T g) (h1 : kk ≤ k2) (h2 : nn ≤ n2) : OFin n0 p e s below Q k2 n2 T g := by
  obtain ⟨s₂, o, q1, q2, q3, v, L, q4, q5, q6⟩ := k; exact ⟨s₂, o, q1, q2, q3, v, L, q4, q5, q6.1, q6.2.1, q6.2.2.mono h1 h2⟩
theorem o_static {C n d K : String} (hx : (Jvm.Cond.exactly (.static C n d) K).value args Z none Z [] = some true) (wi : (Jvm.Cond.initialized C).before args Z = true) (wl : (Jvm.Cond.laysStatic C n d).before args Z = true) :
    ∃ a, (Term.static C n d).eval args Z none [] Z = some (.ref a) ∧ Exa Z Z.heap a K ∧ Sta Z Z.heap C n d (.ref a) := by
  obtain ⟨a, ev⟩ := exa_v hx
  exact ⟨a, ev, Exa.start ev hx, Sta.start ev (Or.inr ⟨wi, wl⟩)⟩
theorem o_fieldI {t : Term} {O f dd : String} {k : Int32} {a : Addr} (ev : t.eval args Z none [] Z = some (.ref a)) (hq : (Jvm.Cond.eq (.field t O f dd) (.int k)).value args Z none Z [] = some true) : Fld Z Z.heap a O f dd (.int k) := by
  refine Fld.start ?_
  rw [← fld_at (C := O) (n := f) (dd := dd) ev]
  obtain ⟨u, v, h1, h2, h3, h4⟩ := cmp_v (Or.inl hq)
  have h5 : v = .int k := (Option.some.inj h2).symm
  subst h5
  obtain ⟨z, rfl⟩ := h4
  have := gotT (Cond.eq_ints h1 h2) hq
  rw [h1, this]
end Own
/-! the kinds -/
def own_kind (i : Int32) (aT aN aK : Addr) : Addr := if i = 0 then aT else if i = 1 then aN else aK
theorem own_kp {P : Addr → Prop} (i : Int32) {aT aN aK : Addr} (h1 : P aT) (h2 : P aN) (h3 : P aK) : P (own_kind i aT aN aK) := by
  unfold own_kind
  split
  · exact h1
  · split
    · exact h2
    · exact h3
theorem own_i3 (x : Int32) : ((x &&& (2147483647 : Int32)) % (3 : Int32)) = 0 ∨ ((x &&& (2147483647 : Int32)) % (3 : Int32)) = 1 ∨ ((x &&& (2147483647 : Int32)) % (3 : Int32)) = 2 := by
  have e1 := (c_and x (2147483647 : Int32) (by decide)).1
  have e2 := (c_iremV (x &&& (2147483647 : Int32)) (3 : Int32)).1 e1 (by decide)
  have e3 : (3 : Int32).toInt = 3 := by decide
  generalize (x &&& (2147483647 : Int32)) % (3 : Int32) = z at e2
  have t0 : (0 : Int32).toInt = 0 := by decide
  have t1 : (1 : Int32).toInt = 1 := by decide
  have t2 : (2 : Int32).toInt = 2 := by decide
  rcases (by omega : z.toInt = 0 ∨ z.toInt = 1 ∨ z.toInt = 2) with q | q | q
  · exact Or.inl (Int32.toInt_inj.mp (q.trans t0.symm))
  · exact Or.inr (Or.inl (Int32.toInt_inj.mp (q.trans t1.symm)))
  · exact Or.inr (Or.inr (Int32.toInt_inj.mp (q.trans t2.symm)))
theorem own_kinj {aT aN aK : Addr} (q1 : aT ≠ aN) (q2 : aT ≠ aK) (q3 : aN ≠ aK) {i j : Int32} (hi : i = 0 ∨ i = 1 ∨ i = 2) (hj : j = 0 ∨ j = 1 ∨ j = 2) : own_kind i aT aN aK = own_kind j aT aN aK ↔ i = j := by
  have r1 := Ne.symm q1
  have r2 := Ne.symm q2
  have r3 := Ne.symm q3
  unfold own_kind
  rcases hi with rfl | rfl | rfl <;> rcases hj with rfl | rfl | rfl <;> simp [q1, q2, q3, r1, r2, r3]
theorem own_max (a : Int32) : ¬ (if (1 : Int32) < (a &&& (2147483647 : Int32)) then (a &&& (2147483647 : Int32)) else (1 : Int32)) < (1 : Int32) := by
  have e1 : (1 : Int32).toInt = 1 := by decide
  split
  · rename_i h; rw [Int32.lt_iff_toInt_lt] at h ⊢; omega
  · decide
theorem own_ch (x : Int32) : ¬ (255 : Int32) < (x &&& (255 : Int32)).toUInt32.toUInt16.toUInt32.toInt32 := by
  rw [i2c_mask, Int32.lt_iff_toInt_lt]
  have := (c_and x (255 : Int32) (by decide)).2
  omega
theorem d1_0 : decode jdk_29_method_65_code 0 = .ok (.iload_n 0, 1) := by decide +kernel
theorem d1_1 : decode jdk_29_method_65_code 1 = .ok (.iload_n 1, 1) := by decide +kernel
theorem d1_2 : decode jdk_29_method_65_code 2 = .ok (.if_icmp .lt 7, 3) := by decide +kernel
theorem d1_9 : decode jdk_29_method_65_code 9 = .ok (.iload_n 1, 1) := by decide +kernel
theorem d1_10 : decode jdk_29_method_65_code 10 = .ok (.ireturn, 1) := by decide +kernel
theorem d1_5 : decode jdk_29_method_65_code 5 = .ok (.iload_n 0, 1) := by decide +kernel
theorem d1_6 : decode jdk_29_method_65_code 6 = .ok (.goto 4, 3) := by decide +kernel
set_option maxRecDepth 65536 in
set_option maxHeartbeats 40000000 in
theorem rm1 (l : Launch) (Z : State) (a0 : Array Value) (hw : ∀ d ∈ tables_1, d.before a0 Z = true) (p0 p1 : Int32) (h0 : Heap) (n0 : Nat)  :
    OMeets l Z (⟨"java/lang/Math", "max", "(II)I"⟩ : MethodName) [] jdk_29_method_65_code 2 (some .int) ({ frames := 0, cells := 0, slots := 0, locals := 0 } : Room) #[(.int p0), (.int p1)] h0 n0 (fun v h => v = some (.int (if p0 < p1 then p1 else p0)) ∧ h0 = h) := by
  refine o_enter (Z := Z) (Jvm.Free.JP.mathPlain rfl (by decide +kernel)) ?_
  intro p e s m below meth c T0 X0
  refine OFin.cast (g' := (mkF m 0 #[.val (.int p0), .val (.int p1)] [])) (by first | rfl | simp [entryFrame, mkF, argsToLocals, Value.category]) ?_
  refine X0.step (fun hA hx hq t k => XS.iloadN hA hx rfl (hb hq d1_0) rfl k) ?_
  show OFin _ _ _ _ _ _ _ _ T0 (mkF m 1 #[.val (.int p0), .val (.int p1)] [(.int p0)])
  refine X0.step (fun hA hx hq t k => XS.iloadN hA hx rfl (hb hq d1_1) rfl k) ?_
  show OFin _ _ _ _ _ _ _ _ T0 (mkF m 2 #[.val (.int p0), .val (.int p1)] [(.int p1), (.int p0)])
  by_cases k1 : p0 < p1
  · refine X0.step (fun hA hx hq t k => XS.icmpYes hA hx rfl (pc0 := 2) (pc' := 9) rfl (hb hq d1_2) rfl (tlt (k1)).1 (by decide) (by decide) k) ?_
    show OFin _ _ _ _ _ _ _ _ T0 (mkF m 9 #[.val (.int p0), .val (.int p1)] [])
    refine X0.step (fun hA hx hq t k => XS.iloadN hA hx rfl (hb hq d1_9) rfl k) ?_
    show OFin _ _ _ _ _ _ _ _ T0 (mkF m 10 #[.val (.int p0), .val (.int p1)] [(.int p1)])
    exact X0.retI d1_10 (by decide) (by decide) (⟨by rw [if_pos k1], rfl⟩)
  · refine X0.step (fun hA hx hq t k => XS.icmpNo hA hx rfl (hb hq d1_2) rfl (flt (k1)).1 k) ?_
    show OFin _ _ _ _ _ _ _ _ T0 (mkF m 5 #[.val (.int p0), .val (.int p1)] [])
    refine X0.step (fun hA hx hq t k => XS.iloadN hA hx rfl (hb hq d1_5) rfl k) ?_
    show OFin _ _ _ _ _ _ _ _ T0 (mkF m 6 #[.val (.int p0), .val (.int p1)] [(.int p0)])
    refine X0.step (fun hA hx hq t k => XS.goto hA hx rfl (pc0 := 6) (pc' := 10) rfl (hb hq d1_6) (by decide) (by decide) k) ?_
    show OFin _ _ _ _ _ _ _ _ T0 (mkF m 10 #[.val (.int p0), .val (.int p1)] [(.int p0)])
    exact X0.retI d1_10 (by decide) (by decide) (⟨by rw [if_neg k1], rfl⟩)
theorem pn_com_example_replay_proof_replayproof_model_IntruderValueEqualsPinLaw : plainName "com/example/replay_proof/replayproof/model/IntruderValueEqualsPinLaw" = true := by first | (simp [plainName, overriddenIn]; done) | decide +kernel
theorem d2_0 : decode method_2_code 0 = .ok (.iload_n 0, 1) := by decide +kernel
theorem d2_1 : decode method_2_code 1 = .ok (.ifCond .ne 7, 3) := by decide +kernel
theorem d2_4 : decode method_2_code 4 = .ok (.getstatic 7, 3) := by decide +kernel
theorem d2_7 : decode method_2_code 7 = .ok (.areturn, 1) := by decide +kernel
theorem d2_8 : decode method_2_code 8 = .ok (.iload_n 0, 1) := by decide +kernel
theorem d2_9 : decode method_2_code 9 = .ok (.iconst 1, 1) := by decide +kernel
theorem d2_10 : decode method_2_code 10 = .ok (.if_icmp .ne 7, 3) := by decide +kernel
theorem d2_13 : decode method_2_code 13 = .ok (.getstatic 13, 3) := by decide +kernel
theorem d2_16 : decode method_2_code 16 = .ok (.areturn, 1) := by decide +kernel
theorem d2_17 : decode method_2_code 17 = .ok (.getstatic 16, 3) := by decide +kernel
theorem d2_20 : decode method_2_code 20 = .ok (.areturn, 1) := by decide +kernel
set_option maxRecDepth 65536 in
set_option maxHeartbeats 40000000 in
theorem rm2 (l : Launch) (Z : State) (a0 : Array Value) (hw : ∀ d ∈ tables_1, d.before a0 Z = true) (p0 : Int32) (aT aN aK : Addr) (h0 : Heap) (n0 : Nat) (ST : Sta Z h0 "com/example/replay_proof/replayproof/model/Name$Kind" "TIMESTAMP" "Lcom/example/replay_proof/replayproof/model/Name$Kind;" (.ref aT)) (SN : Sta Z h0 "com/example/replay_proof/replayproof/model/Name$Kind" "NONCE" "Lcom/example/replay_proof/replayproof/model/Name$Kind;" (.ref aN)) (SK : Sta Z h0 "com/example/replay_proof/replayproof/model/Name$Kind" "KEY" "Lcom/example/replay_proof/replayproof/model/Name$Kind;" (.ref aK)) :
    OMeets l Z (⟨"com/example/replay_proof/replayproof/model/IntruderValueEqualsPinLaw", "kindOf", "(I)Lcom/example/replay_proof/replayproof/model/Name$Kind;"⟩ : MethodName) [] method_2_code 1 (some (.object "com/example/replay_proof/replayproof/model/Name$Kind")) ({ frames := 0, cells := 0, slots := 0, locals := 0 } : Room) #[(.int p0)] h0 n0 (fun v h => v = some (.ref (own_kind p0 aT aN aK)) ∧ h0 = h) := by
  refine o_enter (Z := Z) (plainFor_of_name pn_com_example_replay_proof_replayproof_model_IntruderValueEqualsPinLaw) ?_
  intro p e s m below meth c T0 X0
  refine OFin.cast (g' := (mkF m 0 #[.val (.int p0)] [])) (by first | rfl | simp [entryFrame, mkF, argsToLocals, Value.category]) ?_
  refine X0.step (fun hA hx hq t k => XS.iloadN hA hx rfl (hb hq d2_0) rfl k) ?_
  show OFin _ _ _ _ _ _ _ _ T0 (mkF m 1 #[.val (.int p0)] [(.int p0)])
  by_cases k1 : p0 = (0 : Int32)
  · refine X0.step (fun hA hx hq t k => XS.ifNo hA hx rfl (hb hq d2_1) rfl ((if0 _ _).trans (teq (k1)).2) k) ?_
    show OFin _ _ _ _ _ _ _ _ T0 (mkF m 4 #[.val (.int p0)] [])
    refine X0.getS (hw _ (List.mem_of_getElem? (i := 12) rfl)) ST (g := (mkF m 4 #[.val (.int p0)] [])) rfl d2_4 ?_
    intro T1 X1
    show OFin _ _ _ _ _ _ _ _ T1 (mkF m 7 #[.val (.int p0)] [(.ref aT)])
    exact X1.retR rfl rfl d2_7 (by decide) (by decide) (⟨by unfold own_kind; rw [if_pos k1], rfl⟩)
  · refine X0.step (fun hA hx hq t k => XS.ifYes hA hx rfl (pc0 := 1) (pc' := 8) rfl (hb hq d2_1) rfl ((if0 _ _).trans (feq (k1)).2) (by decide) (by decide) k) ?_
    show OFin _ _ _ _ _ _ _ _ T0 (mkF m 8 #[.val (.int p0)] [])
    refine X0.step (fun hA hx hq t k => XS.iloadN hA hx rfl (hb hq d2_8) rfl k) ?_
    show OFin _ _ _ _ _ _ _ _ T0 (mkF m 9 #[.val (.int p0)] [(.int p0)])
    refine X0.step (fun hA hx hq t k => XS.iconst hA hx rfl (hb hq d2_9) k) ?_
    show OFin _ _ _ _ _ _ _ _ T0 (mkF m 10 #[.val (.int p0)] [(.int (1 : Int32)), (.int p0)])
    by_cases k2 : p0 = (1 : Int32)
    · refine X0.step (fun hA hx hq t k => XS.icmpNo hA hx rfl (hb hq d2_10) rfl (teq (k2)).2 k) ?_
      show OFin _ _ _ _ _ _ _ _ T0 (mkF m 13 #[.val (.int p0)] [])
      refine X0.getS (hw _ (List.mem_of_getElem? (i := 46) rfl)) SN (g := (mkF m 13 #[.val (.int p0)] [])) rfl d2_13 ?_
      intro T2 X2
      show OFin _ _ _ _ _ _ _ _ T2 (mkF m 16 #[.val (.int p0)] [(.ref aN)])
      exact X2.retR rfl rfl d2_16 (by decide) (by decide) (⟨by unfold own_kind; rw [if_neg k1, if_pos k2], rfl⟩)
    · refine X0.step (fun hA hx hq t k => XS.icmpYes hA hx rfl (pc0 := 10) (pc' := 17) rfl (hb hq d2_10) rfl (feq (k2)).2 (by decide) (by decide) k) ?_
      show OFin _ _ _ _ _ _ _ _ T0 (mkF m 17 #[.val (.int p0)] [])
      refine X0.getS (hw _ (List.mem_of_getElem? (i := 37) rfl)) SK (g := (mkF m 17 #[.val (.int p0)] [])) rfl d2_17 ?_
      intro T3 X3
      show OFin _ _ _ _ _ _ _ _ T3 (mkF m 20 #[.val (.int p0)] [(.ref aK)])
      exact X3.retR rfl rfl d2_20 (by decide) (by decide) (⟨by unfold own_kind; rw [if_neg k1, if_neg k2], rfl⟩)
theorem pn_com_example_replay_proof_replayproof_model_Message : plainName "com/example/replay_proof/replayproof/model/Message" = true := by first | (simp [plainName, overriddenIn]; done) | decide +kernel
theorem d4_0 : decode prog_81_method_1_code 0 = .ok (.aload_n 0, 1) := by decide +kernel
theorem d4_1 : decode prog_81_method_1_code 1 = .ok (.invokespecial 1, 3) := by decide +kernel
theorem d4_4 : decode prog_81_method_1_code 4 = .ok (.return_, 1) := by decide +kernel
set_option maxRecDepth 65536 in
set_option maxHeartbeats 40000000 in
theorem rm3 (l : Launch) (Z : State) (a0 : Array Value) (hw : ∀ d ∈ tables_1, d.before a0 Z = true) (a1 : Addr) (h0 : Heap) (n0 : Nat)  :
    OMeets l Z (⟨"com/example/replay_proof/replayproof/model/Message", "<init>", "()V"⟩ : MethodName) [] prog_81_method_1_code 1 none ({ frames := 1, cells := 0, slots := 0, locals := 12 } : Room) #[(.ref a1)] h0 n0 (fun v h => v = none ∧ h0 = h) := by
  refine o_enter (Z := Z) (plainFor_of_name pn_com_example_replay_proof_replayproof_model_Message) ?_
  intro p e s m below meth c T0 X0
  refine OFin.cast (g' := (mkF m 0 #[.val (.ref a1)] [])) (by first | rfl | simp [entryFrame, mkF, argsToLocals, Value.category]) ?_
  refine X0.step (fun hA hx hq t k => XS.aloadN hA hx rfl (hb hq d4_0) rfl rfl k) ?_
  show OFin _ _ _ _ _ _ _ _ T0 (mkF m 1 #[.val (.ref a1)] [(.ref a1)])
  refine X0.initO (hw _ (List.mem_of_getElem? (i := 23) rfl)) (hw _ (List.mem_of_getElem? (i := 24) rfl)) (hw _ (List.mem_of_getElem? (i := 25) rfl)) (g := (mkF m 1 #[.val (.ref a1)] [(.ref a1)])) rfl rfl rfl d4_1 (by decide) (W := 0) (by show 2 * 0 + _ ≤ _; exact Nat.le_of_eq rfl) (by decide) ?_
  intro T1 X1
  show OFin _ _ _ _ _ _ _ _ T1 (mkF m 4 #[.val (.ref a1)] [])
  exact X1.retV d4_4 (by decide) (by decide) (⟨rfl, rfl⟩)
theorem pn_com_example_replay_proof_replayproof_model_Name_Kind : plainName "com/example/replay_proof/replayproof/model/Name$Kind" = true := by first | (simp [plainName, overriddenIn]; done) | decide +kernel
theorem d6_0 : decode prog_83_method_4_code 0 = .ok (.aload_n 0, 1) := by decide +kernel
theorem d6_1 : decode prog_83_method_4_code 1 = .ok (.getfield 41, 3) := by decide +kernel
theorem d6_4 : decode prog_83_method_4_code 4 = .ok (.ireturn, 1) := by decide +kernel
set_option maxRecDepth 65536 in
set_option maxHeartbeats 40000000 in
theorem rm4 (l : Launch) (Z : State) (a0 : Array Value) (hw : ∀ d ∈ tables_1, d.before a0 Z = true) (a1 : Addr) (h0 : Heap) (n0 : Nat) (F : Fld Z h0 a1 "com/example/replay_proof/replayproof/model/Name$Kind" "fresh" "Z" (.int 1)) :
    OMeets l Z (⟨"com/example/replay_proof/replayproof/model/Name$Kind", "fresh", "()Z"⟩ : MethodName) [] prog_83_method_4_code 1 (some .boolean) ({ frames := 0, cells := 0, slots := 0, locals := 0 } : Room) #[(.ref a1)] h0 n0 (fun v h => v = some (.int 1) ∧ h0 = h) := by
  refine o_enter (Z := Z) (plainFor_of_name pn_com_example_replay_proof_replayproof_model_Name_Kind) ?_
  intro p e s m below meth c T0 X0
  refine OFin.cast (g' := (mkF m 0 #[.val (.ref a1)] [])) (by first | rfl | simp [entryFrame, mkF, argsToLocals, Value.category]) ?_
  refine X0.step (fun hA hx hq t k => XS.aloadN hA hx rfl (hb hq d6_0) rfl rfl k) ?_
  show OFin _ _ _ _ _ _ _ _ T0 (mkF m 1 #[.val (.ref a1)] [(.ref a1)])
  refine X0.getF (hw _ (List.mem_of_getElem? (i := 31) rfl)) F (g := (mkF m 1 #[.val (.ref a1)] [(.ref a1)])) rfl rfl d6_1 ?_
  intro T1 X1
  show OFin _ _ _ _ _ _ _ _ T1 (mkF m 4 #[.val (.ref a1)] [(.int 1)])
  exact X1.retN (by simp) d6_4 (by decide) (by decide) (⟨rfl, rfl⟩)
theorem pn_com_example_replay_proof_replayproof_model_IntruderValue : plainName "com/example/replay_proof/replayproof/model/IntruderValue" = true := by first | (simp [plainName, overriddenIn]; done) | decide +kernel
theorem d3_0 : decode prog_76_method_2_code 0 = .ok (.aload_n 0, 1) := by decide +kernel
theorem d3_1 : decode prog_76_method_2_code 1 = .ok (.invokespecial 7, 3) := by decide +kernel
theorem pd_pr_V : parseMethodDescriptor "()V" = some ⟨[], none⟩ := by decide +kernel
theorem d3_4 : decode prog_76_method_2_code 4 = .ok (.aload_n 1, 1) := by decide +kernel
theorem d3_5 : decode prog_76_method_2_code 5 = .ok (.invokevirtual 12, 3) := by decide +kernel
theorem pd_pr_Z : parseMethodDescriptor "()Z" = some ⟨[], some .boolean⟩ := by decide +kernel
theorem d3_8 : decode prog_76_method_2_code 8 = .ok (.ifCond .ne 20, 3) := by decide +kernel
theorem d3_28 : decode prog_76_method_2_code 28 = .ok (.iload_n 2, 1) := by decide +kernel
theorem d3_29 : decode prog_76_method_2_code 29 = .ok (.iconst 1, 1) := by decide +kernel
theorem d3_30 : decode prog_76_method_2_code 30 = .ok (.if_icmp .ge 17, 3) := by decide +kernel
theorem d3_47 : decode prog_76_method_2_code 47 = .ok (.aload_n 0, 1) := by decide +kernel
theorem d3_48 : decode prog_76_method_2_code 48 = .ok (.aload_n 1, 1) := by decide +kernel
theorem d3_49 : decode prog_76_method_2_code 49 = .ok (.putfield 36, 3) := by decide +kernel
theorem d3_52 : decode prog_76_method_2_code 52 = .ok (.aload_n 0, 1) := by decide +kernel
theorem d3_53 : decode prog_76_method_2_code 53 = .ok (.iload_n 2, 1) := by decide +kernel
theorem d3_54 : decode prog_76_method_2_code 54 = .ok (.putfield 40, 3) := by decide +kernel
theorem d3_57 : decode prog_76_method_2_code 57 = .ok (.return_, 1) := by decide +kernel
set_option maxRecDepth 65536 in
set_option maxHeartbeats 40000000 in
theorem rm5 (l : Launch) (Z : State) (a0 : Array Value) (hw : ∀ d ∈ tables_1, d.before a0 Z = true) (a1 kd : Addr) (p2 : Int32) (h0 : Heap) (n0 : Nat) (F1 : Fld Z h0 a1 "com/example/replay_proof/replayproof/model/IntruderValue" "kind" "Lcom/example/replay_proof/replayproof/model/Name$Kind;" .null) (F2 : Fld Z h0 a1 "com/example/replay_proof/replayproof/model/IntruderValue" "number" "I" (.int 0)) (E : Exa Z h0 a1 "com/example/replay_proof/replayproof/model/IntruderValue") (hn : n0 ≤ a1) (EK : Exa Z h0 kd "com/example/replay_proof/replayproof/model/Name$Kind") (FF : Fld Z h0 kd "com/example/replay_proof/replayproof/model/Name$Kind" "fresh" "Z" (.int 1)) (hp : ¬ p2 < (1 : Int32)) :
    OMeets l Z (⟨"com/example/replay_proof/replayproof/model/IntruderValue", "<init>", "(Lcom/example/replay_proof/replayproof/model/Name$Kind;I)V"⟩ : MethodName) [] prog_76_method_2_code 3 none ({ frames := 2, cells := 0, slots := 0, locals := 24 } : Room) #[(.ref a1), (.ref kd), (.int p2)] h0 n0 (fun v h => v = none ∧ Keep h0 h [a1] ∧ Exa Z h a1 "com/example/replay_proof/replayproof/model/IntruderValue" ∧ Fld Z h a1 "com/example/replay_proof/replayproof/model/IntruderValue" "kind" "Lcom/example/replay_proof/replayproof/model/Name$Kind;" (.ref kd) ∧ Fld Z h a1 "com/example/replay_proof/replayproof/model/IntruderValue" "number" "I" (.int p2)) := by
  refine o_enter (Z := Z) (plainFor_of_name pn_com_example_replay_proof_replayproof_model_IntruderValue) ?_
  intro p e s m below meth c T0 X0
  refine OFin.cast (g' := (mkF m 0 #[.val (.ref a1), .val (.ref kd), .val (.int p2)] [])) (by first | rfl | simp [entryFrame, mkF, argsToLocals, Value.category]) ?_
  have sne : Jvm.RoadKit.slotOf Z "com/example/replay_proof/replayproof/model/IntruderValue" "number" "I" ≠ Jvm.RoadKit.slotOf Z "com/example/replay_proof/replayproof/model/IntruderValue" "kind" "Lcom/example/replay_proof/replayproof/model/Name$Kind;" := slot_ne (Or.inr (hw _ (List.mem_of_getElem? (i := 36) rfl))) (Or.inr (hw _ (List.mem_of_getElem? (i := 34) rfl))) (by decide) (t := .int) (t' := (.object "com/example/replay_proof/replayproof/model/Name$Kind")) (by decide) (by decide)
  refine X0.step (fun hA hx hq t k => XS.aloadN hA hx rfl (hb hq d3_0) rfl rfl k) ?_
  show OFin _ _ _ _ _ _ _ _ T0 (mkF m 1 #[.val (.ref a1), .val (.ref kd), .val (.int p2)] [(.ref a1)])
  refine X0.callI (y' := (⟨"com/example/replay_proof/replayproof/model/Message", "<init>", "()V"⟩ : MethodName)) rfl (hw _ (List.mem_of_getElem? (i := 18) rfl)) (hw _ (List.mem_of_getElem? (i := 19) rfl)) (hw _ (List.mem_of_getElem? (i := 21) rfl)) (hw _ (List.mem_of_getElem? (i := 22) rfl)) (by decide) (a := a1) (argsL := []) (rest := []) (rm3 l Z a0 hw a1 h0 n0) (g := (mkF m 1 #[.val (.ref a1), .val (.ref kd), .val (.int p2)] [(.ref a1)])) rfl rfl pd_pr_V rfl rfl (W := 0) (by show 2 * 0 + _ ≤ _; exact Nat.le_of_eq rfl) d3_1 (by decide) (by decide) (by decide) (by decide) ?_
  intro v1 T1 h1 X1 q1
  obtain ⟨rfl, rfl⟩ := q1
  show OFin _ _ _ _ _ _ _ _ T1 (mkF m 4 #[.val (.ref a1), .val (.ref kd), .val (.int p2)] [])
  refine X1.step (fun hA hx hq t k => XS.aloadN hA hx rfl (hb hq d3_4) rfl rfl k) ?_
  show OFin _ _ _ _ _ _ _ _ T1 (mkF m 5 #[.val (.ref a1), .val (.ref kd), .val (.int p2)] [(.ref kd)])
  refine X1.callV (y' := (⟨"com/example/replay_proof/replayproof/model/Name$Kind", "fresh", "()Z"⟩ : MethodName)) (z' := (⟨"com/example/replay_proof/replayproof/model/Name$Kind", "fresh", "()Z"⟩ : MethodName)) (hw _ (List.mem_of_getElem? (i := 26) rfl)) (hw _ (List.mem_of_getElem? (i := 27) rfl)) (X1.notFace (hw _ (List.mem_of_getElem? (i := 29) rfl)) rfl) (hw _ (List.mem_of_getElem? (i := 29) rfl)) (hw _ (List.mem_of_getElem? (i := 28) rfl)) (hw _ (List.mem_of_getElem? (i := 13) rfl)) (hw _ (List.mem_of_getElem? (i := 30) rfl)) (by decide) EK (argsL := []) (rest := []) (rm4 l Z a0 hw kd h0 n0 FF) (g := (mkF m 5 #[.val (.ref a1), .val (.ref kd), .val (.int p2)] [(.ref kd)])) rfl rfl pd_pr_Z rfl rfl (W := 0) (by show 2 * 0 + _ ≤ _; exact Nat.le_of_eq rfl) d3_5 (by decide) (by decide) (by decide) (by decide) ?_
  intro v2 T2 h2 X2 q2
  obtain ⟨rfl, rfl⟩ := q2
  show OFin _ _ _ _ _ _ _ _ T2 (mkF m 8 #[.val (.ref a1), .val (.ref kd), .val (.int p2)] [(.int (1 : Int32))])
  refine X2.step (fun hA hx hq t k => XS.ifYes hA hx rfl (pc0 := 8) (pc' := 28) rfl (hb hq d3_8) rfl ((if0 _ _).trans (feq ((by decide))).2) (by decide) (by decide) k) ?_
  show OFin _ _ _ _ _ _ _ _ T2 (mkF m 28 #[.val (.ref a1), .val (.ref kd), .val (.int p2)] [])
  refine X2.step (fun hA hx hq t k => XS.iloadN hA hx rfl (hb hq d3_28) rfl k) ?_
  show OFin _ _ _ _ _ _ _ _ T2 (mkF m 29 #[.val (.ref a1), .val (.ref kd), .val (.int p2)] [(.int p2)])
  refine X2.step (fun hA hx hq t k => XS.iconst hA hx rfl (hb hq d3_29) k) ?_
  show OFin _ _ _ _ _ _ _ _ T2 (mkF m 30 #[.val (.ref a1), .val (.ref kd), .val (.int p2)] [(.int (1 : Int32)), (.int p2)])
  refine X2.step (fun hA hx hq t k => XS.icmpYes hA hx rfl (pc0 := 30) (pc' := 47) rfl (hb hq d3_30) rfl (flt (hp)).2.1 (by decide) (by decide) k) ?_
  show OFin _ _ _ _ _ _ _ _ T2 (mkF m 47 #[.val (.ref a1), .val (.ref kd), .val (.int p2)] [])
  refine X2.step (fun hA hx hq t k => XS.aloadN hA hx rfl (hb hq d3_47) rfl rfl k) ?_
  show OFin _ _ _ _ _ _ _ _ T2 (mkF m 48 #[.val (.ref a1), .val (.ref kd), .val (.int p2)] [(.ref a1)])
  refine X2.step (fun hA hx hq t k => XS.aloadN hA hx rfl (hb hq d3_48) rfl rfl k) ?_
  show OFin _ _ _ _ _ _ _ _ T2 (mkF m 49 #[.val (.ref a1), .val (.ref kd), .val (.int p2)] [(.ref kd), (.ref a1)])
  refine X2.putF (hw _ (List.mem_of_getElem? (i := 33) rfl)) F1 E (Or.inr ⟨(hw _ (List.mem_of_getElem? (i := 34) rfl)), rfl, rfl⟩) (hw _ (List.mem_of_getElem? (i := 6) rfl)) (ty := (.object "com/example/replay_proof/replayproof/model/Name$Kind")) (by decide) rfl rfl hn (g := (mkF m 49 #[.val (.ref a1), .val (.ref kd), .val (.int p2)] [(.ref kd), (.ref a1)])) rfl rfl d3_49 ?_
  intro T3 h3 X3 W3
  show OFin _ _ _ _ _ _ _ _ T3 (mkF m 52 #[.val (.ref a1), .val (.ref kd), .val (.int p2)] [])
  refine X3.step (fun hA hx hq t k => XS.aloadN hA hx rfl (hb hq d3_52) rfl rfl k) ?_
  show OFin _ _ _ _ _ _ _ _ T3 (mkF m 53 #[.val (.ref a1), .val (.ref kd), .val (.int p2)] [(.ref a1)])
  refine X3.step (fun hA hx hq t k => XS.iloadN hA hx rfl (hb hq d3_53) rfl k) ?_
  show OFin _ _ _ _ _ _ _ _ T3 (mkF m 54 #[.val (.ref a1), .val (.ref kd), .val (.int p2)] [(.int p2), (.ref a1)])
  refine X3.putF (hw _ (List.mem_of_getElem? (i := 35) rfl)) (F2.other W3 (Or.inr sne)) (E.wr W3) (Or.inr ⟨(hw _ (List.mem_of_getElem? (i := 36) rfl)), rfl, rfl⟩) (hw _ (List.mem_of_getElem? (i := 6) rfl)) (ty := .int) (by decide) rfl rfl hn (g := (mkF m 54 #[.val (.ref a1), .val (.ref kd), .val (.int p2)] [(.int p2), (.ref a1)])) rfl rfl d3_54 ?_
  intro T4 h4 X4 W4
  show OFin _ _ _ _ _ _ _ _ T4 (mkF m 57 #[.val (.ref a1), .val (.ref kd), .val (.int p2)] [])
  exact X4.retV d3_57 (by decide) (by decide) (⟨rfl, (Keep.of_wr W3).wr W4 (Or.inl (List.mem_of_getElem? (i := 0) rfl)), (E.wr W3).wr W4, (F1.same W3).other W4 (Or.inr (Ne.symm sne)), (F2.other W3 (Or.inr sne)).same W4⟩)
theorem d7_0 : decode prog_76_method_5_code 0 = .ok (.aload_n 1, 1) := by decide +kernel
theorem d7_1 : decode prog_76_method_5_code 1 = .ok (.instanceof 2, 3) := by decide +kernel
theorem d7_4 : decode prog_76_method_5_code 4 = .ok (.ifCond .eq 34, 3) := by decide +kernel
theorem d7_7 : decode prog_76_method_5_code 7 = .ok (.aload_n 1, 1) := by decide +kernel
theorem d7_8 : decode prog_76_method_5_code 8 = .ok (.checkcast 2, 3) := by decide +kernel
theorem d7_11 : decode prog_76_method_5_code 11 = .ok (.astore_n 2, 1) := by decide +kernel
theorem d7_12 : decode prog_76_method_5_code 12 = .ok (.aload_n 0, 1) := by decide +kernel
theorem d7_13 : decode prog_76_method_5_code 13 = .ok (.getfield 36, 3) := by decide +kernel
theorem d7_16 : decode prog_76_method_5_code 16 = .ok (.aload_n 2, 1) := by decide +kernel
theorem d7_17 : decode prog_76_method_5_code 17 = .ok (.getfield 36, 3) := by decide +kernel
theorem d7_20 : decode prog_76_method_5_code 20 = .ok (.if_acmp .ne 18, 3) := by decide +kernel
theorem d7_38 : decode prog_76_method_5_code 38 = .ok (.iconst 0, 1) := by decide +kernel
theorem d7_39 : decode prog_76_method_5_code 39 = .ok (.ireturn, 1) := by decide +kernel
theorem d7_23 : decode prog_76_method_5_code 23 = .ok (.aload_n 0, 1) := by decide +kernel
theorem d7_24 : decode prog_76_method_5_code 24 = .ok (.getfield 40, 3) := by decide +kernel
theorem d7_27 : decode prog_76_method_5_code 27 = .ok (.aload_n 2, 1) := by decide +kernel
theorem d7_28 : decode prog_76_method_5_code 28 = .ok (.getfield 40, 3) := by decide +kernel
theorem d7_31 : decode prog_76_method_5_code 31 = .ok (.if_icmp .ne 7, 3) := by decide +kernel
theorem d7_34 : decode prog_76_method_5_code 34 = .ok (.iconst 1, 1) := by decide +kernel
theorem d7_35 : decode prog_76_method_5_code 35 = .ok (.goto 4, 3) := by decide +kernel
set_option maxRecDepth 65536 in
set_option maxHeartbeats 40000000 in
theorem rm6 (l : Launch) (Z : State) (a0 : Array Value) (hw : ∀ d ∈ tables_1, d.before a0 Z = true) (a1 a2 k1 k2 : Addr) (m1 m2 : Int32) (h0 : Heap) (n0 : Nat) (F1 : Fld Z h0 a1 "com/example/replay_proof/replayproof/model/IntruderValue" "kind" "Lcom/example/replay_proof/replayproof/model/Name$Kind;" (.ref k1)) (F2 : Fld Z h0 a1 "com/example/replay_proof/replayproof/model/IntruderValue" "number" "I" (.int m1)) (G1 : Fld Z h0 a2 "com/example/replay_proof/replayproof/model/IntruderValue" "kind" "Lcom/example/replay_proof/replayproof/model/Name$Kind;" (.ref k2)) (G2 : Fld Z h0 a2 "com/example/replay_proof/replayproof/model/IntruderValue" "number" "I" (.int m2)) (E : Exa Z h0 a2 "com/example/replay_proof/replayproof/model/IntruderValue") :
    OMeets l Z (⟨"com/example/replay_proof/replayproof/model/IntruderValue", "equals", "(Ljava/lang/Object;)Z"⟩ : MethodName) [] prog_76_method_5_code 3 (some .boolean) ({ frames := 0, cells := 0, slots := 0, locals := 0 } : Room) #[(.ref a1), (.ref a2)] h0 n0 (fun v h => v = some (.int (if k1 = k2 ∧ m1 = m2 then 1 else 0)) ∧ h0 = h) := by
  refine o_enter (Z := Z) (plainFor_of_name pn_com_example_replay_proof_replayproof_model_IntruderValue) ?_
  intro p e s m below meth c T0 X0
  refine OFin.cast (g' := (mkF m 0 #[.val (.ref a1), .val (.ref a2), .unset] [])) (by first | rfl | simp [entryFrame, mkF, argsToLocals, Value.category]) ?_
  refine X0.step (fun hA hx hq t k => XS.aloadN hA hx rfl (hb hq d7_0) rfl rfl k) ?_
  show OFin _ _ _ _ _ _ _ _ T0 (mkF m 1 #[.val (.ref a1), .val (.ref a2), .unset] [(.ref a2)])
  refine X0.instY (hw _ (List.mem_of_getElem? (i := 44) rfl)) (Ins.self E) (g := (mkF m 1 #[.val (.ref a1), .val (.ref a2), .unset] [(.ref a2)])) rfl rfl d7_1 ?_
  intro T1 X1
  show OFin _ _ _ _ _ _ _ _ T1 (mkF m 4 #[.val (.ref a1), .val (.ref a2), .unset] [(.int (1 : Int32))])
  refine X1.step (fun hA hx hq t k => XS.ifNo hA hx rfl (hb hq d7_4) rfl ((if0 _ _).trans (feq ((by decide))).1) k) ?_
  show OFin _ _ _ _ _ _ _ _ T1 (mkF m 7 #[.val (.ref a1), .val (.ref a2), .unset] [])
  refine X1.step (fun hA hx hq t k => XS.aloadN hA hx rfl (hb hq d7_7) rfl rfl k) ?_
  show OFin _ _ _ _ _ _ _ _ T1 (mkF m 8 #[.val (.ref a1), .val (.ref a2), .unset] [(.ref a2)])
  refine X1.castY (hw _ (List.mem_of_getElem? (i := 44) rfl)) (Ins.self E) (g := (mkF m 8 #[.val (.ref a1), .val (.ref a2), .unset] [(.ref a2)])) rfl rfl d7_8 ?_
  intro T2 X2
  show OFin _ _ _ _ _ _ _ _ T2 (mkF m 11 #[.val (.ref a1), .val (.ref a2), .unset] [(.ref a2)])
  refine X2.step (fun hA hx hq t k => XS.astoreN hA hx rfl (hb hq d7_11) rfl rfl (l' := #[.val (.ref a1), .val (.ref a2), .val (.ref a2)]) rfl k) ?_
  show OFin _ _ _ _ _ _ _ _ T2 (mkF m 12 #[.val (.ref a1), .val (.ref a2), .val (.ref a2)] [])
  refine X2.step (fun hA hx hq t k => XS.aloadN hA hx rfl (hb hq d7_12) rfl rfl k) ?_
  show OFin _ _ _ _ _ _ _ _ T2 (mkF m 13 #[.val (.ref a1), .val (.ref a2), .val (.ref a2)] [(.ref a1)])
  refine X2.getF (hw _ (List.mem_of_getElem? (i := 33) rfl)) F1 (g := (mkF m 13 #[.val (.ref a1), .val (.ref a2), .val (.ref a2)] [(.ref a1)])) rfl rfl d7_13 ?_
  intro T3 X3
  show OFin _ _ _ _ _ _ _ _ T3 (mkF m 16 #[.val (.ref a1), .val (.ref a2), .val (.ref a2)] [(.ref k1)])
  refine X3.step (fun hA hx hq t k => XS.aloadN hA hx rfl (hb hq d7_16) rfl rfl k) ?_
  show OFin _ _ _ _ _ _ _ _ T3 (mkF m 17 #[.val (.ref a1), .val (.ref a2), .val (.ref a2)] [(.ref a2), (.ref k1)])
  refine X3.getF (hw _ (List.mem_of_getElem? (i := 33) rfl)) G1 (g := (mkF m 17 #[.val (.ref a1), .val (.ref a2), .val (.ref a2)] [(.ref a2), (.ref k1)])) rfl rfl d7_17 ?_
  intro T4 X4
  show OFin _ _ _ _ _ _ _ _ T4 (mkF m 20 #[.val (.ref a1), .val (.ref a2), .val (.ref a2)] [(.ref k2), (.ref k1)])
  by_cases c1 : k1 = k2
  · refine X4.acmp (g := (mkF m 20 #[.val (.ref a1), .val (.ref a2), .val (.ref a2)] [(.ref k2), (.ref k1)])) rfl rfl rfl (pc0 := 20) (pc' := 23) (same := true) rfl d7_20 rfl (decide_eq_true (congrArg Value.ref c1)) (by decide) (by decide) ?_
    show OFin _ _ _ _ _ _ _ _ T4 (mkF m 23 #[.val (.ref a1), .val (.ref a2), .val (.ref a2)] [])
    refine X4.step (fun hA hx hq t k => XS.aloadN hA hx rfl (hb hq d7_23) rfl rfl k) ?_
    show OFin _ _ _ _ _ _ _ _ T4 (mkF m 24 #[.val (.ref a1), .val (.ref a2), .val (.ref a2)] [(.ref a1)])
    refine X4.getF (hw _ (List.mem_of_getElem? (i := 35) rfl)) F2 (g := (mkF m 24 #[.val (.ref a1), .val (.ref a2), .val (.ref a2)] [(.ref a1)])) rfl rfl d7_24 ?_
    intro T5 X5
    show OFin _ _ _ _ _ _ _ _ T5 (mkF m 27 #[.val (.ref a1), .val (.ref a2), .val (.ref a2)] [(.int m1)])
    refine X5.step (fun hA hx hq t k => XS.aloadN hA hx rfl (hb hq d7_27) rfl rfl k) ?_
    show OFin _ _ _ _ _ _ _ _ T5 (mkF m 28 #[.val (.ref a1), .val (.ref a2), .val (.ref a2)] [(.ref a2), (.int m1)])
    refine X5.getF (hw _ (List.mem_of_getElem? (i := 35) rfl)) G2 (g := (mkF m 28 #[.val (.ref a1), .val (.ref a2), .val (.ref a2)] [(.ref a2), (.int m1)])) rfl rfl d7_28 ?_
    intro T6 X6
    show OFin _ _ _ _ _ _ _ _ T6 (mkF m 31 #[.val (.ref a1), .val (.ref a2), .val (.ref a2)] [(.int m2), (.int m1)])
    by_cases c2 : m1 = m2
    · refine X6.step (fun hA hx hq t k => XS.icmpNo hA hx rfl (hb hq d7_31) rfl (teq (c2)).2 k) ?_
      show OFin _ _ _ _ _ _ _ _ T6 (mkF m 34 #[.val (.ref a1), .val (.ref a2), .val (.ref a2)] [])
      refine X6.step (fun hA hx hq t k => XS.iconst hA hx rfl (hb hq d7_34) k) ?_
      show OFin _ _ _ _ _ _ _ _ T6 (mkF m 35 #[.val (.ref a1), .val (.ref a2), .val (.ref a2)] [(.int (1 : Int32))])
      refine X6.step (fun hA hx hq t k => XS.goto hA hx rfl (pc0 := 35) (pc' := 39) rfl (hb hq d7_35) (by decide) (by decide) k) ?_
      show OFin _ _ _ _ _ _ _ _ T6 (mkF m 39 #[.val (.ref a1), .val (.ref a2), .val (.ref a2)] [(.int (1 : Int32))])
      exact X6.retN (by simp) d7_39 (by decide) (by decide) (⟨by rw [if_pos ⟨c1, c2⟩]; rfl, rfl⟩)
    · refine X6.step (fun hA hx hq t k => XS.icmpYes hA hx rfl (pc0 := 31) (pc' := 38) rfl (hb hq d7_31) rfl (feq (c2)).2 (by decide) (by decide) k) ?_
      show OFin _ _ _ _ _ _ _ _ T6 (mkF m 38 #[.val (.ref a1), .val (.ref a2), .val (.ref a2)] [])
      refine X6.step (fun hA hx hq t k => XS.iconst hA hx rfl (hb hq d7_38) k) ?_
      show OFin _ _ _ _ _ _ _ _ T6 (mkF m 39 #[.val (.ref a1), .val (.ref a2), .val (.ref a2)] [(.int (0 : Int32))])
      exact X6.retN (by simp) d7_39 (by decide) (by decide) (⟨by rw [if_neg fun q => c2 q.2]; rfl, rfl⟩)
  · refine X4.acmp (g := (mkF m 20 #[.val (.ref a1), .val (.ref a2), .val (.ref a2)] [(.ref k2), (.ref k1)])) rfl rfl rfl (pc0 := 20) (pc' := 38) (same := false) rfl d7_20 rfl (decide_eq_false fun q => c1 (Value.ref.inj q)) (by decide) (by decide) ?_
    show OFin _ _ _ _ _ _ _ _ T4 (mkF m 38 #[.val (.ref a1), .val (.ref a2), .val (.ref a2)] [])
    refine X4.step (fun hA hx hq t k => XS.iconst hA hx rfl (hb hq d7_38) k) ?_
    show OFin _ _ _ _ _ _ _ _ T4 (mkF m 39 #[.val (.ref a1), .val (.ref a2), .val (.ref a2)] [(.int (0 : Int32))])
    exact X4.retN (by simp) d7_39 (by decide) (by decide) (⟨by rw [if_neg fun q => c1 q.1]; rfl, rfl⟩)
set_option maxRecDepth 65536 in
set_option maxHeartbeats 40000000 in
theorem rm7 (l : Launch) (Z : State) (a0 : Array Value) (hw : ∀ d ∈ tables_1, d.before a0 Z = true) (a1 : Addr) (h0 : Heap) (n0 : Nat)  :
    OMeets l Z (⟨"com/example/replay_proof/replayproof/model/IntruderValue", "equals", "(Ljava/lang/Object;)Z"⟩ : MethodName) [] prog_76_method_5_code 3 (some .boolean) ({ frames := 0, cells := 0, slots := 0, locals := 0 } : Room) #[(.ref a1), .null] h0 n0 (fun v h => v = some (.int 0) ∧ h0 = h) := by
  refine o_enter (Z := Z) (plainFor_of_name pn_com_example_replay_proof_replayproof_model_IntruderValue) ?_
  intro p e s m below meth c T0 X0
  refine OFin.cast (g' := (mkF m 0 #[.val (.ref a1), .val .null, .unset] [])) (by first | rfl | simp [entryFrame, mkF, argsToLocals, Value.category]) ?_
  refine X0.step (fun hA hx hq t k => XS.aloadN hA hx rfl (hb hq d7_0) rfl rfl k) ?_
  show OFin _ _ _ _ _ _ _ _ T0 (mkF m 1 #[.val (.ref a1), .val .null, .unset] [.null])
  refine X0.instNull (g := (mkF m 1 #[.val (.ref a1), .val .null, .unset] [.null])) rfl rfl d7_1 ?_
  show OFin _ _ _ _ _ _ _ _ T0 (mkF m 4 #[.val (.ref a1), .val .null, .unset] [(.int (0 : Int32))])
  refine X0.step (fun hA hx hq t k => XS.ifYes hA hx rfl (pc0 := 4) (pc' := 38) rfl (hb hq d7_4) rfl ((if0 _ _).trans (teq ((by decide))).1) (by decide) (by decide) k) ?_
  show OFin _ _ _ _ _ _ _ _ T0 (mkF m 38 #[.val (.ref a1), .val .null, .unset] [])
  refine X0.step (fun hA hx hq t k => XS.iconst hA hx rfl (hb hq d7_38) k) ?_
  show OFin _ _ _ _ _ _ _ _ T0 (mkF m 39 #[.val (.ref a1), .val .null, .unset] [(.int (0 : Int32))])
  exact X0.retN (by simp) d7_39 (by decide) (by decide) (⟨rfl, rfl⟩)
set_option maxRecDepth 65536 in
set_option maxHeartbeats 40000000 in
theorem rm8 (l : Launch) (Z : State) (a0 : Array Value) (hw : ∀ d ∈ tables_1, d.before a0 Z = true) (a1 a2 : Addr) (h0 : Heap) (n0 : Nat) (E : Exa Z h0 a2 "com/example/replay_proof/replayproof/model/Name") :
    OMeets l Z (⟨"com/example/replay_proof/replayproof/model/IntruderValue", "equals", "(Ljava/lang/Object;)Z"⟩ : MethodName) [] prog_76_method_5_code 3 (some .boolean) ({ frames := 0, cells := 0, slots := 0, locals := 0 } : Room) #[(.ref a1), (.ref a2)] h0 n0 (fun v h => v = some (.int 0) ∧ h0 = h) := by
  refine o_enter (Z := Z) (plainFor_of_name pn_com_example_replay_proof_replayproof_model_IntruderValue) ?_
  intro p e s m below meth c T0 X0
  refine OFin.cast (g' := (mkF m 0 #[.val (.ref a1), .val (.ref a2), .unset] [])) (by first | rfl | simp [entryFrame, mkF, argsToLocals, Value.category]) ?_
  refine X0.step (fun hA hx hq t k => XS.aloadN hA hx rfl (hb hq d7_0) rfl rfl k) ?_
  show OFin _ _ _ _ _ _ _ _ T0 (mkF m 1 #[.val (.ref a1), .val (.ref a2), .unset] [(.ref a2)])
  refine X0.instNo (hw _ (List.mem_of_getElem? (i := 44) rfl)) (E) (o_nsNo (hw _ (List.mem_of_getElem? (i := 90) rfl)) (hw _ (List.mem_of_getElem? (i := 6) rfl)) (NS.step (hw _ (List.mem_of_getElem? (i := 90) rfl)) (NS.step (hw _ (List.mem_of_getElem? (i := 91) rfl)) (o_nsRoot (hw _ (List.mem_of_getElem? (i := 92) rfl)) (hw _ (List.mem_of_getElem? (i := 6) rfl)) (by decide)) (by decide)) (by decide)) (by decide)) (g := (mkF m 1 #[.val (.ref a1), .val (.ref a2), .unset] [(.ref a2)])) rfl rfl d7_1 ?_
  intro T1 X1
  show OFin _ _ _ _ _ _ _ _ T1 (mkF m 4 #[.val (.ref a1), .val (.ref a2), .unset] [(.int (0 : Int32))])
  refine X1.step (fun hA hx hq t k => XS.ifYes hA hx rfl (pc0 := 4) (pc' := 38) rfl (hb hq d7_4) rfl ((if0 _ _).trans (teq ((by decide))).1) (by decide) (by decide) k) ?_
  show OFin _ _ _ _ _ _ _ _ T1 (mkF m 38 #[.val (.ref a1), .val (.ref a2), .unset] [])
  refine X1.step (fun hA hx hq t k => XS.iconst hA hx rfl (hb hq d7_38) k) ?_
  show OFin _ _ _ _ _ _ _ _ T1 (mkF m 39 #[.val (.ref a1), .val (.ref a2), .unset] [(.int (0 : Int32))])
  exact X1.retN (by simp) d7_39 (by decide) (by decide) (⟨rfl, rfl⟩)
theorem pn_java_lang_StringLatin1 : plainName "java/lang/StringLatin1" = true := by first | (simp [plainName, overriddenIn]; done) | decide +kernel
theorem d9_0 : decode jdk_43_method_3_code 0 = .ok (.iload_n 0, 1) := by decide +kernel
theorem d9_1 : decode jdk_43_method_3_code 1 = .ok (.sipush 255, 3) := by decide +kernel
theorem d9_4 : decode jdk_43_method_3_code 4 = .ok (.if_icmp .gt 7, 3) := by decide +kernel
theorem d9_7 : decode jdk_43_method_3_code 7 = .ok (.iconst 1, 1) := by decide +kernel
theorem d9_8 : decode jdk_43_method_3_code 8 = .ok (.goto 4, 3) := by decide +kernel
theorem d9_12 : decode jdk_43_method_3_code 12 = .ok (.ireturn, 1) := by decide +kernel
set_option maxRecDepth 65536 in
set_option maxHeartbeats 40000000 in
theorem rm9 (l : Launch) (Z : State) (a0 : Array Value) (hw : ∀ d ∈ tables_1, d.before a0 Z = true) (p0 : Int32) (h0 : Heap) (n0 : Nat) (hp : ¬ (255 : Int32) < p0) :
    OMeets l Z (⟨"java/lang/StringLatin1", "canEncode", "(C)Z"⟩ : MethodName) [] jdk_43_method_3_code 1 (some .boolean) ({ frames := 0, cells := 0, slots := 0, locals := 0 } : Room) #[(.int p0)] h0 n0 (fun v h => v = some (.int 1) ∧ h0 = h) := by
  refine o_enter (Z := Z) (plainFor_of_name pn_java_lang_StringLatin1) ?_
  intro p e s m below meth c T0 X0
  refine OFin.cast (g' := (mkF m 0 #[.val (.int p0)] [])) (by first | rfl | simp [entryFrame, mkF, argsToLocals, Value.category]) ?_
  refine X0.step (fun hA hx hq t k => XS.iloadN hA hx rfl (hb hq d9_0) rfl k) ?_
  show OFin _ _ _ _ _ _ _ _ T0 (mkF m 1 #[.val (.int p0)] [(.int p0)])
  refine X0.step (fun hA hx hq t k => XS.sipush hA hx rfl (hb hq d9_1) k) ?_
  show OFin _ _ _ _ _ _ _ _ T0 (mkF m 4 #[.val (.int p0)] [(.int (255 : Int32)), (.int p0)])
  refine X0.step (fun hA hx hq t k => XS.icmpNo hA hx rfl (hb hq d9_4) rfl (flt (hp)).2.2.1 k) ?_
  show OFin _ _ _ _ _ _ _ _ T0 (mkF m 7 #[.val (.int p0)] [])
  refine X0.step (fun hA hx hq t k => XS.iconst hA hx rfl (hb hq d9_7) k) ?_
  show OFin _ _ _ _ _ _ _ _ T0 (mkF m 8 #[.val (.int p0)] [(.int (1 : Int32))])
  refine X0.step (fun hA hx hq t k => XS.goto hA hx rfl (pc0 := 8) (pc' := 12) rfl (hb hq d9_8) (by decide) (by decide) k) ?_
  show OFin _ _ _ _ _ _ _ _ T0 (mkF m 12 #[.val (.int p0)] [(.int (1 : Int32))])
  exact X0.retN (by simp) d9_12 (by decide) (by decide) (⟨rfl, rfl⟩)
theorem d10_0 : decode jdk_43_method_46_code 0 = .ok (.iconst 1, 1) := by decide +kernel
theorem d10_1 : decode jdk_43_method_46_code 1 = .ok (.newarray .byte, 2) := by decide +kernel
theorem d10_3 : decode jdk_43_method_46_code 3 = .ok (.dup, 1) := by decide +kernel
theorem d10_4 : decode jdk_43_method_46_code 4 = .ok (.iconst 0, 1) := by decide +kernel
theorem d10_5 : decode jdk_43_method_46_code 5 = .ok (.iload_n 0, 1) := by decide +kernel
theorem d10_6 : decode jdk_43_method_46_code 6 = .ok (.i2b, 1) := by decide +kernel
theorem d10_7 : decode jdk_43_method_46_code 7 = .ok (.bastore, 1) := by decide +kernel
theorem d10_8 : decode jdk_43_method_46_code 8 = .ok (.areturn, 1) := by decide +kernel
set_option maxRecDepth 65536 in
set_option maxHeartbeats 40000000 in
theorem rm10 (l : Launch) (Z : State) (a0 : Array Value) (hw : ∀ d ∈ tables_1, d.before a0 Z = true) (p0 : Int32) (h0 : Heap) (n0 : Nat) (Z0 : n0 ≤ h0.size) :
    OMeets l Z (⟨"java/lang/StringLatin1", "toBytes", "(C)[B"⟩ : MethodName) [] jdk_43_method_46_code 1 (some (.array .byte)) ({ frames := 0, cells := 1, slots := 1, locals := 0 } : Room) #[(.int p0)] h0 n0 (fun v h => ∃ t, v = some (.ref t) ∧ Keep h0 h []) := by
  refine o_enter (Z := Z) (plainFor_of_name pn_java_lang_StringLatin1) ?_
  intro p e s m below meth c T0 X0
  refine OFin.cast (g' := (mkF m 0 #[.val (.int p0)] [])) (by first | rfl | simp [entryFrame, mkF, argsToLocals, Value.category]) ?_
  refine X0.step (fun hA hx hq t k => XS.iconst hA hx rfl (hb hq d10_0) k) ?_
  show OFin _ _ _ _ _ _ _ _ T0 (mkF m 1 #[.val (.int p0)] [(.int (1 : Int32))])
  refine X0.newP (hw _ (List.mem_of_getElem? (i := 65) rfl)) (g := (mkF m 1 #[.val (.int p0)] [(.int (1 : Int32))])) rfl d10_1 rfl (by decide) (cap := 1) (by decide) (by decide) (by decide) (by decide) (ad := "[B") (by first | rfl | decide) ?_
  intro T1 h1 k1 b1 gb1 X1 E1 A1 G1
  show OFin _ _ _ _ _ _ _ _ T1 (mkF m 3 #[.val (.int p0)] [(.ref b1)])
  refine X1.step (fun hA hx hq t k => XS.dup hA hx rfl (hb hq d10_3) rfl rfl k) ?_
  show OFin _ _ _ _ _ _ _ _ T1 (mkF m 4 #[.val (.int p0)] [(.ref b1), (.ref b1)])
  refine X1.step (fun hA hx hq t k => XS.iconst hA hx rfl (hb hq d10_4) k) ?_
  show OFin _ _ _ _ _ _ _ _ T1 (mkF m 5 #[.val (.int p0)] [(.int (0 : Int32)), (.ref b1), (.ref b1)])
  refine X1.step (fun hA hx hq t k => XS.iloadN hA hx rfl (hb hq d10_5) rfl k) ?_
  show OFin _ _ _ _ _ _ _ _ T1 (mkF m 6 #[.val (.int p0)] [(.int p0), (.int (0 : Int32)), (.ref b1), (.ref b1)])
  refine X1.step (fun hA hx hq t k => XS.i2b hA hx rfl (hb hq d10_6) rfl k) ?_
  show OFin _ _ _ _ _ _ _ _ T1 (mkF m 7 #[.val (.int p0)] [(.int (p0.toInt8.toInt32)), (.int (0 : Int32)), (.ref b1), (.ref b1)])
  refine X1.stB A1 (by rw [sz_new]; decide) (by rw [gb1]; exact Z0) (g := (mkF m 7 #[.val (.int p0)] [(.int (p0.toInt8.toInt32)), (.int (0 : Int32)), (.ref b1), (.ref b1)])) rfl rfl d10_7 ?_
  intro T2 h2 X2 W2
  show OFin _ _ _ _ _ _ _ _ T2 (mkF m 8 #[.val (.int p0)] [(.ref b1)])
  exact X2.retR rfl rfl d10_8 (by decide) (by decide) (⟨_, rfl, ((Keep.refl h0 []).ext E1).wr W2 (Or.inr (Nat.le_of_eq gb1.symm))⟩)
theorem pn_java_lang_String : plainName "java/lang/String" = true := by first | (simp [plainName, overriddenIn]; done) | decide +kernel
theorem d11_0 : decode jdk_42_method_151_code 0 = .ok (.aload_n 0, 1) := by decide +kernel
theorem d11_1 : decode jdk_42_method_151_code 1 = .ok (.invokespecial 1, 3) := by decide +kernel
theorem d11_4 : decode jdk_42_method_151_code 4 = .ok (.aload_n 0, 1) := by decide +kernel
theorem d11_5 : decode jdk_42_method_151_code 5 = .ok (.aload_n 1, 1) := by decide +kernel
theorem d11_6 : decode jdk_42_method_151_code 6 = .ok (.putfield 9, 3) := by decide +kernel
theorem d11_9 : decode jdk_42_method_151_code 9 = .ok (.aload_n 0, 1) := by decide +kernel
theorem d11_10 : decode jdk_42_method_151_code 10 = .ok (.iload_n 2, 1) := by decide +kernel
theorem d11_11 : decode jdk_42_method_151_code 11 = .ok (.putfield 15, 3) := by decide +kernel
theorem d11_14 : decode jdk_42_method_151_code 14 = .ok (.return_, 1) := by decide +kernel
set_option maxRecDepth 65536 in
set_option maxHeartbeats 40000000 in
theorem rm11 (l : Launch) (Z : State) (a0 : Array Value) (hw : ∀ d ∈ tables_1, d.before a0 Z = true) (a1 t : Addr) (h0 : Heap) (n0 : Nat) (F1 : Fld Z h0 a1 "java/lang/String" "value" "[B" .null) (F2 : Fld Z h0 a1 "java/lang/String" "coder" "B" (.int 0)) (E : Exa Z h0 a1 "java/lang/String") (hn : n0 ≤ a1) :
    OMeets l Z (⟨"java/lang/String", "<init>", "([BB)V"⟩ : MethodName) [] jdk_42_method_151_code 3 none ({ frames := 1, cells := 0, slots := 0, locals := 12 } : Room) #[(.ref a1), (.ref t), (.int (0 : Int32))] h0 n0 (fun v h => v = none ∧ Keep h0 h [a1] ∧ Exa Z h a1 "java/lang/String") := by
  refine o_enter (Z := Z) (plainFor_of_name pn_java_lang_String) ?_
  intro p e s m below meth c T0 X0
  refine OFin.cast (g' := (mkF m 0 #[.val (.ref a1), .val (.ref t), .val (.int (0 : Int32))] [])) (by first | rfl | simp [entryFrame, mkF, argsToLocals, Value.category]) ?_
  refine X0.step (fun hA hx hq t k => XS.aloadN hA hx rfl (hb hq d11_0) rfl rfl k) ?_
  show OFin _ _ _ _ _ _ _ _ T0 (mkF m 1 #[.val (.ref a1), .val (.ref t), .val (.int (0 : Int32))] [(.ref a1)])
  refine X0.initO (hw _ (List.mem_of_getElem? (i := 70) rfl)) (hw _ (List.mem_of_getElem? (i := 24) rfl)) (hw _ (List.mem_of_getElem? (i := 25) rfl)) (g := (mkF m 1 #[.val (.ref a1), .val (.ref t), .val (.int (0 : Int32))] [(.ref a1)])) rfl rfl rfl d11_1 (by decide) (W := 0) (by show 2 * 0 + _ ≤ _; exact Nat.le_of_eq rfl) (by decide) ?_
  intro T1 X1
  show OFin _ _ _ _ _ _ _ _ T1 (mkF m 4 #[.val (.ref a1), .val (.ref t), .val (.int (0 : Int32))] [])
  refine X1.step (fun hA hx hq t k => XS.aloadN hA hx rfl (hb hq d11_4) rfl rfl k) ?_
  show OFin _ _ _ _ _ _ _ _ T1 (mkF m 5 #[.val (.ref a1), .val (.ref t), .val (.int (0 : Int32))] [(.ref a1)])
  refine X1.step (fun hA hx hq t k => XS.aloadN hA hx rfl (hb hq d11_5) rfl rfl k) ?_
  show OFin _ _ _ _ _ _ _ _ T1 (mkF m 6 #[.val (.ref a1), .val (.ref t), .val (.int (0 : Int32))] [(.ref t), (.ref a1)])
  refine X1.putF (hw _ (List.mem_of_getElem? (i := 71) rfl)) F1 E (Or.inr ⟨(hw _ (List.mem_of_getElem? (i := 72) rfl)), rfl, rfl⟩) (hw _ (List.mem_of_getElem? (i := 61) rfl)) (ty := (.array .byte)) (by decide) rfl rfl hn (g := (mkF m 6 #[.val (.ref a1), .val (.ref t), .val (.int (0 : Int32))] [(.ref t), (.ref a1)])) rfl rfl d11_6 ?_
  intro T2 h2 X2 W2
  show OFin _ _ _ _ _ _ _ _ T2 (mkF m 9 #[.val (.ref a1), .val (.ref t), .val (.int (0 : Int32))] [])
  refine X2.step (fun hA hx hq t k => XS.aloadN hA hx rfl (hb hq d11_9) rfl rfl k) ?_
  show OFin _ _ _ _ _ _ _ _ T2 (mkF m 10 #[.val (.ref a1), .val (.ref t), .val (.int (0 : Int32))] [(.ref a1)])
  refine X2.step (fun hA hx hq t k => XS.iloadN hA hx rfl (hb hq d11_10) rfl k) ?_
  show OFin _ _ _ _ _ _ _ _ T2 (mkF m 11 #[.val (.ref a1), .val (.ref t), .val (.int (0 : Int32))] [(.int (0 : Int32)), (.ref a1)])
  refine X2.putF (hw _ (List.mem_of_getElem? (i := 73) rfl)) (F2.other W2 (Or.inr (slot_ne (Or.inr (hw _ (List.mem_of_getElem? (i := 74) rfl))) (Or.inr (hw _ (List.mem_of_getElem? (i := 72) rfl))) (by decide) (t := .byte) (t' := (.array .byte)) (by decide) (by decide)))) (E.wr W2) (Or.inr ⟨(hw _ (List.mem_of_getElem? (i := 74) rfl)), rfl, rfl⟩) (hw _ (List.mem_of_getElem? (i := 61) rfl)) (ty := .byte) (by decide) rfl rfl hn (g := (mkF m 11 #[.val (.ref a1), .val (.ref t), .val (.int (0 : Int32))] [(.int (0 : Int32)), (.ref a1)])) rfl rfl d11_11 ?_
  intro T3 h3 X3 W3
  show OFin _ _ _ _ _ _ _ _ T3 (mkF m 14 #[.val (.ref a1), .val (.ref t), .val (.int (0 : Int32))] [])
  exact X3.retV d11_14 (by decide) (by decide) (⟨rfl, (Keep.of_wr W2).wr W3 (Or.inl (List.mem_of_getElem? (i := 0) rfl)), (E.wr W2).wr W3⟩)
theorem d8_0 : decode jdk_42_method_139_code 0 = .ok (.getstatic 38, 3) := by decide +kernel
theorem d8_3 : decode jdk_42_method_139_code 3 = .ok (.ifCond .eq 23, 3) := by decide +kernel
theorem d8_6 : decode jdk_42_method_139_code 6 = .ok (.iload_n 0, 1) := by decide +kernel
theorem d8_7 : decode jdk_42_method_139_code 7 = .ok (.invokestatic 1015, 3) := by decide +kernel
theorem pd_pCr_Z : parseMethodDescriptor "(C)Z" = some ⟨[.char], some .boolean⟩ := by decide +kernel
theorem d8_10 : decode jdk_42_method_139_code 10 = .ok (.ifCond .eq 16, 3) := by decide +kernel
theorem d8_13 : decode jdk_42_method_139_code 13 = .ok (.new 10, 3) := by decide +kernel
theorem d8_16 : decode jdk_42_method_139_code 16 = .ok (.dup, 1) := by decide +kernel
theorem d8_17 : decode jdk_42_method_139_code 17 = .ok (.iload_n 0, 1) := by decide +kernel
theorem d8_18 : decode jdk_42_method_139_code 18 = .ok (.invokestatic 1018, 3) := by decide +kernel
theorem pd_pCr_A_B : parseMethodDescriptor "(C)[B" = some ⟨[.char], some (.array .byte)⟩ := by decide +kernel
theorem d8_21 : decode jdk_42_method_139_code 21 = .ok (.iconst 0, 1) := by decide +kernel
theorem d8_22 : decode jdk_42_method_139_code 22 = .ok (.invokespecial 209, 3) := by decide +kernel
theorem pd_pA_BBr_V : parseMethodDescriptor "([BB)V" = some ⟨[(.array .byte), .byte], none⟩ := by decide +kernel
theorem d8_25 : decode jdk_42_method_139_code 25 = .ok (.areturn, 1) := by decide +kernel
set_option maxRecDepth 65536 in
set_option maxHeartbeats 40000000 in
theorem rm12 (l : Launch) (Z : State) (a0 : Array Value) (hw : ∀ d ∈ tables_1, d.before a0 Z = true) (p0 cs : Int32) (h0 : Heap) (n0 : Nat) (SS : Sta Z h0 "java/lang/String" "COMPACT_STRINGS" "Z" (.int cs)) (hcs : ¬ cs = 0) (hp : ¬ (255 : Int32) < p0) (Z0 : n0 ≤ h0.size) :
    OMeets l Z (⟨"java/lang/String", "valueOf", "(C)Ljava/lang/String;"⟩ : MethodName) [] jdk_42_method_139_code 1 (some (.object "java/lang/String")) ({ frames := 2, cells := 2, slots := 5, locals := 27 } : Room) #[(.int p0)] h0 n0 (fun v h => ∃ f, v = some (.ref f) ∧ Keep h0 h [] ∧ Exa Z h f "java/lang/String") := by
  refine o_enter (Z := Z) (plainFor_of_name pn_java_lang_String) ?_
  intro p e s m below meth c T0 X0
  refine OFin.cast (g' := (mkF m 0 #[.val (.int p0)] [])) (by first | rfl | simp [entryFrame, mkF, argsToLocals, Value.category]) ?_
  refine X0.getS (hw _ (List.mem_of_getElem? (i := 55) rfl)) SS (g := (mkF m 0 #[.val (.int p0)] [])) rfl d8_0 ?_
  intro T1 X1
  show OFin _ _ _ _ _ _ _ _ T1 (mkF m 3 #[.val (.int p0)] [(.int cs)])
  refine X1.step (fun hA hx hq t k => XS.ifNo hA hx rfl (hb hq d8_3) rfl ((if0 _ _).trans (feq (hcs)).1) k) ?_
  show OFin _ _ _ _ _ _ _ _ T1 (mkF m 6 #[.val (.int p0)] [])
  refine X1.step (fun hA hx hq t k => XS.iloadN hA hx rfl (hb hq d8_6) rfl k) ?_
  show OFin _ _ _ _ _ _ _ _ T1 (mkF m 7 #[.val (.int p0)] [(.int p0)])
  refine X1.callS (y' := (⟨"java/lang/StringLatin1", "canEncode", "(C)Z"⟩ : MethodName)) (hw _ (List.mem_of_getElem? (i := 56) rfl)) (hw _ (List.mem_of_getElem? (i := 57) rfl)) (hw _ (List.mem_of_getElem? (i := 58) rfl)) (hw _ (List.mem_of_getElem? (i := 59) rfl)) (by decide) (argsL := [(.int p0)]) (rest := []) (rm9 l Z a0 hw p0 h0 n0 hp) (g := (mkF m 7 #[.val (.int p0)] [(.int p0)])) rfl rfl pd_pCr_Z rfl rfl (W := 0) (by show 2 * 0 + _ ≤ _; exact Nat.le_of_eq rfl) d8_7 (by decide) (by decide) (by decide) (by decide) ?_
  intro v2 T2 h2 X2 q2
  obtain ⟨rfl, rfl⟩ := q2
  show OFin _ _ _ _ _ _ _ _ T2 (mkF m 10 #[.val (.int p0)] [(.int (1 : Int32))])
  refine X2.step (fun hA hx hq t k => XS.ifNo hA hx rfl (hb hq d8_10) rfl ((if0 _ _).trans (feq ((by decide))).1) k) ?_
  show OFin _ _ _ _ _ _ _ _ T2 (mkF m 13 #[.val (.int p0)] [])
  refine X2.newO (hw _ (List.mem_of_getElem? (i := 60) rfl)) (hw _ (List.mem_of_getElem? (i := 61) rfl)) (hw _ (List.mem_of_getElem? (i := 53) rfl)) (g := (mkF m 13 #[.val (.int p0)] [])) rfl d8_13 (by decide) (by decide) ?_
  intro T3 h3 b3 gb3 X3 E3 A3 D3
  show OFin _ _ _ _ _ _ _ _ T3 (mkF m 16 #[.val (.int p0)] [(.ref b3)])
  have Fv : Fld Z h3 b3 "java/lang/String" "value" "[B" .null := D3 (Or.inr (hw _ (List.mem_of_getElem? (i := 72) rfl))) (ty := (.array .byte)) (by decide)
  have Fc : Fld Z h3 b3 "java/lang/String" "coder" "B" (.int (0 : Int32)) := D3 (Or.inr (hw _ (List.mem_of_getElem? (i := 74) rfl))) (ty := .byte) (by decide)
  refine X3.step (fun hA hx hq t k => XS.dup hA hx rfl (hb hq d8_16) rfl rfl k) ?_
  show OFin _ _ _ _ _ _ _ _ T3 (mkF m 17 #[.val (.int p0)] [(.ref b3), (.ref b3)])
  refine X3.step (fun hA hx hq t k => XS.iloadN hA hx rfl (hb hq d8_17) rfl k) ?_
  show OFin _ _ _ _ _ _ _ _ T3 (mkF m 18 #[.val (.int p0)] [(.int p0), (.ref b3), (.ref b3)])
  refine X3.callS (y' := (⟨"java/lang/StringLatin1", "toBytes", "(C)[B"⟩ : MethodName)) (hw _ (List.mem_of_getElem? (i := 62) rfl)) (hw _ (List.mem_of_getElem? (i := 63) rfl)) (hw _ (List.mem_of_getElem? (i := 58) rfl)) (hw _ (List.mem_of_getElem? (i := 64) rfl)) (by decide) (argsL := [(.int p0)]) (rest := [(.ref b3), (.ref b3)]) (rm10 l Z a0 hw p0 h3 n0 (Nat.le_trans Z0 E3.1)) (g := (mkF m 18 #[.val (.int p0)] [(.int p0), (.ref b3), (.ref b3)])) rfl rfl pd_pCr_A_B rfl rfl (W := 2) (by show 2 * 0 + _ ≤ _; exact Nat.le_of_eq rfl) d8_18 (by decide) (by decide) (by decide) (by decide) ?_
  intro v4 T4 h4 X4 q4
  obtain ⟨t, rfl, K4⟩ := q4
  show OFin _ _ _ _ _ _ _ _ T4 (mkF m 21 #[.val (.int p0)] [(.ref t), (.ref b3), (.ref b3)])
  refine X4.step (fun hA hx hq t k => XS.iconst hA hx rfl (hb hq d8_21) k) ?_
  show OFin _ _ _ _ _ _ _ _ T4 (mkF m 22 #[.val (.int p0)] [(.int (0 : Int32)), (.ref t), (.ref b3), (.ref b3)])
  refine X4.callI (y' := (⟨"java/lang/String", "<init>", "([BB)V"⟩ : MethodName)) rfl (hw _ (List.mem_of_getElem? (i := 66) rfl)) (hw _ (List.mem_of_getElem? (i := 67) rfl)) (hw _ (List.mem_of_getElem? (i := 53) rfl)) (hw _ (List.mem_of_getElem? (i := 69) rfl)) (by decide) (a := b3) (argsL := [(.ref t), (.int (0 : Int32))]) (rest := [(.ref b3)]) (rm11 l Z a0 hw b3 t h4 n0 (Fv.keep K4 nin0) (Fc.keep K4 nin0) (A3.keep K4) (by rw [gb3]; exact Z0)) (g := (mkF m 22 #[.val (.int p0)] [(.int (0 : Int32)), (.ref t), (.ref b3), (.ref b3)])) rfl rfl pd_pA_BBr_V rfl rfl (W := 1) (by show 2 * 0 + _ ≤ _; exact Nat.le_of_eq rfl) d8_22 (by decide) (by decide) (by decide) (by decide) ?_
  intro v5 T5 h5 X5 q5
  obtain ⟨rfl, K5, E5⟩ := q5
  show OFin _ _ _ _ _ _ _ _ T5 (mkF m 25 #[.val (.int p0)] [(.ref b3)])
  exact X5.retR rfl rfl d8_25 (by decide) (by decide) (⟨b3, rfl, (((Keep.refl h0 []).ext E3).trans K4 all0).trans K5 (allS (Or.inr (Nat.le_of_eq gb3.symm)) all0), E5⟩)
theorem pn_java_util_Objects : plainName "java/util/Objects" = true := by first | (simp [plainName, overriddenIn]; done) | decide +kernel
theorem d13_0 : decode jdk_31_method_10_code 0 = .ok (.aload_n 0, 1) := by decide +kernel
theorem d13_1 : decode jdk_31_method_10_code 1 = .ok (.ifnonnull 11, 3) := by decide +kernel
theorem d13_12 : decode jdk_31_method_10_code 12 = .ok (.aload_n 0, 1) := by decide +kernel
theorem d13_13 : decode jdk_31_method_10_code 13 = .ok (.areturn, 1) := by decide +kernel
set_option maxRecDepth 65536 in
set_option maxHeartbeats 40000000 in
theorem rm13 (l : Launch) (Z : State) (a0 : Array Value) (hw : ∀ d ∈ tables_1, d.before a0 Z = true) (a1 : Addr) (h0 : Heap) (n0 : Nat)  :
    OMeets l Z (⟨"java/util/Objects", "requireNonNull", "(Ljava/lang/Object;)Ljava/lang/Object;"⟩ : MethodName) [] jdk_31_method_10_code 1 (some (.object "java/lang/Object")) ({ frames := 0, cells := 0, slots := 0, locals := 0 } : Room) #[(.ref a1)] h0 n0 (fun v h => v = some (.ref a1) ∧ h0 = h) := by
  refine o_enter (Z := Z) (plainFor_of_name pn_java_util_Objects) ?_
  intro p e s m below meth c T0 X0
  refine OFin.cast (g' := (mkF m 0 #[.val (.ref a1)] [])) (by first | rfl | simp [entryFrame, mkF, argsToLocals, Value.category]) ?_
  refine X0.step (fun hA hx hq t k => XS.aloadN hA hx rfl (hb hq d13_0) rfl rfl k) ?_
  show OFin _ _ _ _ _ _ _ _ T0 (mkF m 1 #[.val (.ref a1)] [(.ref a1)])
  refine X0.step (fun hA hx hq t k => XS.ifnonnullYes hA hx rfl (pc0 := 1) (pc' := 12) rfl (hb hq d13_1) rfl (by decide) (by decide) k) ?_
  show OFin _ _ _ _ _ _ _ _ T0 (mkF m 12 #[.val (.ref a1)] [])
  refine X0.step (fun hA hx hq t k => XS.aloadN hA hx rfl (hb hq d13_12) rfl rfl k) ?_
  show OFin _ _ _ _ _ _ _ _ T0 (mkF m 13 #[.val (.ref a1)] [(.ref a1)])
  exact X0.retR rfl rfl d13_13 (by decide) (by decide) (⟨rfl, rfl⟩)
theorem pn_com_example_replay_proof_replayproof_model_Name : plainName "com/example/replay_proof/replayproof/model/Name" = true := by first | (simp [plainName, overriddenIn]; done) | decide +kernel
theorem d12_0 : decode prog_82_method_1_code 0 = .ok (.aload_n 0, 1) := by decide +kernel
theorem d12_1 : decode prog_82_method_1_code 1 = .ok (.invokespecial 1, 3) := by decide +kernel
theorem d12_4 : decode prog_82_method_1_code 4 = .ok (.aload_n 0, 1) := by decide +kernel
theorem d12_5 : decode prog_82_method_1_code 5 = .ok (.aload_n 1, 1) := by decide +kernel
theorem d12_6 : decode prog_82_method_1_code 6 = .ok (.invokestatic 7, 3) := by decide +kernel
theorem pd_pLjava_lang_Object_r_Ljava_lang_Object_ : parseMethodDescriptor "(Ljava/lang/Object;)Ljava/lang/Object;" = some ⟨[(.object "java/lang/Object")], some (.object "java/lang/Object")⟩ := by decide +kernel
theorem d12_9 : decode prog_82_method_1_code 9 = .ok (.checkcast 13, 3) := by decide +kernel
theorem d12_12 : decode prog_82_method_1_code 12 = .ok (.putfield 15, 3) := by decide +kernel
theorem d12_15 : decode prog_82_method_1_code 15 = .ok (.aload_n 0, 1) := by decide +kernel
theorem d12_16 : decode prog_82_method_1_code 16 = .ok (.aload_n 2, 1) := by decide +kernel
theorem d12_17 : decode prog_82_method_1_code 17 = .ok (.invokestatic 7, 3) := by decide +kernel
theorem d12_20 : decode prog_82_method_1_code 20 = .ok (.checkcast 21, 3) := by decide +kernel
theorem d12_23 : decode prog_82_method_1_code 23 = .ok (.putfield 23, 3) := by decide +kernel
theorem d12_26 : decode prog_82_method_1_code 26 = .ok (.return_, 1) := by decide +kernel
set_option maxRecDepth 65536 in
set_option maxHeartbeats 40000000 in
theorem rm14 (l : Launch) (Z : State) (a0 : Array Value) (hw : ∀ d ∈ tables_1, d.before a0 Z = true) (a1 tx kd : Addr) (h0 : Heap) (n0 : Nat) (F1 : Fld Z h0 a1 "com/example/replay_proof/replayproof/model/Name" "text" "Ljava/lang/String;" .null) (F2 : Fld Z h0 a1 "com/example/replay_proof/replayproof/model/Name" "kind" "Lcom/example/replay_proof/replayproof/model/Name$Kind;" .null) (E : Exa Z h0 a1 "com/example/replay_proof/replayproof/model/Name") (hn : n0 ≤ a1) (ET : Exa Z h0 tx "java/lang/String") (EK : Exa Z h0 kd "com/example/replay_proof/replayproof/model/Name$Kind") :
    OMeets l Z (⟨"com/example/replay_proof/replayproof/model/Name", "<init>", "(Ljava/lang/String;Lcom/example/replay_proof/replayproof/model/Name$Kind;)V"⟩ : MethodName) [] prog_82_method_1_code 3 none ({ frames := 2, cells := 0, slots := 0, locals := 24 } : Room) #[(.ref a1), (.ref tx), (.ref kd)] h0 n0 (fun v h => v = none ∧ Keep h0 h [a1] ∧ Exa Z h a1 "com/example/replay_proof/replayproof/model/Name") := by
  refine o_enter (Z := Z) (plainFor_of_name pn_com_example_replay_proof_replayproof_model_Name) ?_
  intro p e s m below meth c T0 X0
  refine OFin.cast (g' := (mkF m 0 #[.val (.ref a1), .val (.ref tx), .val (.ref kd)] [])) (by first | rfl | simp [entryFrame, mkF, argsToLocals, Value.category]) ?_
  refine X0.step (fun hA hx hq t k => XS.aloadN hA hx rfl (hb hq d12_0) rfl rfl k) ?_
  show OFin _ _ _ _ _ _ _ _ T0 (mkF m 1 #[.val (.ref a1), .val (.ref tx), .val (.ref kd)] [(.ref a1)])
  refine X0.callI (y' := (⟨"com/example/replay_proof/replayproof/model/Message", "<init>", "()V"⟩ : MethodName)) rfl (hw _ (List.mem_of_getElem? (i := 78) rfl)) (hw _ (List.mem_of_getElem? (i := 19) rfl)) (hw _ (List.mem_of_getElem? (i := 21) rfl)) (hw _ (List.mem_of_getElem? (i := 22) rfl)) (by decide) (a := a1) (argsL := []) (rest := []) (rm3 l Z a0 hw a1 h0 n0) (g := (mkF m 1 #[.val (.ref a1), .val (.ref tx), .val (.ref kd)] [(.ref a1)])) rfl rfl pd_pr_V rfl rfl (W := 0) (by show 2 * 0 + _ ≤ _; exact Nat.le_of_eq rfl) d12_1 (by decide) (by decide) (by decide) (by decide) ?_
  intro v1 T1 h1 X1 q1
  obtain ⟨rfl, rfl⟩ := q1
  show OFin _ _ _ _ _ _ _ _ T1 (mkF m 4 #[.val (.ref a1), .val (.ref tx), .val (.ref kd)] [])
  refine X1.step (fun hA hx hq t k => XS.aloadN hA hx rfl (hb hq d12_4) rfl rfl k) ?_
  show OFin _ _ _ _ _ _ _ _ T1 (mkF m 5 #[.val (.ref a1), .val (.ref tx), .val (.ref kd)] [(.ref a1)])
  refine X1.step (fun hA hx hq t k => XS.aloadN hA hx rfl (hb hq d12_5) rfl rfl k) ?_
  show OFin _ _ _ _ _ _ _ _ T1 (mkF m 6 #[.val (.ref a1), .val (.ref tx), .val (.ref kd)] [(.ref tx), (.ref a1)])
  refine X1.callS (y' := (⟨"java/util/Objects", "requireNonNull", "(Ljava/lang/Object;)Ljava/lang/Object;"⟩ : MethodName)) (hw _ (List.mem_of_getElem? (i := 79) rfl)) (hw _ (List.mem_of_getElem? (i := 80) rfl)) (hw _ (List.mem_of_getElem? (i := 81) rfl)) (hw _ (List.mem_of_getElem? (i := 82) rfl)) (by decide) (argsL := [(.ref tx)]) (rest := [(.ref a1)]) (rm13 l Z a0 hw tx h0 n0) (g := (mkF m 6 #[.val (.ref a1), .val (.ref tx), .val (.ref kd)] [(.ref tx), (.ref a1)])) rfl rfl pd_pLjava_lang_Object_r_Ljava_lang_Object_ rfl rfl (W := 1) (by show 2 * 0 + _ ≤ _; exact Nat.le_of_eq rfl) d12_6 (by decide) (by decide) (by decide) (by decide) ?_
  intro v2 T2 h2 X2 q2
  obtain ⟨rfl, rfl⟩ := q2
  show OFin _ _ _ _ _ _ _ _ T2 (mkF m 9 #[.val (.ref a1), .val (.ref tx), .val (.ref kd)] [(.ref tx), (.ref a1)])
  refine X2.castY (hw _ (List.mem_of_getElem? (i := 83) rfl)) (Ins.self ET) (g := (mkF m 9 #[.val (.ref a1), .val (.ref tx), .val (.ref kd)] [(.ref tx), (.ref a1)])) rfl rfl d12_9 ?_
  intro T3 X3
  show OFin _ _ _ _ _ _ _ _ T3 (mkF m 12 #[.val (.ref a1), .val (.ref tx), .val (.ref kd)] [(.ref tx), (.ref a1)])
  refine X3.putF (hw _ (List.mem_of_getElem? (i := 84) rfl)) F1 E (Or.inr ⟨(hw _ (List.mem_of_getElem? (i := 85) rfl)), rfl, rfl⟩) (hw _ (List.mem_of_getElem? (i := 49) rfl)) (ty := (.object "java/lang/String")) (by decide) rfl rfl hn (g := (mkF m 12 #[.val (.ref a1), .val (.ref tx), .val (.ref kd)] [(.ref tx), (.ref a1)])) rfl rfl d12_12 ?_
  intro T4 h4 X4 W4
  show OFin _ _ _ _ _ _ _ _ T4 (mkF m 15 #[.val (.ref a1), .val (.ref tx), .val (.ref kd)] [])
  refine X4.step (fun hA hx hq t k => XS.aloadN hA hx rfl (hb hq d12_15) rfl rfl k) ?_
  show OFin _ _ _ _ _ _ _ _ T4 (mkF m 16 #[.val (.ref a1), .val (.ref tx), .val (.ref kd)] [(.ref a1)])
  refine X4.step (fun hA hx hq t k => XS.aloadN hA hx rfl (hb hq d12_16) rfl rfl k) ?_
  show OFin _ _ _ _ _ _ _ _ T4 (mkF m 17 #[.val (.ref a1), .val (.ref tx), .val (.ref kd)] [(.ref kd), (.ref a1)])
  refine X4.callS (y' := (⟨"java/util/Objects", "requireNonNull", "(Ljava/lang/Object;)Ljava/lang/Object;"⟩ : MethodName)) (hw _ (List.mem_of_getElem? (i := 79) rfl)) (hw _ (List.mem_of_getElem? (i := 80) rfl)) (hw _ (List.mem_of_getElem? (i := 81) rfl)) (hw _ (List.mem_of_getElem? (i := 82) rfl)) (by decide) (argsL := [(.ref kd)]) (rest := [(.ref a1)]) (rm13 l Z a0 hw kd h4 n0) (g := (mkF m 17 #[.val (.ref a1), .val (.ref tx), .val (.ref kd)] [(.ref kd), (.ref a1)])) rfl rfl pd_pLjava_lang_Object_r_Ljava_lang_Object_ rfl rfl (W := 1) (by show 2 * 0 + _ ≤ _; exact Nat.le_of_eq rfl) d12_17 (by decide) (by decide) (by decide) (by decide) ?_
  intro v5 T5 h5 X5 q5
  obtain ⟨rfl, rfl⟩ := q5
  show OFin _ _ _ _ _ _ _ _ T5 (mkF m 20 #[.val (.ref a1), .val (.ref tx), .val (.ref kd)] [(.ref kd), (.ref a1)])
  refine X5.castY (hw _ (List.mem_of_getElem? (i := 86) rfl)) (Ins.self (EK.wr W4)) (g := (mkF m 20 #[.val (.ref a1), .val (.ref tx), .val (.ref kd)] [(.ref kd), (.ref a1)])) rfl rfl d12_20 ?_
  intro T6 X6
  show OFin _ _ _ _ _ _ _ _ T6 (mkF m 23 #[.val (.ref a1), .val (.ref tx), .val (.ref kd)] [(.ref kd), (.ref a1)])
  refine X6.putF (hw _ (List.mem_of_getElem? (i := 88) rfl)) (F2.other W4 (Or.inr (slot_ne (Or.inr (hw _ (List.mem_of_getElem? (i := 89) rfl))) (Or.inr (hw _ (List.mem_of_getElem? (i := 85) rfl))) (by decide) (t := (.object "com/example/replay_proof/replayproof/model/Name$Kind")) (t' := (.object "java/lang/String")) (by decide) (by decide)))) (E.wr W4) (Or.inr ⟨(hw _ (List.mem_of_getElem? (i := 89) rfl)), rfl, rfl⟩) (hw _ (List.mem_of_getElem? (i := 49) rfl)) (ty := (.object "com/example/replay_proof/replayproof/model/Name$Kind")) (by decide) rfl rfl hn (g := (mkF m 23 #[.val (.ref a1), .val (.ref tx), .val (.ref kd)] [(.ref kd), (.ref a1)])) rfl rfl d12_23 ?_
  intro T7 h7 X7 W7
  show OFin _ _ _ _ _ _ _ _ T7 (mkF m 26 #[.val (.ref a1), .val (.ref tx), .val (.ref kd)] [])
  exact X7.retV d12_26 (by decide) (by decide) (⟨rfl, (Keep.of_wr W4).wr W7 (Or.inl (List.mem_of_getElem? (i := 0) rfl)), (E.wr W4).wr W7⟩)
theorem pd_pIIr_I : parseMethodDescriptor "(II)I" = some ⟨[.int, .int], some .int⟩ := by decide +kernel
theorem pd_pIr_Lcom_example_replay_proof_replayproof_model_Name_Kind_ : parseMethodDescriptor "(I)Lcom/example/replay_proof/replayproof/model/Name$Kind;" = some ⟨[.int], some (.object "com/example/replay_proof/replayproof/model/Name$Kind")⟩ := by decide +kernel
theorem pd_pLcom_example_replay_proof_replayproof_model_Name_Kind_Ir_V : parseMethodDescriptor "(Lcom/example/replay_proof/replayproof/model/Name$Kind;I)V" = some ⟨[(.object "com/example/replay_proof/replayproof/model/Name$Kind"), .int], none⟩ := by decide +kernel
theorem pd_pLjava_lang_Object_r_Z : parseMethodDescriptor "(Ljava/lang/Object;)Z" = some ⟨[(.object "java/lang/Object")], some .boolean⟩ := by decide +kernel
theorem pd_pCr_Ljava_lang_String_ : parseMethodDescriptor "(C)Ljava/lang/String;" = some ⟨[.char], some (.object "java/lang/String")⟩ := by decide +kernel
theorem pd_pLjava_lang_String_Lcom_example_replay_proof_replayproof_model_Name_Kind_r_V : parseMethodDescriptor "(Ljava/lang/String;Lcom/example/replay_proof/replayproof/model/Name$Kind;)V" = some ⟨[(.object "java/lang/String"), (.object "com/example/replay_proof/replayproof/model/Name$Kind")], none⟩ := by decide +kernel
set_option maxRecDepth 65536 in
set_option maxHeartbeats 40000000 in
theorem rm0 (l : Launch) (Z : State) (a0 : Array Value) (hw : ∀ d ∈ tables_1, d.before a0 Z = true) (ws : List Jvm.Cond) (p0 p1 p2 p3 p4 p5 cs : Int32) (aT aN aK : Addr) (h0 : Heap) (n0 : Nat) (O0 : Old Z n0 h0) (ST : Sta Z Z.heap "com/example/replay_proof/replayproof/model/Name$Kind" "TIMESTAMP" "Lcom/example/replay_proof/replayproof/model/Name$Kind;" (.ref aT)) (ET : Exa Z Z.heap aT "com/example/replay_proof/replayproof/model/Name$Kind") (FT : Fld Z Z.heap aT "com/example/replay_proof/replayproof/model/Name$Kind" "fresh" "Z" (.int 1)) (SN : Sta Z Z.heap "com/example/replay_proof/replayproof/model/Name$Kind" "NONCE" "Lcom/example/replay_proof/replayproof/model/Name$Kind;" (.ref aN)) (EN : Exa Z Z.heap aN "com/example/replay_proof/replayproof/model/Name$Kind") (FN : Fld Z Z.heap aN "com/example/replay_proof/replayproof/model/Name$Kind" "fresh" "Z" (.int 1)) (SK : Sta Z Z.heap "com/example/replay_proof/replayproof/model/Name$Kind" "KEY" "Lcom/example/replay_proof/replayproof/model/Name$Kind;" (.ref aK)) (EK : Exa Z Z.heap aK "com/example/replay_proof/replayproof/model/Name$Kind") (FK : Fld Z Z.heap aK "com/example/replay_proof/replayproof/model/Name$Kind" "fresh" "Z" (.int 1)) (SS : Sta Z Z.heap "java/lang/String" "COMPACT_STRINGS" "Z" (.int cs)) (hcs : ¬ cs = 0) (q1 : aT ≠ aN) (q2 : aT ≠ aK) (q3 : aN ≠ aK) :
    OMeets l Z x ws code maxLocals ret room_1 #[(.int p0), (.int p1), (.int p2), (.int p3), (.int p4), (.int p5)] h0 n0 (fun v h => v = some (.int 1)) := by
  refine o_enter (Z := Z) (plainFor_of_name pn_com_example_replay_proof_replayproof_model_IntruderValueEqualsPinLaw) ?_
  intro p e s m below meth c T0 X0
  refine OFin.cast (g' := (mkF m 0 #[.val (.int p0), .val (.int p1), .val (.int p2), .val (.int p3), .val (.int p4), .val (.int p5), .unset, .unset, .unset, .unset, .unset, .unset, .unset, .unset, .unset] [])) (by first | rfl | simp [entryFrame, mkF, argsToLocals, Value.category, maxLocals]) ?_
  have Z0 : n0 ≤ h0.size := by rw [← O0.1]; exact O0.2.1
  have r1 := own_i3 p0
  have r2 := own_i3 p2
  have g1 := own_max p1
  have g2 := own_max p3
  refine X0.step (fun hA hx hq t k => XS.iloadN hA hx rfl (hb hq at_0) rfl k) ?_
  show OFin _ _ _ _ _ _ _ _ T0 (mkF m 1 #[.val (.int p0), .val (.int p1), .val (.int p2), .val (.int p3), .val (.int p4), .val (.int p5), .unset, .unset, .unset, .unset, .unset, .unset, .unset, .unset, .unset] [(.int p0)])
  refine X0.ldcI (hw _ (List.mem_of_getElem? (i := 0) rfl)) (g := (mkF m 1 #[.val (.int p0), .val (.int p1), .val (.int p2), .val (.int p3), .val (.int p4), .val (.int p5), .unset, .unset, .unset, .unset, .unset, .unset, .unset, .unset, .unset] [(.int p0)])) rfl at_1 ?_
  show OFin _ _ _ _ _ _ _ _ T0 (mkF m 3 #[.val (.int p0), .val (.int p1), .val (.int p2), .val (.int p3), .val (.int p4), .val (.int p5), .unset, .unset, .unset, .unset, .unset, .unset, .unset, .unset, .unset] [(.int (2147483647 : Int32)), (.int p0)])
  refine X0.step (fun hA hx hq t k => XS.iand hA hx rfl (hb hq at_3) rfl k) ?_
  show OFin _ _ _ _ _ _ _ _ T0 (mkF m 4 #[.val (.int p0), .val (.int p1), .val (.int p2), .val (.int p3), .val (.int p4), .val (.int p5), .unset, .unset, .unset, .unset, .unset, .unset, .unset, .unset, .unset] [(.int (p0 &&& (2147483647 : Int32)))])
  refine X0.step (fun hA hx hq t k => XS.iconst hA hx rfl (hb hq at_4) k) ?_
  show OFin _ _ _ _ _ _ _ _ T0 (mkF m 5 #[.val (.int p0), .val (.int p1), .val (.int p2), .val (.int p3), .val (.int p4), .val (.int p5), .unset, .unset, .unset, .unset, .unset, .unset, .unset, .unset, .unset] [(.int (3 : Int32)), (.int (p0 &&& (2147483647 : Int32)))])
  refine X0.irem (g := (mkF m 5 #[.val (.int p0), .val (.int p1), .val (.int p2), .val (.int p3), .val (.int p4), .val (.int p5), .unset, .unset, .unset, .unset, .unset, .unset, .unset, .unset, .unset] [(.int (3 : Int32)), (.int (p0 &&& (2147483647 : Int32)))])) rfl at_5 rfl (by decide) ?_
  show OFin _ _ _ _ _ _ _ _ T0 (mkF m 6 #[.val (.int p0), .val (.int p1), .val (.int p2), .val (.int p3), .val (.int p4), .val (.int p5), .unset, .unset, .unset, .unset, .unset, .unset, .unset, .unset, .unset] [(.int ((p0 &&& (2147483647 : Int32)) % (3 : Int32)))])
  refine X0.step (fun hA hx hq t k => XS.istore hA hx rfl (hb hq at_6) rfl (l' := #[.val (.int p0), .val (.int p1), .val (.int p2), .val (.int p3), .val (.int p4), .val (.int p5), .val (.int ((p0 &&& (2147483647 : Int32)) % (3 : Int32))), .unset, .unset, .unset, .unset, .unset, .unset, .unset, .unset]) rfl k) ?_
  show OFin _ _ _ _ _ _ _ _ T0 (mkF m 8 #[.val (.int p0), .val (.int p1), .val (.int p2), .val (.int p3), .val (.int p4), .val (.int p5), .val (.int ((p0 &&& (2147483647 : Int32)) % (3 : Int32))), .unset, .unset, .unset, .unset, .unset, .unset, .unset, .unset] [])
  refine X0.step (fun hA hx hq t k => XS.iloadN hA hx rfl (hb hq at_8) rfl k) ?_
  show OFin _ _ _ _ _ _ _ _ T0 (mkF m 9 #[.val (.int p0), .val (.int p1), .val (.int p2), .val (.int p3), .val (.int p4), .val (.int p5), .val (.int ((p0 &&& (2147483647 : Int32)) % (3 : Int32))), .unset, .unset, .unset, .unset, .unset, .unset, .unset, .unset] [(.int p2)])
  refine X0.ldcI (hw _ (List.mem_of_getElem? (i := 0) rfl)) (g := (mkF m 9 #[.val (.int p0), .val (.int p1), .val (.int p2), .val (.int p3), .val (.int p4), .val (.int p5), .val (.int ((p0 &&& (2147483647 : Int32)) % (3 : Int32))), .unset, .unset, .unset, .unset, .unset, .unset, .unset, .unset] [(.int p2)])) rfl at_9 ?_
  show OFin _ _ _ _ _ _ _ _ T0 (mkF m 11 #[.val (.int p0), .val (.int p1), .val (.int p2), .val (.int p3), .val (.int p4), .val (.int p5), .val (.int ((p0 &&& (2147483647 : Int32)) % (3 : Int32))), .unset, .unset, .unset, .unset, .unset, .unset, .unset, .unset] [(.int (2147483647 : Int32)), (.int p2)])
  refine X0.step (fun hA hx hq t k => XS.iand hA hx rfl (hb hq at_11) rfl k) ?_
  show OFin _ _ _ _ _ _ _ _ T0 (mkF m 12 #[.val (.int p0), .val (.int p1), .val (.int p2), .val (.int p3), .val (.int p4), .val (.int p5), .val (.int ((p0 &&& (2147483647 : Int32)) % (3 : Int32))), .unset, .unset, .unset, .unset, .unset, .unset, .unset, .unset] [(.int (p2 &&& (2147483647 : Int32)))])
  refine X0.step (fun hA hx hq t k => XS.iconst hA hx rfl (hb hq at_12) k) ?_
  show OFin _ _ _ _ _ _ _ _ T0 (mkF m 13 #[.val (.int p0), .val (.int p1), .val (.int p2), .val (.int p3), .val (.int p4), .val (.int p5), .val (.int ((p0 &&& (2147483647 : Int32)) % (3 : Int32))), .unset, .unset, .unset, .unset, .unset, .unset, .unset, .unset] [(.int (3 : Int32)), (.int (p2 &&& (2147483647 : Int32)))])
  refine X0.irem (g := (mkF m 13 #[.val (.int p0), .val (.int p1), .val (.int p2), .val (.int p3), .val (.int p4), .val (.int p5), .val (.int ((p0 &&& (2147483647 : Int32)) % (3 : Int32))), .unset, .unset, .unset, .unset, .unset, .unset, .unset, .unset] [(.int (3 : Int32)), (.int (p2 &&& (2147483647 : Int32)))])) rfl at_13 rfl (by decide) ?_
  show OFin _ _ _ _ _ _ _ _ T0 (mkF m 14 #[.val (.int p0), .val (.int p1), .val (.int p2), .val (.int p3), .val (.int p4), .val (.int p5), .val (.int ((p0 &&& (2147483647 : Int32)) % (3 : Int32))), .unset, .unset, .unset, .unset, .unset, .unset, .unset, .unset] [(.int ((p2 &&& (2147483647 : Int32)) % (3 : Int32)))])
  refine X0.step (fun hA hx hq t k => XS.istore hA hx rfl (hb hq at_14) rfl (l' := #[.val (.int p0), .val (.int p1), .val (.int p2), .val (.int p3), .val (.int p4), .val (.int p5), .val (.int ((p0 &&& (2147483647 : Int32)) % (3 : Int32))), .val (.int ((p2 &&& (2147483647 : Int32)) % (3 : Int32))), .unset, .unset, .unset, .unset, .unset, .unset, .unset]) rfl k) ?_
  show OFin _ _ _ _ _ _ _ _ T0 (mkF m 16 #[.val (.int p0), .val (.int p1), .val (.int p2), .val (.int p3), .val (.int p4), .val (.int p5), .val (.int ((p0 &&& (2147483647 : Int32)) % (3 : Int32))), .val (.int ((p2 &&& (2147483647 : Int32)) % (3 : Int32))), .unset, .unset, .unset, .unset, .unset, .unset, .unset] [])
  refine X0.step (fun hA hx hq t k => XS.iconst hA hx rfl (hb hq at_16) k) ?_
  show OFin _ _ _ _ _ _ _ _ T0 (mkF m 17 #[.val (.int p0), .val (.int p1), .val (.int p2), .val (.int p3), .val (.int p4), .val (.int p5), .val (.int ((p0 &&& (2147483647 : Int32)) % (3 : Int32))), .val (.int ((p2 &&& (2147483647 : Int32)) % (3 : Int32))), .unset, .unset, .unset, .unset, .unset, .unset, .unset] [(.int (1 : Int32))])
  refine X0.step (fun hA hx hq t k => XS.iloadN hA hx rfl (hb hq at_17) rfl k) ?_
  show OFin _ _ _ _ _ _ _ _ T0 (mkF m 18 #[.val (.int p0), .val (.int p1), .val (.int p2), .val (.int p3), .val (.int p4), .val (.int p5), .val (.int ((p0 &&& (2147483647 : Int32)) % (3 : Int32))), .val (.int ((p2 &&& (2147483647 : Int32)) % (3 : Int32))), .unset, .unset, .unset, .unset, .unset, .unset, .unset] [(.int p1), (.int (1 : Int32))])
  refine X0.ldcI (hw _ (List.mem_of_getElem? (i := 0) rfl)) (g := (mkF m 18 #[.val (.int p0), .val (.int p1), .val (.int p2), .val (.int p3), .val (.int p4), .val (.int p5), .val (.int ((p0 &&& (2147483647 : Int32)) % (3 : Int32))), .val (.int ((p2 &&& (2147483647 : Int32)) % (3 : Int32))), .unset, .unset, .unset, .unset, .unset, .unset, .unset] [(.int p1), (.int (1 : Int32))])) rfl at_18 ?_
  show OFin _ _ _ _ _ _ _ _ T0 (mkF m 20 #[.val (.int p0), .val (.int p1), .val (.int p2), .val (.int p3), .val (.int p4), .val (.int p5), .val (.int ((p0 &&& (2147483647 : Int32)) % (3 : Int32))), .val (.int ((p2 &&& (2147483647 : Int32)) % (3 : Int32))), .unset, .unset, .unset, .unset, .unset, .unset, .unset] [(.int (2147483647 : Int32)), (.int p1), (.int (1 : Int32))])
  refine X0.step (fun hA hx hq t k => XS.iand hA hx rfl (hb hq at_20) rfl k) ?_
  show OFin _ _ _ _ _ _ _ _ T0 (mkF m 21 #[.val (.int p0), .val (.int p1), .val (.int p2), .val (.int p3), .val (.int p4), .val (.int p5), .val (.int ((p0 &&& (2147483647 : Int32)) % (3 : Int32))), .val (.int ((p2 &&& (2147483647 : Int32)) % (3 : Int32))), .unset, .unset, .unset, .unset, .unset, .unset, .unset] [(.int (p1 &&& (2147483647 : Int32))), (.int (1 : Int32))])
  refine X0.callS (y' := (⟨"java/lang/Math", "max", "(II)I"⟩ : MethodName)) (hw _ (List.mem_of_getElem? (i := 1) rfl)) (hw _ (List.mem_of_getElem? (i := 2) rfl)) (hw _ (List.mem_of_getElem? (i := 3) rfl)) (hw _ (List.mem_of_getElem? (i := 4) rfl)) (by decide) (argsL := [(.int (1 : Int32)), (.int (p1 &&& (2147483647 : Int32)))]) (rest := []) (rm1 l Z a0 hw (1 : Int32) (p1 &&& (2147483647 : Int32)) h0 n0) (g := (mkF m 21 #[.val (.int p0), .val (.int p1), .val (.int p2), .val (.int p3), .val (.int p4), .val (.int p5), .val (.int ((p0 &&& (2147483647 : Int32)) % (3 : Int32))), .val (.int ((p2 &&& (2147483647 : Int32)) % (3 : Int32))), .unset, .unset, .unset, .unset, .unset, .unset, .unset] [(.int (p1 &&& (2147483647 : Int32))), (.int (1 : Int32))])) rfl rfl pd_pIIr_I rfl rfl (W := 0) (by show 2 * 0 + _ ≤ _; exact Nat.le_of_eq rfl) at_21 (by decide) (by decide) (by decide) (by decide) ?_
  intro v1 T1 h1 X1 q1
  obtain ⟨rfl, rfl⟩ := q1
  generalize ((p0 &&& (2147483647 : Int32)) % (3 : Int32)) = i1 at r1 ⊢
  generalize ((p2 &&& (2147483647 : Int32)) % (3 : Int32)) = i2 at r2 ⊢
  generalize (if (1 : Int32) < (p1 &&& (2147483647 : Int32)) then (p1 &&& (2147483647 : Int32)) else (1 : Int32)) = n1 at g1 ⊢
  show OFin _ _ _ _ _ _ _ _ T1 (mkF m 24 #[.val (.int p0), .val (.int p1), .val (.int p2), .val (.int p3), .val (.int p4), .val (.int p5), .val (.int i1), .val (.int i2), .unset, .unset, .unset, .unset, .unset, .unset, .unset] [(.int n1)])
  refine X1.step (fun hA hx hq t k => XS.istore hA hx rfl (hb hq at_24) rfl (l' := #[.val (.int p0), .val (.int p1), .val (.int p2), .val (.int p3), .val (.int p4), .val (.int p5), .val (.int i1), .val (.int i2), .val (.int n1), .unset, .unset, .unset, .unset, .unset, .unset]) rfl k) ?_
  show OFin _ _ _ _ _ _ _ _ T1 (mkF m 26 #[.val (.int p0), .val (.int p1), .val (.int p2), .val (.int p3), .val (.int p4), .val (.int p5), .val (.int i1), .val (.int i2), .val (.int n1), .unset, .unset, .unset, .unset, .unset, .unset] [])
  refine X1.step (fun hA hx hq t k => XS.iload hA hx rfl (hb hq at_26) rfl k) ?_
  show OFin _ _ _ _ _ _ _ _ T1 (mkF m 28 #[.val (.int p0), .val (.int p1), .val (.int p2), .val (.int p3), .val (.int p4), .val (.int p5), .val (.int i1), .val (.int i2), .val (.int n1), .unset, .unset, .unset, .unset, .unset, .unset] [(.int p4)])
  refine X1.step (fun hA hx hq t k => XS.iconst hA hx rfl (hb hq at_28) k) ?_
  show OFin _ _ _ _ _ _ _ _ T1 (mkF m 29 #[.val (.int p0), .val (.int p1), .val (.int p2), .val (.int p3), .val (.int p4), .val (.int p5), .val (.int i1), .val (.int i2), .val (.int n1), .unset, .unset, .unset, .unset, .unset, .unset] [(.int (4 : Int32)), (.int p4)])
  refine X1.step (fun hA hx hq t k => XS.iand hA hx rfl (hb hq at_29) rfl k) ?_
  show OFin _ _ _ _ _ _ _ _ T1 (mkF m 30 #[.val (.int p0), .val (.int p1), .val (.int p2), .val (.int p3), .val (.int p4), .val (.int p5), .val (.int i1), .val (.int i2), .val (.int n1), .unset, .unset, .unset, .unset, .unset, .unset] [(.int (p4 &&& (4 : Int32)))])
  by_cases c0 : (p4 &&& (4 : Int32)) = (0 : Int32)
  · refine X1.step (fun hA hx hq t k => XS.ifYes hA hx rfl (pc0 := 30) (pc' := 38) rfl (hb hq at_30) rfl ((if0 _ _).trans (teq (c0)).1) (by decide) (by decide) k) ?_
    show OFin _ _ _ _ _ _ _ _ T1 (mkF m 38 #[.val (.int p0), .val (.int p1), .val (.int p2), .val (.int p3), .val (.int p4), .val (.int p5), .val (.int i1), .val (.int i2), .val (.int n1), .unset, .unset, .unset, .unset, .unset, .unset] [])
    refine X1.step (fun hA hx hq t k => XS.iconst hA hx rfl (hb hq at_38) k) ?_
    show OFin _ _ _ _ _ _ _ _ T1 (mkF m 39 #[.val (.int p0), .val (.int p1), .val (.int p2), .val (.int p3), .val (.int p4), .val (.int p5), .val (.int i1), .val (.int i2), .val (.int n1), .unset, .unset, .unset, .unset, .unset, .unset] [(.int (1 : Int32))])
    refine X1.step (fun hA hx hq t k => XS.iloadN hA hx rfl (hb hq at_39) rfl k) ?_
    show OFin _ _ _ _ _ _ _ _ T1 (mkF m 40 #[.val (.int p0), .val (.int p1), .val (.int p2), .val (.int p3), .val (.int p4), .val (.int p5), .val (.int i1), .val (.int i2), .val (.int n1), .unset, .unset, .unset, .unset, .unset, .unset] [(.int p3), (.int (1 : Int32))])
    refine X1.ldcI (hw _ (List.mem_of_getElem? (i := 0) rfl)) (g := (mkF m 40 #[.val (.int p0), .val (.int p1), .val (.int p2), .val (.int p3), .val (.int p4), .val (.int p5), .val (.int i1), .val (.int i2), .val (.int n1), .unset, .unset, .unset, .unset, .unset, .unset] [(.int p3), (.int (1 : Int32))])) rfl at_40 ?_
    show OFin _ _ _ _ _ _ _ _ T1 (mkF m 42 #[.val (.int p0), .val (.int p1), .val (.int p2), .val (.int p3), .val (.int p4), .val (.int p5), .val (.int i1), .val (.int i2), .val (.int n1), .unset, .unset, .unset, .unset, .unset, .unset] [(.int (2147483647 : Int32)), (.int p3), (.int (1 : Int32))])
    refine X1.step (fun hA hx hq t k => XS.iand hA hx rfl (hb hq at_42) rfl k) ?_
    show OFin _ _ _ _ _ _ _ _ T1 (mkF m 43 #[.val (.int p0), .val (.int p1), .val (.int p2), .val (.int p3), .val (.int p4), .val (.int p5), .val (.int i1), .val (.int i2), .val (.int n1), .unset, .unset, .unset, .unset, .unset, .unset] [(.int (p3 &&& (2147483647 : Int32))), (.int (1 : Int32))])
    refine X1.callS (y' := (⟨"java/lang/Math", "max", "(II)I"⟩ : MethodName)) (hw _ (List.mem_of_getElem? (i := 1) rfl)) (hw _ (List.mem_of_getElem? (i := 2) rfl)) (hw _ (List.mem_of_getElem? (i := 3) rfl)) (hw _ (List.mem_of_getElem? (i := 4) rfl)) (by decide) (argsL := [(.int (1 : Int32)), (.int (p3 &&& (2147483647 : Int32)))]) (rest := []) (rm1 l Z a0 hw (1 : Int32) (p3 &&& (2147483647 : Int32)) h0 n0) (g := (mkF m 43 #[.val (.int p0), .val (.int p1), .val (.int p2), .val (.int p3), .val (.int p4), .val (.int p5), .val (.int i1), .val (.int i2), .val (.int n1), .unset, .unset, .unset, .unset, .unset, .unset] [(.int (p3 &&& (2147483647 : Int32))), (.int (1 : Int32))])) rfl rfl pd_pIIr_I rfl rfl (W := 0) (by show 2 * 0 + _ ≤ _; exact Nat.le_of_eq rfl) at_43 (by decide) (by decide) (by decide) (by decide) ?_
    intro v2 T2 h2 X2 q2
    obtain ⟨rfl, rfl⟩ := q2
    generalize (if (1 : Int32) < (p3 &&& (2147483647 : Int32)) then (p3 &&& (2147483647 : Int32)) else (1 : Int32)) = n2 at g2 ⊢
    show OFin _ _ _ _ _ _ _ _ T2 (mkF m 46 #[.val (.int p0), .val (.int p1), .val (.int p2), .val (.int p3), .val (.int p4), .val (.int p5), .val (.int i1), .val (.int i2), .val (.int n1), .unset, .unset, .unset, .unset, .unset, .unset] [(.int n2)])
    refine X2.step (fun hA hx hq t k => XS.istore hA hx rfl (hb hq at_46) rfl (l' := #[.val (.int p0), .val (.int p1), .val (.int p2), .val (.int p3), .val (.int p4), .val (.int p5), .val (.int i1), .val (.int i2), .val (.int n1), .val (.int n2), .unset, .unset, .unset, .unset, .unset]) rfl k) ?_
    show OFin _ _ _ _ _ _ _ _ T2 (mkF m 48 #[.val (.int p0), .val (.int p1), .val (.int p2), .val (.int p3), .val (.int p4), .val (.int p5), .val (.int i1), .val (.int i2), .val (.int n1), .val (.int n2), .unset, .unset, .unset, .unset, .unset] [])
    refine X2.newO (hw _ (List.mem_of_getElem? (i := 5) rfl)) (hw _ (List.mem_of_getElem? (i := 6) rfl)) (hw _ (List.mem_of_getElem? (i := 7) rfl)) (g := (mkF m 48 #[.val (.int p0), .val (.int p1), .val (.int p2), .val (.int p3), .val (.int p4), .val (.int p5), .val (.int i1), .val (.int i2), .val (.int n1), .val (.int n2), .unset, .unset, .unset, .unset, .unset] [])) rfl at_48 (by decide) (by decide) ?_
    intro T3 h3 b3 gb3 X3 E3 A3 D3
    show OFin _ _ _ _ _ _ _ _ T3 (mkF m 51 #[.val (.int p0), .val (.int p1), .val (.int p2), .val (.int p3), .val (.int p4), .val (.int p5), .val (.int i1), .val (.int i2), .val (.int n1), .val (.int n2), .unset, .unset, .unset, .unset, .unset] [(.ref b3)])
    have O3 := O0.ext E3
    have Fa3 : Fld Z h3 b3 "com/example/replay_proof/replayproof/model/IntruderValue" "kind" "Lcom/example/replay_proof/replayproof/model/Name$Kind;" .null := D3 (Or.inr (hw _ (List.mem_of_getElem? (i := 34) rfl))) (ty := (.object "com/example/replay_proof/replayproof/model/Name$Kind")) (by decide)
    have Fb3 : Fld Z h3 b3 "com/example/replay_proof/replayproof/model/IntruderValue" "number" "I" (.int 0) := D3 (Or.inr (hw _ (List.mem_of_getElem? (i := 36) rfl))) (ty := .int) (by decide)
    have hn3 : n0 ≤ b3 := by rw [gb3]; exact Nat.le_trans (Nat.le_of_eq O0.1.symm) O0.2.1
    refine X3.step (fun hA hx hq t k => XS.dup hA hx rfl (hb hq at_51) rfl rfl k) ?_
    show OFin _ _ _ _ _ _ _ _ T3 (mkF m 52 #[.val (.int p0), .val (.int p1), .val (.int p2), .val (.int p3), .val (.int p4), .val (.int p5), .val (.int i1), .val (.int i2), .val (.int n1), .val (.int n2), .unset, .unset, .unset, .unset, .unset] [(.ref b3), (.ref b3)])
    refine X3.step (fun hA hx hq t k => XS.iload hA hx rfl (hb hq at_52) rfl k) ?_
    show OFin _ _ _ _ _ _ _ _ T3 (mkF m 54 #[.val (.int p0), .val (.int p1), .val (.int p2), .val (.int p3), .val (.int p4), .val (.int p5), .val (.int i1), .val (.int i2), .val (.int n1), .val (.int n2), .unset, .unset, .unset, .unset, .unset] [(.int i1), (.ref b3), (.ref b3)])
    refine X3.callS (y' := (⟨"com/example/replay_proof/replayproof/model/IntruderValueEqualsPinLaw", "kindOf", "(I)Lcom/example/replay_proof/replayproof/model/Name$Kind;"⟩ : MethodName)) (hw _ (List.mem_of_getElem? (i := 8) rfl)) (hw _ (List.mem_of_getElem? (i := 9) rfl)) (hw _ (List.mem_of_getElem? (i := 10) rfl)) (hw _ (List.mem_of_getElem? (i := 11) rfl)) (by decide) (argsL := [(.int i1)]) (rest := [(.ref b3), (.ref b3)]) (rm2 l Z a0 hw i1 aT aN aK h3 n0 (ST.ext O3.2) (SN.ext O3.2) (SK.ext O3.2)) (g := (mkF m 54 #[.val (.int p0), .val (.int p1), .val (.int p2), .val (.int p3), .val (.int p4), .val (.int p5), .val (.int i1), .val (.int i2), .val (.int n1), .val (.int n2), .unset, .unset, .unset, .unset, .unset] [(.int i1), (.ref b3), (.ref b3)])) rfl rfl pd_pIr_Lcom_example_replay_proof_replayproof_model_Name_Kind_ rfl rfl (W := 2) (by show 2 * 0 + _ ≤ _; exact Nat.le_of_eq rfl) at_54 (by decide) (by decide) (by decide) (by decide) ?_
    intro v4 T4 h4 X4 q4
    obtain ⟨rfl, rfl⟩ := q4
    show OFin _ _ _ _ _ _ _ _ T4 (mkF m 57 #[.val (.int p0), .val (.int p1), .val (.int p2), .val (.int p3), .val (.int p4), .val (.int p5), .val (.int i1), .val (.int i2), .val (.int n1), .val (.int n2), .unset, .unset, .unset, .unset, .unset] [(.ref (own_kind i1 aT aN aK)), (.ref b3), (.ref b3)])
    refine X4.step (fun hA hx hq t k => XS.iload hA hx rfl (hb hq at_57) rfl k) ?_
    show OFin _ _ _ _ _ _ _ _ T4 (mkF m 59 #[.val (.int p0), .val (.int p1), .val (.int p2), .val (.int p3), .val (.int p4), .val (.int p5), .val (.int i1), .val (.int i2), .val (.int n1), .val (.int n2), .unset, .unset, .unset, .unset, .unset] [(.int n1), (.ref (own_kind i1 aT aN aK)), (.ref b3), (.ref b3)])
    refine X4.callI (y' := (⟨"com/example/replay_proof/replayproof/model/IntruderValue", "<init>", "(Lcom/example/replay_proof/replayproof/model/Name$Kind;I)V"⟩ : MethodName)) rfl (hw _ (List.mem_of_getElem? (i := 15) rfl)) (hw _ (List.mem_of_getElem? (i := 16) rfl)) (hw _ (List.mem_of_getElem? (i := 7) rfl)) (hw _ (List.mem_of_getElem? (i := 17) rfl)) (by decide) (a := b3) (argsL := [(.ref (own_kind i1 aT aN aK)), (.int n1)]) (rest := [(.ref b3)]) (rm5 l Z a0 hw b3 (own_kind i1 aT aN aK) n1 h3 n0 Fa3 Fb3 A3 hn3 (own_kp (P := fun a => Exa Z _ a _) i1 (ET.ext O3.2) (EN.ext O3.2) (EK.ext O3.2)) (own_kp (P := fun a => Fld Z _ a _ _ _ _) i1 (FT.ext O3.2) (FN.ext O3.2) (FK.ext O3.2)) g1) (g := (mkF m 59 #[.val (.int p0), .val (.int p1), .val (.int p2), .val (.int p3), .val (.int p4), .val (.int p5), .val (.int i1), .val (.int i2), .val (.int n1), .val (.int n2), .unset, .unset, .unset, .unset, .unset] [(.int n1), (.ref (own_kind i1 aT aN aK)), (.ref b3), (.ref b3)])) rfl rfl pd_pLcom_example_replay_proof_replayproof_model_Name_Kind_Ir_V rfl rfl (W := 1) (by show 2 * 0 + _ ≤ _; exact Nat.le_of_eq rfl) at_59 (by decide) (by decide) (by decide) (by decide) ?_
    intro v5 T5 h5 X5 q5
    obtain ⟨rfl, K5, E5, Fk5, Fn5⟩ := q5
    show OFin _ _ _ _ _ _ _ _ T5 (mkF m 62 #[.val (.int p0), .val (.int p1), .val (.int p2), .val (.int p3), .val (.int p4), .val (.int p5), .val (.int i1), .val (.int i2), .val (.int n1), .val (.int n2), .unset, .unset, .unset, .unset, .unset] [(.ref b3)])
    have O5 := O3.keep K5 (allS hn3 all0)
    refine X5.step (fun hA hx hq t k => XS.astore hA hx rfl (hb hq at_62) rfl rfl (l' := #[.val (.int p0), .val (.int p1), .val (.int p2), .val (.int p3), .val (.int p4), .val (.int p5), .val (.int i1), .val (.int i2), .val (.int n1), .val (.int n2), .val (.ref b3), .unset, .unset, .unset, .unset]) rfl k) ?_
    show OFin _ _ _ _ _ _ _ _ T5 (mkF m 64 #[.val (.int p0), .val (.int p1), .val (.int p2), .val (.int p3), .val (.int p4), .val (.int p5), .val (.int i1), .val (.int i2), .val (.int n1), .val (.int n2), .val (.ref b3), .unset, .unset, .unset, .unset] [])
    refine X5.step (fun hA hx hq t k => XS.iload hA hx rfl (hb hq at_64) rfl k) ?_
    show OFin _ _ _ _ _ _ _ _ T5 (mkF m 66 #[.val (.int p0), .val (.int p1), .val (.int p2), .val (.int p3), .val (.int p4), .val (.int p5), .val (.int i1), .val (.int i2), .val (.int n1), .val (.int n2), .val (.ref b3), .unset, .unset, .unset, .unset] [(.int p4)])
    refine X5.step (fun hA hx hq t k => XS.iconst hA hx rfl (hb hq at_66) k) ?_
    show OFin _ _ _ _ _ _ _ _ T5 (mkF m 67 #[.val (.int p0), .val (.int p1), .val (.int p2), .val (.int p3), .val (.int p4), .val (.int p5), .val (.int i1), .val (.int i2), .val (.int n1), .val (.int n2), .val (.ref b3), .unset, .unset, .unset, .unset] [(.int (3 : Int32)), (.int p4)])
    refine X5.step (fun hA hx hq t k => XS.iand hA hx rfl (hb hq at_67) rfl k) ?_
    show OFin _ _ _ _ _ _ _ _ T5 (mkF m 68 #[.val (.int p0), .val (.int p1), .val (.int p2), .val (.int p3), .val (.int p4), .val (.int p5), .val (.int i1), .val (.int i2), .val (.int n1), .val (.int n2), .val (.ref b3), .unset, .unset, .unset, .unset] [(.int (p4 &&& (3 : Int32)))])
    refine X5.step (fun hA hx hq t k => XS.istore hA hx rfl (hb hq at_68) rfl (l' := #[.val (.int p0), .val (.int p1), .val (.int p2), .val (.int p3), .val (.int p4), .val (.int p5), .val (.int i1), .val (.int i2), .val (.int n1), .val (.int n2), .val (.ref b3), .val (.int (p4 &&& (3 : Int32))), .unset, .unset, .unset]) rfl k) ?_
    show OFin _ _ _ _ _ _ _ _ T5 (mkF m 70 #[.val (.int p0), .val (.int p1), .val (.int p2), .val (.int p3), .val (.int p4), .val (.int p5), .val (.int i1), .val (.int i2), .val (.int n1), .val (.int n2), .val (.ref b3), .val (.int (p4 &&& (3 : Int32))), .unset, .unset, .unset] [])
    refine X5.step (fun hA hx hq t k => XS.iload hA hx rfl (hb hq at_70) rfl k) ?_
    show OFin _ _ _ _ _ _ _ _ T5 (mkF m 72 #[.val (.int p0), .val (.int p1), .val (.int p2), .val (.int p3), .val (.int p4), .val (.int p5), .val (.int i1), .val (.int i2), .val (.int n1), .val (.int n2), .val (.ref b3), .val (.int (p4 &&& (3 : Int32))), .unset, .unset, .unset] [(.int (p4 &&& (3 : Int32)))])
    by_cases c1 : (p4 &&& (3 : Int32)) = (0 : Int32)
    · refine X5.step (fun hA hx hq t k => XS.ifYes hA hx rfl (pc0 := 72) (pc' := 81) rfl (hb hq at_72) rfl ((if0 _ _).trans (teq (c1)).1) (by decide) (by decide) k) ?_
      show OFin _ _ _ _ _ _ _ _ T5 (mkF m 81 #[.val (.int p0), .val (.int p1), .val (.int p2), .val (.int p3), .val (.int p4), .val (.int p5), .val (.int i1), .val (.int i2), .val (.int n1), .val (.int n2), .val (.ref b3), .val (.int (p4 &&& (3 : Int32))), .unset, .unset, .unset] [])
      refine X5.step (fun hA hx hq t k => XS.iload hA hx rfl (hb hq at_81) rfl k) ?_
      show OFin _ _ _ _ _ _ _ _ T5 (mkF m 83 #[.val (.int p0), .val (.int p1), .val (.int p2), .val (.int p3), .val (.int p4), .val (.int p5), .val (.int i1), .val (.int i2), .val (.int n1), .val (.int n2), .val (.ref b3), .val (.int (p4 &&& (3 : Int32))), .unset, .unset, .unset] [(.int (p4 &&& (3 : Int32)))])
      refine X5.step (fun hA hx hq t k => XS.ifNo hA hx rfl (hb hq at_83) rfl ((if0 _ _).trans (teq (c1)).2) k) ?_
      show OFin _ _ _ _ _ _ _ _ T5 (mkF m 86 #[.val (.int p0), .val (.int p1), .val (.int p2), .val (.int p3), .val (.int p4), .val (.int p5), .val (.int i1), .val (.int i2), .val (.int n1), .val (.int n2), .val (.ref b3), .val (.int (p4 &&& (3 : Int32))), .unset, .unset, .unset] [])
      refine X5.step (fun hA hx hq t k => XS.iload hA hx rfl (hb hq at_86) rfl k) ?_
      show OFin _ _ _ _ _ _ _ _ T5 (mkF m 88 #[.val (.int p0), .val (.int p1), .val (.int p2), .val (.int p3), .val (.int p4), .val (.int p5), .val (.int i1), .val (.int i2), .val (.int n1), .val (.int n2), .val (.ref b3), .val (.int (p4 &&& (3 : Int32))), .unset, .unset, .unset] [(.int i2)])
      refine X5.step (fun hA hx hq t k => XS.goto hA hx rfl (pc0 := 88) (pc' := 93) rfl (hb hq at_88) (by decide) (by decide) k) ?_
      show OFin _ _ _ _ _ _ _ _ T5 (mkF m 93 #[.val (.int p0), .val (.int p1), .val (.int p2), .val (.int p3), .val (.int p4), .val (.int p5), .val (.int i1), .val (.int i2), .val (.int n1), .val (.int n2), .val (.ref b3), .val (.int (p4 &&& (3 : Int32))), .unset, .unset, .unset] [(.int i2)])
      refine X5.step (fun hA hx hq t k => XS.istore hA hx rfl (hb hq at_93) rfl (l' := #[.val (.int p0), .val (.int p1), .val (.int p2), .val (.int p3), .val (.int p4), .val (.int p5), .val (.int i1), .val (.int i2), .val (.int n1), .val (.int n2), .val (.ref b3), .val (.int (p4 &&& (3 : Int32))), .val (.int i2), .unset, .unset]) rfl k) ?_
      show OFin _ _ _ _ _ _ _ _ T5 (mkF m 95 #[.val (.int p0), .val (.int p1), .val (.int p2), .val (.int p3), .val (.int p4), .val (.int p5), .val (.int i1), .val (.int i2), .val (.int n1), .val (.int n2), .val (.ref b3), .val (.int (p4 &&& (3 : Int32))), .val (.int i2), .unset, .unset] [])
      refine X5.newO (hw _ (List.mem_of_getElem? (i := 5) rfl)) (hw _ (List.mem_of_getElem? (i := 6) rfl)) (hw _ (List.mem_of_getElem? (i := 7) rfl)) (g := (mkF m 95 #[.val (.int p0), .val (.int p1), .val (.int p2), .val (.int p3), .val (.int p4), .val (.int p5), .val (.int i1), .val (.int i2), .val (.int n1), .val (.int n2), .val (.ref b3), .val (.int (p4 &&& (3 : Int32))), .val (.int i2), .unset, .unset] [])) rfl at_95 (by decide) (by decide) ?_
      intro T6 h6 b6 gb6 X6 E6 A6 D6
      show OFin _ _ _ _ _ _ _ _ T6 (mkF m 98 #[.val (.int p0), .val (.int p1), .val (.int p2), .val (.int p3), .val (.int p4), .val (.int p5), .val (.int i1), .val (.int i2), .val (.int n1), .val (.int n2), .val (.ref b3), .val (.int (p4 &&& (3 : Int32))), .val (.int i2), .unset, .unset] [(.ref b6)])
      have O6 := O5.ext E6
      have Fa6 : Fld Z h6 b6 "com/example/replay_proof/replayproof/model/IntruderValue" "kind" "Lcom/example/replay_proof/replayproof/model/Name$Kind;" .null := D6 (Or.inr (hw _ (List.mem_of_getElem? (i := 34) rfl))) (ty := (.object "com/example/replay_proof/replayproof/model/Name$Kind")) (by decide)
      have Fb6 : Fld Z h6 b6 "com/example/replay_proof/replayproof/model/IntruderValue" "number" "I" (.int 0) := D6 (Or.inr (hw _ (List.mem_of_getElem? (i := 36) rfl))) (ty := .int) (by decide)
      have hn6 : n0 ≤ b6 := by rw [gb6]; exact Nat.le_trans (Nat.le_of_eq O5.1.symm) O5.2.1
      refine X6.step (fun hA hx hq t k => XS.dup hA hx rfl (hb hq at_98) rfl rfl k) ?_
      show OFin _ _ _ _ _ _ _ _ T6 (mkF m 99 #[.val (.int p0), .val (.int p1), .val (.int p2), .val (.int p3), .val (.int p4), .val (.int p5), .val (.int i1), .val (.int i2), .val (.int n1), .val (.int n2), .val (.ref b3), .val (.int (p4 &&& (3 : Int32))), .val (.int i2), .unset, .unset] [(.ref b6), (.ref b6)])
      refine X6.step (fun hA hx hq t k => XS.iload hA hx rfl (hb hq at_99) rfl k) ?_
      show OFin _ _ _ _ _ _ _ _ T6 (mkF m 101 #[.val (.int p0), .val (.int p1), .val (.int p2), .val (.int p3), .val (.int p4), .val (.int p5), .val (.int i1), .val (.int i2), .val (.int n1), .val (.int n2), .val (.ref b3), .val (.int (p4 &&& (3 : Int32))), .val (.int i2), .unset, .unset] [(.int i2), (.ref b6), (.ref b6)])
      refine X6.callS (y' := (⟨"com/example/replay_proof/replayproof/model/IntruderValueEqualsPinLaw", "kindOf", "(I)Lcom/example/replay_proof/replayproof/model/Name$Kind;"⟩ : MethodName)) (hw _ (List.mem_of_getElem? (i := 8) rfl)) (hw _ (List.mem_of_getElem? (i := 9) rfl)) (hw _ (List.mem_of_getElem? (i := 10) rfl)) (hw _ (List.mem_of_getElem? (i := 11) rfl)) (by decide) (argsL := [(.int i2)]) (rest := [(.ref b6), (.ref b6)]) (rm2 l Z a0 hw i2 aT aN aK h6 n0 (ST.ext O6.2) (SN.ext O6.2) (SK.ext O6.2)) (g := (mkF m 101 #[.val (.int p0), .val (.int p1), .val (.int p2), .val (.int p3), .val (.int p4), .val (.int p5), .val (.int i1), .val (.int i2), .val (.int n1), .val (.int n2), .val (.ref b3), .val (.int (p4 &&& (3 : Int32))), .val (.int i2), .unset, .unset] [(.int i2), (.ref b6), (.ref b6)])) rfl rfl pd_pIr_Lcom_example_replay_proof_replayproof_model_Name_Kind_ rfl rfl (W := 2) (by show 2 * 0 + _ ≤ _; exact Nat.le_of_eq rfl) at_101 (by decide) (by decide) (by decide) (by decide) ?_
      intro v7 T7 h7 X7 q7
      obtain ⟨rfl, rfl⟩ := q7
      show OFin _ _ _ _ _ _ _ _ T7 (mkF m 104 #[.val (.int p0), .val (.int p1), .val (.int p2), .val (.int p3), .val (.int p4), .val (.int p5), .val (.int i1), .val (.int i2), .val (.int n1), .val (.int n2), .val (.ref b3), .val (.int (p4 &&& (3 : Int32))), .val (.int i2), .unset, .unset] [(.ref (own_kind i2 aT aN aK)), (.ref b6), (.ref b6)])
      refine X7.step (fun hA hx hq t k => XS.iload hA hx rfl (hb hq at_104) rfl k) ?_
      show OFin _ _ _ _ _ _ _ _ T7 (mkF m 106 #[.val (.int p0), .val (.int p1), .val (.int p2), .val (.int p3), .val (.int p4), .val (.int p5), .val (.int i1), .val (.int i2), .val (.int n1), .val (.int n2), .val (.ref b3), .val (.int (p4 &&& (3 : Int32))), .val (.int i2), .unset, .unset] [(.int n2), (.ref (own_kind i2 aT aN aK)), (.ref b6), (.ref b6)])
      refine X7.callI (y' := (⟨"com/example/replay_proof/replayproof/model/IntruderValue", "<init>", "(Lcom/example/replay_proof/replayproof/model/Name$Kind;I)V"⟩ : MethodName)) rfl (hw _ (List.mem_of_getElem? (i := 15) rfl)) (hw _ (List.mem_of_getElem? (i := 16) rfl)) (hw _ (List.mem_of_getElem? (i := 7) rfl)) (hw _ (List.mem_of_getElem? (i := 17) rfl)) (by decide) (a := b6) (argsL := [(.ref (own_kind i2 aT aN aK)), (.int n2)]) (rest := [(.ref b6)]) (rm5 l Z a0 hw b6 (own_kind i2 aT aN aK) n2 h6 n0 Fa6 Fb6 A6 hn6 (own_kp (P := fun a => Exa Z _ a _) i2 (ET.ext O6.2) (EN.ext O6.2) (EK.ext O6.2)) (own_kp (P := fun a => Fld Z _ a _ _ _ _) i2 (FT.ext O6.2) (FN.ext O6.2) (FK.ext O6.2)) g2) (g := (mkF m 106 #[.val (.int p0), .val (.int p1), .val (.int p2), .val (.int p3), .val (.int p4), .val (.int p5), .val (.int i1), .val (.int i2), .val (.int n1), .val (.int n2), .val (.ref b3), .val (.int (p4 &&& (3 : Int32))), .val (.int i2), .unset, .unset] [(.int n2), (.ref (own_kind i2 aT aN aK)), (.ref b6), (.ref b6)])) rfl rfl pd_pLcom_example_replay_proof_replayproof_model_Name_Kind_Ir_V rfl rfl (W := 1) (by show 2 * 0 + _ ≤ _; exact Nat.le_of_eq rfl) at_106 (by decide) (by decide) (by decide) (by decide) ?_
      intro v8 T8 h8 X8 q8
      obtain ⟨rfl, K8, E8, Fk8, Fn8⟩ := q8
      show OFin _ _ _ _ _ _ _ _ T8 (mkF m 109 #[.val (.int p0), .val (.int p1), .val (.int p2), .val (.int p3), .val (.int p4), .val (.int p5), .val (.int i1), .val (.int i2), .val (.int n1), .val (.int n2), .val (.ref b3), .val (.int (p4 &&& (3 : Int32))), .val (.int i2), .unset, .unset] [(.ref b6)])
      have O8 := O6.keep K8 (allS hn6 all0)
      have Ex := A3.keep K5 |>.ext E6 |>.keep K8
      have ne : b3 ≠ b6 := by rw [gb6]; exact Nat.ne_of_lt E5.lt
      have Gk := (Fk5.ext E6).keep K8 (ninS ne nin0)
      have Gn := (Fn5.ext E6).keep K8 (ninS ne nin0)
      have hk := own_kinj q1 q2 q3 r1 r2
      refine X8.step (fun hA hx hq t k => XS.astore hA hx rfl (hb hq at_109) rfl rfl (l' := #[.val (.int p0), .val (.int p1), .val (.int p2), .val (.int p3), .val (.int p4), .val (.int p5), .val (.int i1), .val (.int i2), .val (.int n1), .val (.int n2), .val (.ref b3), .val (.int (p4 &&& (3 : Int32))), .val (.int i2), .val (.ref b6), .unset]) rfl k) ?_
      show OFin _ _ _ _ _ _ _ _ T8 (mkF m 111 #[.val (.int p0), .val (.int p1), .val (.int p2), .val (.int p3), .val (.int p4), .val (.int p5), .val (.int i1), .val (.int i2), .val (.int n1), .val (.int n2), .val (.ref b3), .val (.int (p4 &&& (3 : Int32))), .val (.int i2), .val (.ref b6), .unset] [])
      refine X8.step (fun hA hx hq t k => XS.iload hA hx rfl (hb hq at_111) rfl k) ?_
      show OFin _ _ _ _ _ _ _ _ T8 (mkF m 113 #[.val (.int p0), .val (.int p1), .val (.int p2), .val (.int p3), .val (.int p4), .val (.int p5), .val (.int i1), .val (.int i2), .val (.int n1), .val (.int n2), .val (.ref b3), .val (.int (p4 &&& (3 : Int32))), .val (.int i2), .val (.ref b6), .unset] [(.int i1)])
      refine X8.step (fun hA hx hq t k => XS.iload hA hx rfl (hb hq at_113) rfl k) ?_
      show OFin _ _ _ _ _ _ _ _ T8 (mkF m 115 #[.val (.int p0), .val (.int p1), .val (.int p2), .val (.int p3), .val (.int p4), .val (.int p5), .val (.int i1), .val (.int i2), .val (.int n1), .val (.int n2), .val (.ref b3), .val (.int (p4 &&& (3 : Int32))), .val (.int i2), .val (.ref b6), .unset] [(.int i2), (.int i1)])
      by_cases d1 : i1 = i2
      · refine X8.step (fun hA hx hq t k => XS.icmpNo hA hx rfl (hb hq at_115) rfl (teq (d1)).2 k) ?_
        show OFin _ _ _ _ _ _ _ _ T8 (mkF m 118 #[.val (.int p0), .val (.int p1), .val (.int p2), .val (.int p3), .val (.int p4), .val (.int p5), .val (.int i1), .val (.int i2), .val (.int n1), .val (.int n2), .val (.ref b3), .val (.int (p4 &&& (3 : Int32))), .val (.int i2), .val (.ref b6), .unset] [])
        refine X8.step (fun hA hx hq t k => XS.iload hA hx rfl (hb hq at_118) rfl k) ?_
        show OFin _ _ _ _ _ _ _ _ T8 (mkF m 120 #[.val (.int p0), .val (.int p1), .val (.int p2), .val (.int p3), .val (.int p4), .val (.int p5), .val (.int i1), .val (.int i2), .val (.int n1), .val (.int n2), .val (.ref b3), .val (.int (p4 &&& (3 : Int32))), .val (.int i2), .val (.ref b6), .unset] [(.int n1)])
        refine X8.step (fun hA hx hq t k => XS.iload hA hx rfl (hb hq at_120) rfl k) ?_
        show OFin _ _ _ _ _ _ _ _ T8 (mkF m 122 #[.val (.int p0), .val (.int p1), .val (.int p2), .val (.int p3), .val (.int p4), .val (.int p5), .val (.int i1), .val (.int i2), .val (.int n1), .val (.int n2), .val (.ref b3), .val (.int (p4 &&& (3 : Int32))), .val (.int i2), .val (.ref b6), .unset] [(.int n2), (.int n1)])
        by_cases d2 : n1 = n2
        · refine X8.step (fun hA hx hq t k => XS.icmpNo hA hx rfl (hb hq at_122) rfl (teq (d2)).2 k) ?_
          show OFin _ _ _ _ _ _ _ _ T8 (mkF m 125 #[.val (.int p0), .val (.int p1), .val (.int p2), .val (.int p3), .val (.int p4), .val (.int p5), .val (.int i1), .val (.int i2), .val (.int n1), .val (.int n2), .val (.ref b3), .val (.int (p4 &&& (3 : Int32))), .val (.int i2), .val (.ref b6), .unset] [])
          refine X8.step (fun hA hx hq t k => XS.iconst hA hx rfl (hb hq at_125) k) ?_
          show OFin _ _ _ _ _ _ _ _ T8 (mkF m 126 #[.val (.int p0), .val (.int p1), .val (.int p2), .val (.int p3), .val (.int p4), .val (.int p5), .val (.int i1), .val (.int i2), .val (.int n1), .val (.int n2), .val (.ref b3), .val (.int (p4 &&& (3 : Int32))), .val (.int i2), .val (.ref b6), .unset] [(.int (1 : Int32))])
          refine X8.step (fun hA hx hq t k => XS.goto hA hx rfl (pc0 := 126) (pc' := 130) rfl (hb hq at_126) (by decide) (by decide) k) ?_
          show OFin _ _ _ _ _ _ _ _ T8 (mkF m 130 #[.val (.int p0), .val (.int p1), .val (.int p2), .val (.int p3), .val (.int p4), .val (.int p5), .val (.int i1), .val (.int i2), .val (.int n1), .val (.int n2), .val (.ref b3), .val (.int (p4 &&& (3 : Int32))), .val (.int i2), .val (.ref b6), .unset] [(.int (1 : Int32))])
          refine X8.step (fun hA hx hq t k => XS.istore hA hx rfl (hb hq at_130) rfl (l' := #[.val (.int p0), .val (.int p1), .val (.int p2), .val (.int p3), .val (.int p4), .val (.int p5), .val (.int i1), .val (.int i2), .val (.int n1), .val (.int n2), .val (.ref b3), .val (.int (p4 &&& (3 : Int32))), .val (.int i2), .val (.ref b6), .val (.int (1 : Int32))]) rfl k) ?_
          show OFin _ _ _ _ _ _ _ _ T8 (mkF m 132 #[.val (.int p0), .val (.int p1), .val (.int p2), .val (.int p3), .val (.int p4), .val (.int p5), .val (.int i1), .val (.int i2), .val (.int n1), .val (.int n2), .val (.ref b3), .val (.int (p4 &&& (3 : Int32))), .val (.int i2), .val (.ref b6), .val (.int (1 : Int32))] [])
          refine X8.step (fun hA hx hq t k => XS.aload hA hx rfl (hb hq at_132) rfl rfl k) ?_
          show OFin _ _ _ _ _ _ _ _ T8 (mkF m 134 #[.val (.int p0), .val (.int p1), .val (.int p2), .val (.int p3), .val (.int p4), .val (.int p5), .val (.int i1), .val (.int i2), .val (.int n1), .val (.int n2), .val (.ref b3), .val (.int (p4 &&& (3 : Int32))), .val (.int i2), .val (.ref b6), .val (.int (1 : Int32))] [(.ref b3)])
          refine X8.step (fun hA hx hq t k => XS.aload hA hx rfl (hb hq at_134) rfl rfl k) ?_
          show OFin _ _ _ _ _ _ _ _ T8 (mkF m 136 #[.val (.int p0), .val (.int p1), .val (.int p2), .val (.int p3), .val (.int p4), .val (.int p5), .val (.int i1), .val (.int i2), .val (.int n1), .val (.int n2), .val (.ref b3), .val (.int (p4 &&& (3 : Int32))), .val (.int i2), .val (.ref b6), .val (.int (1 : Int32))] [(.ref b6), (.ref b3)])
          refine X8.callV (y' := (⟨"com/example/replay_proof/replayproof/model/IntruderValue", "equals", "(Ljava/lang/Object;)Z"⟩ : MethodName)) (z' := (⟨"com/example/replay_proof/replayproof/model/IntruderValue", "equals", "(Ljava/lang/Object;)Z"⟩ : MethodName)) (hw _ (List.mem_of_getElem? (i := 39) rfl)) (hw _ (List.mem_of_getElem? (i := 40) rfl)) (X8.notFace (hw _ (List.mem_of_getElem? (i := 42) rfl)) rfl) (hw _ (List.mem_of_getElem? (i := 42) rfl)) (hw _ (List.mem_of_getElem? (i := 41) rfl)) (hw _ (List.mem_of_getElem? (i := 7) rfl)) (hw _ (List.mem_of_getElem? (i := 43) rfl)) (by decide) Ex (argsL := [(.ref b6)]) (rest := []) (rm6 l Z a0 hw b3 b6 (own_kind i1 aT aN aK) (own_kind i2 aT aN aK) n1 n2 h8 n0 Gk Gn Fk8 Fn8 E8) (g := (mkF m 136 #[.val (.int p0), .val (.int p1), .val (.int p2), .val (.int p3), .val (.int p4), .val (.int p5), .val (.int i1), .val (.int i2), .val (.int n1), .val (.int n2), .val (.ref b3), .val (.int (p4 &&& (3 : Int32))), .val (.int i2), .val (.ref b6), .val (.int (1 : Int32))] [(.ref b6), (.ref b3)])) rfl rfl pd_pLjava_lang_Object_r_Z rfl rfl (W := 0) (by show 2 * 0 + _ ≤ _; exact Nat.le_of_eq rfl) at_136 (by decide) (by decide) (by decide) (by decide) ?_
          intro v15 T15 h15 X15 q15
          obtain ⟨rfl, rfl⟩ := q15
          show OFin _ _ _ _ _ _ _ _ T15 (mkF m 139 #[.val (.int p0), .val (.int p1), .val (.int p2), .val (.int p3), .val (.int p4), .val (.int p5), .val (.int i1), .val (.int i2), .val (.int n1), .val (.int n2), .val (.ref b3), .val (.int (p4 &&& (3 : Int32))), .val (.int i2), .val (.ref b6), .val (.int (1 : Int32))] [(.int (if (own_kind i1 aT aN aK) = (own_kind i2 aT aN aK) ∧ n1 = n2 then 1 else 0 : Int32))])
          refine X15.step (fun hA hx hq t k => XS.iload hA hx rfl (hb hq at_139) rfl k) ?_
          show OFin _ _ _ _ _ _ _ _ T15 (mkF m 141 #[.val (.int p0), .val (.int p1), .val (.int p2), .val (.int p3), .val (.int p4), .val (.int p5), .val (.int i1), .val (.int i2), .val (.int n1), .val (.int n2), .val (.ref b3), .val (.int (p4 &&& (3 : Int32))), .val (.int i2), .val (.ref b6), .val (.int (1 : Int32))] [(.int (1 : Int32)), (.int (if (own_kind i1 aT aN aK) = (own_kind i2 aT aN aK) ∧ n1 = n2 then 1 else 0 : Int32))])
          refine X15.step (fun hA hx hq t k => XS.icmpNo hA hx rfl (hb hq at_141) rfl (teq (if_pos ⟨hk.mpr d1, d2⟩)).2 k) ?_
          show OFin _ _ _ _ _ _ _ _ T15 (mkF m 144 #[.val (.int p0), .val (.int p1), .val (.int p2), .val (.int p3), .val (.int p4), .val (.int p5), .val (.int i1), .val (.int i2), .val (.int n1), .val (.int n2), .val (.ref b3), .val (.int (p4 &&& (3 : Int32))), .val (.int i2), .val (.ref b6), .val (.int (1 : Int32))] [])
          refine X15.step (fun hA hx hq t k => XS.aload hA hx rfl (hb hq at_144) rfl rfl k) ?_
          show OFin _ _ _ _ _ _ _ _ T15 (mkF m 146 #[.val (.int p0), .val (.int p1), .val (.int p2), .val (.int p3), .val (.int p4), .val (.int p5), .val (.int i1), .val (.int i2), .val (.int n1), .val (.int n2), .val (.ref b3), .val (.int (p4 &&& (3 : Int32))), .val (.int i2), .val (.ref b6), .val (.int (1 : Int32))] [(.ref b6)])
          refine X15.step (fun hA hx hq t k => XS.aload hA hx rfl (hb hq at_146) rfl rfl k) ?_
          show OFin _ _ _ _ _ _ _ _ T15 (mkF m 148 #[.val (.int p0), .val (.int p1), .val (.int p2), .val (.int p3), .val (.int p4), .val (.int p5), .val (.int i1), .val (.int i2), .val (.int n1), .val (.int n2), .val (.ref b3), .val (.int (p4 &&& (3 : Int32))), .val (.int i2), .val (.ref b6), .val (.int (1 : Int32))] [(.ref b3), (.ref b6)])
          refine X15.callV (y' := (⟨"com/example/replay_proof/replayproof/model/IntruderValue", "equals", "(Ljava/lang/Object;)Z"⟩ : MethodName)) (z' := (⟨"com/example/replay_proof/replayproof/model/IntruderValue", "equals", "(Ljava/lang/Object;)Z"⟩ : MethodName)) (hw _ (List.mem_of_getElem? (i := 39) rfl)) (hw _ (List.mem_of_getElem? (i := 40) rfl)) (X15.notFace (hw _ (List.mem_of_getElem? (i := 42) rfl)) rfl) (hw _ (List.mem_of_getElem? (i := 42) rfl)) (hw _ (List.mem_of_getElem? (i := 41) rfl)) (hw _ (List.mem_of_getElem? (i := 7) rfl)) (hw _ (List.mem_of_getElem? (i := 43) rfl)) (by decide) E8 (argsL := [(.ref b3)]) (rest := []) (rm6 l Z a0 hw b6 b3 (own_kind i2 aT aN aK) (own_kind i1 aT aN aK) n2 n1 h8 n0 Fk8 Fn8 Gk Gn Ex) (g := (mkF m 148 #[.val (.int p0), .val (.int p1), .val (.int p2), .val (.int p3), .val (.int p4), .val (.int p5), .val (.int i1), .val (.int i2), .val (.int n1), .val (.int n2), .val (.ref b3), .val (.int (p4 &&& (3 : Int32))), .val (.int i2), .val (.ref b6), .val (.int (1 : Int32))] [(.ref b3), (.ref b6)])) rfl rfl pd_pLjava_lang_Object_r_Z rfl rfl (W := 0) (by show 2 * 0 + _ ≤ _; exact Nat.le_of_eq rfl) at_148 (by decide) (by decide) (by decide) (by decide) ?_
          intro v16 T16 h16 X16 q16
          obtain ⟨rfl, rfl⟩ := q16
          show OFin _ _ _ _ _ _ _ _ T16 (mkF m 151 #[.val (.int p0), .val (.int p1), .val (.int p2), .val (.int p3), .val (.int p4), .val (.int p5), .val (.int i1), .val (.int i2), .val (.int n1), .val (.int n2), .val (.ref b3), .val (.int (p4 &&& (3 : Int32))), .val (.int i2), .val (.ref b6), .val (.int (1 : Int32))] [(.int (if (own_kind i2 aT aN aK) = (own_kind i1 aT aN aK) ∧ n2 = n1 then 1 else 0 : Int32))])
          refine X16.step (fun hA hx hq t k => XS.iload hA hx rfl (hb hq at_151) rfl k) ?_
          show OFin _ _ _ _ _ _ _ _ T16 (mkF m 153 #[.val (.int p0), .val (.int p1), .val (.int p2), .val (.int p3), .val (.int p4), .val (.int p5), .val (.int i1), .val (.int i2), .val (.int n1), .val (.int n2), .val (.ref b3), .val (.int (p4 &&& (3 : Int32))), .val (.int i2), .val (.ref b6), .val (.int (1 : Int32))] [(.int (1 : Int32)), (.int (if (own_kind i2 aT aN aK) = (own_kind i1 aT aN aK) ∧ n2 = n1 then 1 else 0 : Int32))])
          refine X16.step (fun hA hx hq t k => XS.icmpNo hA hx rfl (hb hq at_153) rfl (teq (if_pos ⟨(hk.mpr d1).symm, d2.symm⟩)).2 k) ?_
          show OFin _ _ _ _ _ _ _ _ T16 (mkF m 156 #[.val (.int p0), .val (.int p1), .val (.int p2), .val (.int p3), .val (.int p4), .val (.int p5), .val (.int i1), .val (.int i2), .val (.int n1), .val (.int n2), .val (.ref b3), .val (.int (p4 &&& (3 : Int32))), .val (.int i2), .val (.ref b6), .val (.int (1 : Int32))] [])
          refine X16.step (fun hA hx hq t k => XS.aload hA hx rfl (hb hq at_156) rfl rfl k) ?_
          show OFin _ _ _ _ _ _ _ _ T16 (mkF m 158 #[.val (.int p0), .val (.int p1), .val (.int p2), .val (.int p3), .val (.int p4), .val (.int p5), .val (.int i1), .val (.int i2), .val (.int n1), .val (.int n2), .val (.ref b3), .val (.int (p4 &&& (3 : Int32))), .val (.int i2), .val (.ref b6), .val (.int (1 : Int32))] [(.ref b3)])
          refine X16.step (fun hA hx hq t k => XS.aload hA hx rfl (hb hq at_158) rfl rfl k) ?_
          show OFin _ _ _ _ _ _ _ _ T16 (mkF m 160 #[.val (.int p0), .val (.int p1), .val (.int p2), .val (.int p3), .val (.int p4), .val (.int p5), .val (.int i1), .val (.int i2), .val (.int n1), .val (.int n2), .val (.ref b3), .val (.int (p4 &&& (3 : Int32))), .val (.int i2), .val (.ref b6), .val (.int (1 : Int32))] [(.ref b3), (.ref b3)])
          refine X16.callV (y' := (⟨"com/example/replay_proof/replayproof/model/IntruderValue", "equals", "(Ljava/lang/Object;)Z"⟩ : MethodName)) (z' := (⟨"com/example/replay_proof/replayproof/model/IntruderValue", "equals", "(Ljava/lang/Object;)Z"⟩ : MethodName)) (hw _ (List.mem_of_getElem? (i := 39) rfl)) (hw _ (List.mem_of_getElem? (i := 40) rfl)) (X16.notFace (hw _ (List.mem_of_getElem? (i := 42) rfl)) rfl) (hw _ (List.mem_of_getElem? (i := 42) rfl)) (hw _ (List.mem_of_getElem? (i := 41) rfl)) (hw _ (List.mem_of_getElem? (i := 7) rfl)) (hw _ (List.mem_of_getElem? (i := 43) rfl)) (by decide) Ex (argsL := [(.ref b3)]) (rest := []) (rm6 l Z a0 hw b3 b3 (own_kind i1 aT aN aK) (own_kind i1 aT aN aK) n1 n1 h8 n0 Gk Gn Gk Gn Ex) (g := (mkF m 160 #[.val (.int p0), .val (.int p1), .val (.int p2), .val (.int p3), .val (.int p4), .val (.int p5), .val (.int i1), .val (.int i2), .val (.int n1), .val (.int n2), .val (.ref b3), .val (.int (p4 &&& (3 : Int32))), .val (.int i2), .val (.ref b6), .val (.int (1 : Int32))] [(.ref b3), (.ref b3)])) rfl rfl pd_pLjava_lang_Object_r_Z rfl rfl (W := 0) (by show 2 * 0 + _ ≤ _; exact Nat.le_of_eq rfl) at_160 (by decide) (by decide) (by decide) (by decide) ?_
          intro v17 T17 h17 X17 q17
          obtain ⟨rfl, rfl⟩ := q17
          show OFin _ _ _ _ _ _ _ _ T17 (mkF m 163 #[.val (.int p0), .val (.int p1), .val (.int p2), .val (.int p3), .val (.int p4), .val (.int p5), .val (.int i1), .val (.int i2), .val (.int n1), .val (.int n2), .val (.ref b3), .val (.int (p4 &&& (3 : Int32))), .val (.int i2), .val (.ref b6), .val (.int (1 : Int32))] [(.int (if (own_kind i1 aT aN aK) = (own_kind i1 aT aN aK) ∧ n1 = n1 then 1 else 0 : Int32))])
          refine X17.step (fun hA hx hq t k => XS.ifNo hA hx rfl (hb hq at_163) rfl ((if0 _ _).trans (feq ((by rw [if_pos ⟨rfl, rfl⟩]; decide))).1) k) ?_
          show OFin _ _ _ _ _ _ _ _ T17 (mkF m 166 #[.val (.int p0), .val (.int p1), .val (.int p2), .val (.int p3), .val (.int p4), .val (.int p5), .val (.int i1), .val (.int i2), .val (.int n1), .val (.int n2), .val (.ref b3), .val (.int (p4 &&& (3 : Int32))), .val (.int i2), .val (.ref b6), .val (.int (1 : Int32))] [])
          refine X17.step (fun hA hx hq t k => XS.iconst hA hx rfl (hb hq at_166) k) ?_
          show OFin _ _ _ _ _ _ _ _ T17 (mkF m 167 #[.val (.int p0), .val (.int p1), .val (.int p2), .val (.int p3), .val (.int p4), .val (.int p5), .val (.int i1), .val (.int i2), .val (.int n1), .val (.int n2), .val (.ref b3), .val (.int (p4 &&& (3 : Int32))), .val (.int i2), .val (.ref b6), .val (.int (1 : Int32))] [(.int (1 : Int32))])
          refine X17.step (fun hA hx hq t k => XS.goto hA hx rfl (pc0 := 167) (pc' := 171) rfl (hb hq at_167) (by decide) (by decide) k) ?_
          show OFin _ _ _ _ _ _ _ _ T17 (mkF m 171 #[.val (.int p0), .val (.int p1), .val (.int p2), .val (.int p3), .val (.int p4), .val (.int p5), .val (.int i1), .val (.int i2), .val (.int n1), .val (.int n2), .val (.ref b3), .val (.int (p4 &&& (3 : Int32))), .val (.int i2), .val (.ref b6), .val (.int (1 : Int32))] [(.int (1 : Int32))])
          exact X17.retN (by simp) at_171 (by decide) (by decide) (rfl)
        · refine X8.step (fun hA hx hq t k => XS.icmpYes hA hx rfl (pc0 := 122) (pc' := 129) rfl (hb hq at_122) rfl (feq (d2)).2 (by decide) (by decide) k) ?_
          show OFin _ _ _ _ _ _ _ _ T8 (mkF m 129 #[.val (.int p0), .val (.int p1), .val (.int p2), .val (.int p3), .val (.int p4), .val (.int p5), .val (.int i1), .val (.int i2), .val (.int n1), .val (.int n2), .val (.ref b3), .val (.int (p4 &&& (3 : Int32))), .val (.int i2), .val (.ref b6), .unset] [])
          refine X8.step (fun hA hx hq t k => XS.iconst hA hx rfl (hb hq at_129) k) ?_
          show OFin _ _ _ _ _ _ _ _ T8 (mkF m 130 #[.val (.int p0), .val (.int p1), .val (.int p2), .val (.int p3), .val (.int p4), .val (.int p5), .val (.int i1), .val (.int i2), .val (.int n1), .val (.int n2), .val (.ref b3), .val (.int (p4 &&& (3 : Int32))), .val (.int i2), .val (.ref b6), .unset] [(.int (0 : Int32))])
          refine X8.step (fun hA hx hq t k => XS.istore hA hx rfl (hb hq at_130) rfl (l' := #[.val (.int p0), .val (.int p1), .val (.int p2), .val (.int p3), .val (.int p4), .val (.int p5), .val (.int i1), .val (.int i2), .val (.int n1), .val (.int n2), .val (.ref b3), .val (.int (p4 &&& (3 : Int32))), .val (.int i2), .val (.ref b6), .val (.int (0 : Int32))]) rfl k) ?_
          show OFin _ _ _ _ _ _ _ _ T8 (mkF m 132 #[.val (.int p0), .val (.int p1), .val (.int p2), .val (.int p3), .val (.int p4), .val (.int p5), .val (.int i1), .val (.int i2), .val (.int n1), .val (.int n2), .val (.ref b3), .val (.int (p4 &&& (3 : Int32))), .val (.int i2), .val (.ref b6), .val (.int (0 : Int32))] [])
          refine X8.step (fun hA hx hq t k => XS.aload hA hx rfl (hb hq at_132) rfl rfl k) ?_
          show OFin _ _ _ _ _ _ _ _ T8 (mkF m 134 #[.val (.int p0), .val (.int p1), .val (.int p2), .val (.int p3), .val (.int p4), .val (.int p5), .val (.int i1), .val (.int i2), .val (.int n1), .val (.int n2), .val (.ref b3), .val (.int (p4 &&& (3 : Int32))), .val (.int i2), .val (.ref b6), .val (.int (0 : Int32))] [(.ref b3)])
          refine X8.step (fun hA hx hq t k => XS.aload hA hx rfl (hb hq at_134) rfl rfl k) ?_
          show OFin _ _ _ _ _ _ _ _ T8 (mkF m 136 #[.val (.int p0), .val (.int p1), .val (.int p2), .val (.int p3), .val (.int p4), .val (.int p5), .val (.int i1), .val (.int i2), .val (.int n1), .val (.int n2), .val (.ref b3), .val (.int (p4 &&& (3 : Int32))), .val (.int i2), .val (.ref b6), .val (.int (0 : Int32))] [(.ref b6), (.ref b3)])
          refine X8.callV (y' := (⟨"com/example/replay_proof/replayproof/model/IntruderValue", "equals", "(Ljava/lang/Object;)Z"⟩ : MethodName)) (z' := (⟨"com/example/replay_proof/replayproof/model/IntruderValue", "equals", "(Ljava/lang/Object;)Z"⟩ : MethodName)) (hw _ (List.mem_of_getElem? (i := 39) rfl)) (hw _ (List.mem_of_getElem? (i := 40) rfl)) (X8.notFace (hw _ (List.mem_of_getElem? (i := 42) rfl)) rfl) (hw _ (List.mem_of_getElem? (i := 42) rfl)) (hw _ (List.mem_of_getElem? (i := 41) rfl)) (hw _ (List.mem_of_getElem? (i := 7) rfl)) (hw _ (List.mem_of_getElem? (i := 43) rfl)) (by decide) Ex (argsL := [(.ref b6)]) (rest := []) (rm6 l Z a0 hw b3 b6 (own_kind i1 aT aN aK) (own_kind i2 aT aN aK) n1 n2 h8 n0 Gk Gn Fk8 Fn8 E8) (g := (mkF m 136 #[.val (.int p0), .val (.int p1), .val (.int p2), .val (.int p3), .val (.int p4), .val (.int p5), .val (.int i1), .val (.int i2), .val (.int n1), .val (.int n2), .val (.ref b3), .val (.int (p4 &&& (3 : Int32))), .val (.int i2), .val (.ref b6), .val (.int (0 : Int32))] [(.ref b6), (.ref b3)])) rfl rfl pd_pLjava_lang_Object_r_Z rfl rfl (W := 0) (by show 2 * 0 + _ ≤ _; exact Nat.le_of_eq rfl) at_136 (by decide) (by decide) (by decide) (by decide) ?_
          intro v12 T12 h12 X12 q12
          obtain ⟨rfl, rfl⟩ := q12
          show OFin _ _ _ _ _ _ _ _ T12 (mkF m 139 #[.val (.int p0), .val (.int p1), .val (.int p2), .val (.int p3), .val (.int p4), .val (.int p5), .val (.int i1), .val (.int i2), .val (.int n1), .val (.int n2), .val (.ref b3), .val (.int (p4 &&& (3 : Int32))), .val (.int i2), .val (.ref b6), .val (.int (0 : Int32))] [(.int (if (own_kind i1 aT aN aK) = (own_kind i2 aT aN aK) ∧ n1 = n2 then 1 else 0 : Int32))])
          refine X12.step (fun hA hx hq t k => XS.iload hA hx rfl (hb hq at_139) rfl k) ?_
          show OFin _ _ _ _ _ _ _ _ T12 (mkF m 141 #[.val (.int p0), .val (.int p1), .val (.int p2), .val (.int p3), .val (.int p4), .val (.int p5), .val (.int i1), .val (.int i2), .val (.int n1), .val (.int n2), .val (.ref b3), .val (.int (p4 &&& (3 : Int32))), .val (.int i2), .val (.ref b6), .val (.int (0 : Int32))] [(.int (0 : Int32)), (.int (if (own_kind i1 aT aN aK) = (own_kind i2 aT aN aK) ∧ n1 = n2 then 1 else 0 : Int32))])
          refine X12.step (fun hA hx hq t k => XS.icmpNo hA hx rfl (hb hq at_141) rfl (teq (if_neg fun q => d2 q.2)).2 k) ?_
          show OFin _ _ _ _ _ _ _ _ T12 (mkF m 144 #[.val (.int p0), .val (.int p1), .val (.int p2), .val (.int p3), .val (.int p4), .val (.int p5), .val (.int i1), .val (.int i2), .val (.int n1), .val (.int n2), .val (.ref b3), .val (.int (p4 &&& (3 : Int32))), .val (.int i2), .val (.ref b6), .val (.int (0 : Int32))] [])
          refine X12.step (fun hA hx hq t k => XS.aload hA hx rfl (hb hq at_144) rfl rfl k) ?_
          show OFin _ _ _ _ _ _ _ _ T12 (mkF m 146 #[.val (.int p0), .val (.int p1), .val (.int p2), .val (.int p3), .val (.int p4), .val (.int p5), .val (.int i1), .val (.int i2), .val (.int n1), .val (.int n2), .val (.ref b3), .val (.int (p4 &&& (3 : Int32))), .val (.int i2), .val (.ref b6), .val (.int (0 : Int32))] [(.ref b6)])
          refine X12.step (fun hA hx hq t k => XS.aload hA hx rfl (hb hq at_146) rfl rfl k) ?_
          show OFin _ _ _ _ _ _ _ _ T12 (mkF m 148 #[.val (.int p0), .val (.int p1), .val (.int p2), .val (.int p3), .val (.int p4), .val (.int p5), .val (.int i1), .val (.int i2), .val (.int n1), .val (.int n2), .val (.ref b3), .val (.int (p4 &&& (3 : Int32))), .val (.int i2), .val (.ref b6), .val (.int (0 : Int32))] [(.ref b3), (.ref b6)])
          refine X12.callV (y' := (⟨"com/example/replay_proof/replayproof/model/IntruderValue", "equals", "(Ljava/lang/Object;)Z"⟩ : MethodName)) (z' := (⟨"com/example/replay_proof/replayproof/model/IntruderValue", "equals", "(Ljava/lang/Object;)Z"⟩ : MethodName)) (hw _ (List.mem_of_getElem? (i := 39) rfl)) (hw _ (List.mem_of_getElem? (i := 40) rfl)) (X12.notFace (hw _ (List.mem_of_getElem? (i := 42) rfl)) rfl) (hw _ (List.mem_of_getElem? (i := 42) rfl)) (hw _ (List.mem_of_getElem? (i := 41) rfl)) (hw _ (List.mem_of_getElem? (i := 7) rfl)) (hw _ (List.mem_of_getElem? (i := 43) rfl)) (by decide) E8 (argsL := [(.ref b3)]) (rest := []) (rm6 l Z a0 hw b6 b3 (own_kind i2 aT aN aK) (own_kind i1 aT aN aK) n2 n1 h8 n0 Fk8 Fn8 Gk Gn Ex) (g := (mkF m 148 #[.val (.int p0), .val (.int p1), .val (.int p2), .val (.int p3), .val (.int p4), .val (.int p5), .val (.int i1), .val (.int i2), .val (.int n1), .val (.int n2), .val (.ref b3), .val (.int (p4 &&& (3 : Int32))), .val (.int i2), .val (.ref b6), .val (.int (0 : Int32))] [(.ref b3), (.ref b6)])) rfl rfl pd_pLjava_lang_Object_r_Z rfl rfl (W := 0) (by show 2 * 0 + _ ≤ _; exact Nat.le_of_eq rfl) at_148 (by decide) (by decide) (by decide) (by decide) ?_
          intro v13 T13 h13 X13 q13
          obtain ⟨rfl, rfl⟩ := q13
          show OFin _ _ _ _ _ _ _ _ T13 (mkF m 151 #[.val (.int p0), .val (.int p1), .val (.int p2), .val (.int p3), .val (.int p4), .val (.int p5), .val (.int i1), .val (.int i2), .val (.int n1), .val (.int n2), .val (.ref b3), .val (.int (p4 &&& (3 : Int32))), .val (.int i2), .val (.ref b6), .val (.int (0 : Int32))] [(.int (if (own_kind i2 aT aN aK) = (own_kind i1 aT aN aK) ∧ n2 = n1 then 1 else 0 : Int32))])
          refine X13.step (fun hA hx hq t k => XS.iload hA hx rfl (hb hq at_151) rfl k) ?_
          show OFin _ _ _ _ _ _ _ _ T13 (mkF m 153 #[.val (.int p0), .val (.int p1), .val (.int p2), .val (.int p3), .val (.int p4), .val (.int p5), .val (.int i1), .val (.int i2), .val (.int n1), .val (.int n2), .val (.ref b3), .val (.int (p4 &&& (3 : Int32))), .val (.int i2), .val (.ref b6), .val (.int (0 : Int32))] [(.int (0 : Int32)), (.int (if (own_kind i2 aT aN aK) = (own_kind i1 aT aN aK) ∧ n2 = n1 then 1 else 0 : Int32))])
          refine X13.step (fun hA hx hq t k => XS.icmpNo hA hx rfl (hb hq at_153) rfl (teq (if_neg fun q => d2 q.2.symm)).2 k) ?_
          show OFin _ _ _ _ _ _ _ _ T13 (mkF m 156 #[.val (.int p0), .val (.int p1), .val (.int p2), .val (.int p3), .val (.int p4), .val (.int p5), .val (.int i1), .val (.int i2), .val (.int n1), .val (.int n2), .val (.ref b3), .val (.int (p4 &&& (3 : Int32))), .val (.int i2), .val (.ref b6), .val (.int (0 : Int32))] [])
          refine X13.step (fun hA hx hq t k => XS.aload hA hx rfl (hb hq at_156) rfl rfl k) ?_
          show OFin _ _ _ _ _ _ _ _ T13 (mkF m 158 #[.val (.int p0), .val (.int p1), .val (.int p2), .val (.int p3), .val (.int p4), .val (.int p5), .val (.int i1), .val (.int i2), .val (.int n1), .val (.int n2), .val (.ref b3), .val (.int (p4 &&& (3 : Int32))), .val (.int i2), .val (.ref b6), .val (.int (0 : Int32))] [(.ref b3)])
          refine X13.step (fun hA hx hq t k => XS.aload hA hx rfl (hb hq at_158) rfl rfl k) ?_
          show OFin _ _ _ _ _ _ _ _ T13 (mkF m 160 #[.val (.int p0), .val (.int p1), .val (.int p2), .val (.int p3), .val (.int p4), .val (.int p5), .val (.int i1), .val (.int i2), .val (.int n1), .val (.int n2), .val (.ref b3), .val (.int (p4 &&& (3 : Int32))), .val (.int i2), .val (.ref b6), .val (.int (0 : Int32))] [(.ref b3), (.ref b3)])
          refine X13.callV (y' := (⟨"com/example/replay_proof/replayproof/model/IntruderValue", "equals", "(Ljava/lang/Object;)Z"⟩ : MethodName)) (z' := (⟨"com/example/replay_proof/replayproof/model/IntruderValue", "equals", "(Ljava/lang/Object;)Z"⟩ : MethodName)) (hw _ (List.mem_of_getElem? (i := 39) rfl)) (hw _ (List.mem_of_getElem? (i := 40) rfl)) (X13.notFace (hw _ (List.mem_of_getElem? (i := 42) rfl)) rfl) (hw _ (List.mem_of_getElem? (i := 42) rfl)) (hw _ (List.mem_of_getElem? (i := 41) rfl)) (hw _ (List.mem_of_getElem? (i := 7) rfl)) (hw _ (List.mem_of_getElem? (i := 43) rfl)) (by decide) Ex (argsL := [(.ref b3)]) (rest := []) (rm6 l Z a0 hw b3 b3 (own_kind i1 aT aN aK) (own_kind i1 aT aN aK) n1 n1 h8 n0 Gk Gn Gk Gn Ex) (g := (mkF m 160 #[.val (.int p0), .val (.int p1), .val (.int p2), .val (.int p3), .val (.int p4), .val (.int p5), .val (.int i1), .val (.int i2), .val (.int n1), .val (.int n2), .val (.ref b3), .val (.int (p4 &&& (3 : Int32))), .val (.int i2), .val (.ref b6), .val (.int (0 : Int32))] [(.ref b3), (.ref b3)])) rfl rfl pd_pLjava_lang_Object_r_Z rfl rfl (W := 0) (by show 2 * 0 + _ ≤ _; exact Nat.le_of_eq rfl) at_160 (by decide) (by decide) (by decide) (by decide) ?_
          intro v14 T14 h14 X14 q14
          obtain ⟨rfl, rfl⟩ := q14
          show OFin _ _ _ _ _ _ _ _ T14 (mkF m 163 #[.val (.int p0), .val (.int p1), .val (.int p2), .val (.int p3), .val (.int p4), .val (.int p5), .val (.int i1), .val (.int i2), .val (.int n1), .val (.int n2), .val (.ref b3), .val (.int (p4 &&& (3 : Int32))), .val (.int i2), .val (.ref b6), .val (.int (0 : Int32))] [(.int (if (own_kind i1 aT aN aK) = (own_kind i1 aT aN aK) ∧ n1 = n1 then 1 else 0 : Int32))])
          refine X14.step (fun hA hx hq t k => XS.ifNo hA hx rfl (hb hq at_163) rfl ((if0 _ _).trans (feq ((by rw [if_pos ⟨rfl, rfl⟩]; decide))).1) k) ?_
          show OFin _ _ _ _ _ _ _ _ T14 (mkF m 166 #[.val (.int p0), .val (.int p1), .val (.int p2), .val (.int p3), .val (.int p4), .val (.int p5), .val (.int i1), .val (.int i2), .val (.int n1), .val (.int n2), .val (.ref b3), .val (.int (p4 &&& (3 : Int32))), .val (.int i2), .val (.ref b6), .val (.int (0 : Int32))] [])
          refine X14.step (fun hA hx hq t k => XS.iconst hA hx rfl (hb hq at_166) k) ?_
          show OFin _ _ _ _ _ _ _ _ T14 (mkF m 167 #[.val (.int p0), .val (.int p1), .val (.int p2), .val (.int p3), .val (.int p4), .val (.int p5), .val (.int i1), .val (.int i2), .val (.int n1), .val (.int n2), .val (.ref b3), .val (.int (p4 &&& (3 : Int32))), .val (.int i2), .val (.ref b6), .val (.int (0 : Int32))] [(.int (1 : Int32))])
          refine X14.step (fun hA hx hq t k => XS.goto hA hx rfl (pc0 := 167) (pc' := 171) rfl (hb hq at_167) (by decide) (by decide) k) ?_
          show OFin _ _ _ _ _ _ _ _ T14 (mkF m 171 #[.val (.int p0), .val (.int p1), .val (.int p2), .val (.int p3), .val (.int p4), .val (.int p5), .val (.int i1), .val (.int i2), .val (.int n1), .val (.int n2), .val (.ref b3), .val (.int (p4 &&& (3 : Int32))), .val (.int i2), .val (.ref b6), .val (.int (0 : Int32))] [(.int (1 : Int32))])
          exact X14.retN (by simp) at_171 (by decide) (by decide) (rfl)
      · refine X8.step (fun hA hx hq t k => XS.icmpYes hA hx rfl (pc0 := 115) (pc' := 129) rfl (hb hq at_115) rfl (feq (d1)).2 (by decide) (by decide) k) ?_
        show OFin _ _ _ _ _ _ _ _ T8 (mkF m 129 #[.val (.int p0), .val (.int p1), .val (.int p2), .val (.int p3), .val (.int p4), .val (.int p5), .val (.int i1), .val (.int i2), .val (.int n1), .val (.int n2), .val (.ref b3), .val (.int (p4 &&& (3 : Int32))), .val (.int i2), .val (.ref b6), .unset] [])
        refine X8.step (fun hA hx hq t k => XS.iconst hA hx rfl (hb hq at_129) k) ?_
        show OFin _ _ _ _ _ _ _ _ T8 (mkF m 130 #[.val (.int p0), .val (.int p1), .val (.int p2), .val (.int p3), .val (.int p4), .val (.int p5), .val (.int i1), .val (.int i2), .val (.int n1), .val (.int n2), .val (.ref b3), .val (.int (p4 &&& (3 : Int32))), .val (.int i2), .val (.ref b6), .unset] [(.int (0 : Int32))])
        refine X8.step (fun hA hx hq t k => XS.istore hA hx rfl (hb hq at_130) rfl (l' := #[.val (.int p0), .val (.int p1), .val (.int p2), .val (.int p3), .val (.int p4), .val (.int p5), .val (.int i1), .val (.int i2), .val (.int n1), .val (.int n2), .val (.ref b3), .val (.int (p4 &&& (3 : Int32))), .val (.int i2), .val (.ref b6), .val (.int (0 : Int32))]) rfl k) ?_
        show OFin _ _ _ _ _ _ _ _ T8 (mkF m 132 #[.val (.int p0), .val (.int p1), .val (.int p2), .val (.int p3), .val (.int p4), .val (.int p5), .val (.int i1), .val (.int i2), .val (.int n1), .val (.int n2), .val (.ref b3), .val (.int (p4 &&& (3 : Int32))), .val (.int i2), .val (.ref b6), .val (.int (0 : Int32))] [])
        refine X8.step (fun hA hx hq t k => XS.aload hA hx rfl (hb hq at_132) rfl rfl k) ?_
        show OFin _ _ _ _ _ _ _ _ T8 (mkF m 134 #[.val (.int p0), .val (.int p1), .val (.int p2), .val (.int p3), .val (.int p4), .val (.int p5), .val (.int i1), .val (.int i2), .val (.int n1), .val (.int n2), .val (.ref b3), .val (.int (p4 &&& (3 : Int32))), .val (.int i2), .val (.ref b6), .val (.int (0 : Int32))] [(.ref b3)])
        refine X8.step (fun hA hx hq t k => XS.aload hA hx rfl (hb hq at_134) rfl rfl k) ?_
        show OFin _ _ _ _ _ _ _ _ T8 (mkF m 136 #[.val (.int p0), .val (.int p1), .val (.int p2), .val (.int p3), .val (.int p4), .val (.int p5), .val (.int i1), .val (.int i2), .val (.int n1), .val (.int n2), .val (.ref b3), .val (.int (p4 &&& (3 : Int32))), .val (.int i2), .val (.ref b6), .val (.int (0 : Int32))] [(.ref b6), (.ref b3)])
        refine X8.callV (y' := (⟨"com/example/replay_proof/replayproof/model/IntruderValue", "equals", "(Ljava/lang/Object;)Z"⟩ : MethodName)) (z' := (⟨"com/example/replay_proof/replayproof/model/IntruderValue", "equals", "(Ljava/lang/Object;)Z"⟩ : MethodName)) (hw _ (List.mem_of_getElem? (i := 39) rfl)) (hw _ (List.mem_of_getElem? (i := 40) rfl)) (X8.notFace (hw _ (List.mem_of_getElem? (i := 42) rfl)) rfl) (hw _ (List.mem_of_getElem? (i := 42) rfl)) (hw _ (List.mem_of_getElem? (i := 41) rfl)) (hw _ (List.mem_of_getElem? (i := 7) rfl)) (hw _ (List.mem_of_getElem? (i := 43) rfl)) (by decide) Ex (argsL := [(.ref b6)]) (rest := []) (rm6 l Z a0 hw b3 b6 (own_kind i1 aT aN aK) (own_kind i2 aT aN aK) n1 n2 h8 n0 Gk Gn Fk8 Fn8 E8) (g := (mkF m 136 #[.val (.int p0), .val (.int p1), .val (.int p2), .val (.int p3), .val (.int p4), .val (.int p5), .val (.int i1), .val (.int i2), .val (.int n1), .val (.int n2), .val (.ref b3), .val (.int (p4 &&& (3 : Int32))), .val (.int i2), .val (.ref b6), .val (.int (0 : Int32))] [(.ref b6), (.ref b3)])) rfl rfl pd_pLjava_lang_Object_r_Z rfl rfl (W := 0) (by show 2 * 0 + _ ≤ _; exact Nat.le_of_eq rfl) at_136 (by decide) (by decide) (by decide) (by decide) ?_
        intro v9 T9 h9 X9 q9
        obtain ⟨rfl, rfl⟩ := q9
        show OFin _ _ _ _ _ _ _ _ T9 (mkF m 139 #[.val (.int p0), .val (.int p1), .val (.int p2), .val (.int p3), .val (.int p4), .val (.int p5), .val (.int i1), .val (.int i2), .val (.int n1), .val (.int n2), .val (.ref b3), .val (.int (p4 &&& (3 : Int32))), .val (.int i2), .val (.ref b6), .val (.int (0 : Int32))] [(.int (if (own_kind i1 aT aN aK) = (own_kind i2 aT aN aK) ∧ n1 = n2 then 1 else 0 : Int32))])
        refine X9.step (fun hA hx hq t k => XS.iload hA hx rfl (hb hq at_139) rfl k) ?_
        show OFin _ _ _ _ _ _ _ _ T9 (mkF m 141 #[.val (.int p0), .val (.int p1), .val (.int p2), .val (.int p3), .val (.int p4), .val (.int p5), .val (.int i1), .val (.int i2), .val (.int n1), .val (.int n2), .val (.ref b3), .val (.int (p4 &&& (3 : Int32))), .val (.int i2), .val (.ref b6), .val (.int (0 : Int32))] [(.int (0 : Int32)), (.int (if (own_kind i1 aT aN aK) = (own_kind i2 aT aN aK) ∧ n1 = n2 then 1 else 0 : Int32))])
        refine X9.step (fun hA hx hq t k => XS.icmpNo hA hx rfl (hb hq at_141) rfl (teq (if_neg fun q => d1 (hk.mp q.1))).2 k) ?_
        show OFin _ _ _ _ _ _ _ _ T9 (mkF m 144 #[.val (.int p0), .val (.int p1), .val (.int p2), .val (.int p3), .val (.int p4), .val (.int p5), .val (.int i1), .val (.int i2), .val (.int n1), .val (.int n2), .val (.ref b3), .val (.int (p4 &&& (3 : Int32))), .val (.int i2), .val (.ref b6), .val (.int (0 : Int32))] [])
        refine X9.step (fun hA hx hq t k => XS.aload hA hx rfl (hb hq at_144) rfl rfl k) ?_
        show OFin _ _ _ _ _ _ _ _ T9 (mkF m 146 #[.val (.int p0), .val (.int p1), .val (.int p2), .val (.int p3), .val (.int p4), .val (.int p5), .val (.int i1), .val (.int i2), .val (.int n1), .val (.int n2), .val (.ref b3), .val (.int (p4 &&& (3 : Int32))), .val (.int i2), .val (.ref b6), .val (.int (0 : Int32))] [(.ref b6)])
        refine X9.step (fun hA hx hq t k => XS.aload hA hx rfl (hb hq at_146) rfl rfl k) ?_
        show OFin _ _ _ _ _ _ _ _ T9 (mkF m 148 #[.val (.int p0), .val (.int p1), .val (.int p2), .val (.int p3), .val (.int p4), .val (.int p5), .val (.int i1), .val (.int i2), .val (.int n1), .val (.int n2), .val (.ref b3), .val (.int (p4 &&& (3 : Int32))), .val (.int i2), .val (.ref b6), .val (.int (0 : Int32))] [(.ref b3), (.ref b6)])
        refine X9.callV (y' := (⟨"com/example/replay_proof/replayproof/model/IntruderValue", "equals", "(Ljava/lang/Object;)Z"⟩ : MethodName)) (z' := (⟨"com/example/replay_proof/replayproof/model/IntruderValue", "equals", "(Ljava/lang/Object;)Z"⟩ : MethodName)) (hw _ (List.mem_of_getElem? (i := 39) rfl)) (hw _ (List.mem_of_getElem? (i := 40) rfl)) (X9.notFace (hw _ (List.mem_of_getElem? (i := 42) rfl)) rfl) (hw _ (List.mem_of_getElem? (i := 42) rfl)) (hw _ (List.mem_of_getElem? (i := 41) rfl)) (hw _ (List.mem_of_getElem? (i := 7) rfl)) (hw _ (List.mem_of_getElem? (i := 43) rfl)) (by decide) E8 (argsL := [(.ref b3)]) (rest := []) (rm6 l Z a0 hw b6 b3 (own_kind i2 aT aN aK) (own_kind i1 aT aN aK) n2 n1 h8 n0 Fk8 Fn8 Gk Gn Ex) (g := (mkF m 148 #[.val (.int p0), .val (.int p1), .val (.int p2), .val (.int p3), .val (.int p4), .val (.int p5), .val (.int i1), .val (.int i2), .val (.int n1), .val (.int n2), .val (.ref b3), .val (.int (p4 &&& (3 : Int32))), .val (.int i2), .val (.ref b6), .val (.int (0 : Int32))] [(.ref b3), (.ref b6)])) rfl rfl pd_pLjava_lang_Object_r_Z rfl rfl (W := 0) (by show 2 * 0 + _ ≤ _; exact Nat.le_of_eq rfl) at_148 (by decide) (by decide) (by decide) (by decide) ?_
        intro v10 T10 h10 X10 q10
        obtain ⟨rfl, rfl⟩ := q10
        show OFin _ _ _ _ _ _ _ _ T10 (mkF m 151 #[.val (.int p0), .val (.int p1), .val (.int p2), .val (.int p3), .val (.int p4), .val (.int p5), .val (.int i1), .val (.int i2), .val (.int n1), .val (.int n2), .val (.ref b3), .val (.int (p4 &&& (3 : Int32))), .val (.int i2), .val (.ref b6), .val (.int (0 : Int32))] [(.int (if (own_kind i2 aT aN aK) = (own_kind i1 aT aN aK) ∧ n2 = n1 then 1 else 0 : Int32))])
        refine X10.step (fun hA hx hq t k => XS.iload hA hx rfl (hb hq at_151) rfl k) ?_
        show OFin _ _ _ _ _ _ _ _ T10 (mkF m 153 #[.val (.int p0), .val (.int p1), .val (.int p2), .val (.int p3), .val (.int p4), .val (.int p5), .val (.int i1), .val (.int i2), .val (.int n1), .val (.int n2), .val (.ref b3), .val (.int (p4 &&& (3 : Int32))), .val (.int i2), .val (.ref b6), .val (.int (0 : Int32))] [(.int (0 : Int32)), (.int (if (own_kind i2 aT aN aK) = (own_kind i1 aT aN aK) ∧ n2 = n1 then 1 else 0 : Int32))])
        refine X10.step (fun hA hx hq t k => XS.icmpNo hA hx rfl (hb hq at_153) rfl (teq (if_neg fun q => d1 (hk.mp q.1.symm))).2 k) ?_
        show OFin _ _ _ _ _ _ _ _ T10 (mkF m 156 #[.val (.int p0), .val (.int p1), .val (.int p2), .val (.int p3), .val (.int p4), .val (.int p5), .val (.int i1), .val (.int i2), .val (.int n1), .val (.int n2), .val (.ref b3), .val (.int (p4 &&& (3 : Int32))), .val (.int i2), .val (.ref b6), .val (.int (0 : Int32))] [])
        refine X10.step (fun hA hx hq t k => XS.aload hA hx rfl (hb hq at_156) rfl rfl k) ?_
        show OFin _ _ _ _ _ _ _ _ T10 (mkF m 158 #[.val (.int p0), .val (.int p1), .val (.int p2), .val (.int p3), .val (.int p4), .val (.int p5), .val (.int i1), .val (.int i2), .val (.int n1), .val (.int n2), .val (.ref b3), .val (.int (p4 &&& (3 : Int32))), .val (.int i2), .val (.ref b6), .val (.int (0 : Int32))] [(.ref b3)])
        refine X10.step (fun hA hx hq t k => XS.aload hA hx rfl (hb hq at_158) rfl rfl k) ?_
        show OFin _ _ _ _ _ _ _ _ T10 (mkF m 160 #[.val (.int p0), .val (.int p1), .val (.int p2), .val (.int p3), .val (.int p4), .val (.int p5), .val (.int i1), .val (.int i2), .val (.int n1), .val (.int n2), .val (.ref b3), .val (.int (p4 &&& (3 : Int32))), .val (.int i2), .val (.ref b6), .val (.int (0 : Int32))] [(.ref b3), (.ref b3)])
        refine X10.callV (y' := (⟨"com/example/replay_proof/replayproof/model/IntruderValue", "equals", "(Ljava/lang/Object;)Z"⟩ : MethodName)) (z' := (⟨"com/example/replay_proof/replayproof/model/IntruderValue", "equals", "(Ljava/lang/Object;)Z"⟩ : MethodName)) (hw _ (List.mem_of_getElem? (i := 39) rfl)) (hw _ (List.mem_of_getElem? (i := 40) rfl)) (X10.notFace (hw _ (List.mem_of_getElem? (i := 42) rfl)) rfl) (hw _ (List.mem_of_getElem? (i := 42) rfl)) (hw _ (List.mem_of_getElem? (i := 41) rfl)) (hw _ (List.mem_of_getElem? (i := 7) rfl)) (hw _ (List.mem_of_getElem? (i := 43) rfl)) (by decide) Ex (argsL := [(.ref b3)]) (rest := []) (rm6 l Z a0 hw b3 b3 (own_kind i1 aT aN aK) (own_kind i1 aT aN aK) n1 n1 h8 n0 Gk Gn Gk Gn Ex) (g := (mkF m 160 #[.val (.int p0), .val (.int p1), .val (.int p2), .val (.int p3), .val (.int p4), .val (.int p5), .val (.int i1), .val (.int i2), .val (.int n1), .val (.int n2), .val (.ref b3), .val (.int (p4 &&& (3 : Int32))), .val (.int i2), .val (.ref b6), .val (.int (0 : Int32))] [(.ref b3), (.ref b3)])) rfl rfl pd_pLjava_lang_Object_r_Z rfl rfl (W := 0) (by show 2 * 0 + _ ≤ _; exact Nat.le_of_eq rfl) at_160 (by decide) (by decide) (by decide) (by decide) ?_
        intro v11 T11 h11 X11 q11
        obtain ⟨rfl, rfl⟩ := q11
        show OFin _ _ _ _ _ _ _ _ T11 (mkF m 163 #[.val (.int p0), .val (.int p1), .val (.int p2), .val (.int p3), .val (.int p4), .val (.int p5), .val (.int i1), .val (.int i2), .val (.int n1), .val (.int n2), .val (.ref b3), .val (.int (p4 &&& (3 : Int32))), .val (.int i2), .val (.ref b6), .val (.int (0 : Int32))] [(.int (if (own_kind i1 aT aN aK) = (own_kind i1 aT aN aK) ∧ n1 = n1 then 1 else 0 : Int32))])
        refine X11.step (fun hA hx hq t k => XS.ifNo hA hx rfl (hb hq at_163) rfl ((if0 _ _).trans (feq ((by rw [if_pos ⟨rfl, rfl⟩]; decide))).1) k) ?_
        show OFin _ _ _ _ _ _ _ _ T11 (mkF m 166 #[.val (.int p0), .val (.int p1), .val (.int p2), .val (.int p3), .val (.int p4), .val (.int p5), .val (.int i1), .val (.int i2), .val (.int n1), .val (.int n2), .val (.ref b3), .val (.int (p4 &&& (3 : Int32))), .val (.int i2), .val (.ref b6), .val (.int (0 : Int32))] [])
        refine X11.step (fun hA hx hq t k => XS.iconst hA hx rfl (hb hq at_166) k) ?_
        show OFin _ _ _ _ _ _ _ _ T11 (mkF m 167 #[.val (.int p0), .val (.int p1), .val (.int p2), .val (.int p3), .val (.int p4), .val (.int p5), .val (.int i1), .val (.int i2), .val (.int n1), .val (.int n2), .val (.ref b3), .val (.int (p4 &&& (3 : Int32))), .val (.int i2), .val (.ref b6), .val (.int (0 : Int32))] [(.int (1 : Int32))])
        refine X11.step (fun hA hx hq t k => XS.goto hA hx rfl (pc0 := 167) (pc' := 171) rfl (hb hq at_167) (by decide) (by decide) k) ?_
        show OFin _ _ _ _ _ _ _ _ T11 (mkF m 171 #[.val (.int p0), .val (.int p1), .val (.int p2), .val (.int p3), .val (.int p4), .val (.int p5), .val (.int i1), .val (.int i2), .val (.int n1), .val (.int n2), .val (.ref b3), .val (.int (p4 &&& (3 : Int32))), .val (.int i2), .val (.ref b6), .val (.int (0 : Int32))] [(.int (1 : Int32))])
        exact X11.retN (by simp) at_171 (by decide) (by decide) (rfl)
    · refine X5.step (fun hA hx hq t k => XS.ifNo hA hx rfl (hb hq at_72) rfl ((if0 _ _).trans (feq (c1)).1) k) ?_
      show OFin _ _ _ _ _ _ _ _ T5 (mkF m 75 #[.val (.int p0), .val (.int p1), .val (.int p2), .val (.int p3), .val (.int p4), .val (.int p5), .val (.int i1), .val (.int i2), .val (.int n1), .val (.int n2), .val (.ref b3), .val (.int (p4 &&& (3 : Int32))), .unset, .unset, .unset] [])
      refine X5.step (fun hA hx hq t k => XS.iload hA hx rfl (hb hq at_75) rfl k) ?_
      show OFin _ _ _ _ _ _ _ _ T5 (mkF m 77 #[.val (.int p0), .val (.int p1), .val (.int p2), .val (.int p3), .val (.int p4), .val (.int p5), .val (.int i1), .val (.int i2), .val (.int n1), .val (.int n2), .val (.ref b3), .val (.int (p4 &&& (3 : Int32))), .unset, .unset, .unset] [(.int (p4 &&& (3 : Int32)))])
      refine X5.step (fun hA hx hq t k => XS.iconst hA hx rfl (hb hq at_77) k) ?_
      show OFin _ _ _ _ _ _ _ _ T5 (mkF m 78 #[.val (.int p0), .val (.int p1), .val (.int p2), .val (.int p3), .val (.int p4), .val (.int p5), .val (.int i1), .val (.int i2), .val (.int n1), .val (.int n2), .val (.ref b3), .val (.int (p4 &&& (3 : Int32))), .unset, .unset, .unset] [(.int (1 : Int32)), (.int (p4 &&& (3 : Int32)))])
      by_cases c2 : (p4 &&& (3 : Int32)) = (1 : Int32)
      · refine X5.step (fun hA hx hq t k => XS.icmpNo hA hx rfl (hb hq at_78) rfl (teq (c2)).2 k) ?_
        show OFin _ _ _ _ _ _ _ _ T5 (mkF m 81 #[.val (.int p0), .val (.int p1), .val (.int p2), .val (.int p3), .val (.int p4), .val (.int p5), .val (.int i1), .val (.int i2), .val (.int n1), .val (.int n2), .val (.ref b3), .val (.int (p4 &&& (3 : Int32))), .unset, .unset, .unset] [])
        refine X5.step (fun hA hx hq t k => XS.iload hA hx rfl (hb hq at_81) rfl k) ?_
        show OFin _ _ _ _ _ _ _ _ T5 (mkF m 83 #[.val (.int p0), .val (.int p1), .val (.int p2), .val (.int p3), .val (.int p4), .val (.int p5), .val (.int i1), .val (.int i2), .val (.int n1), .val (.int n2), .val (.ref b3), .val (.int (p4 &&& (3 : Int32))), .unset, .unset, .unset] [(.int (p4 &&& (3 : Int32)))])
        refine X5.step (fun hA hx hq t k => XS.ifYes hA hx rfl (pc0 := 83) (pc' := 91) rfl (hb hq at_83) rfl ((if0 _ _).trans (feq (c1)).2) (by decide) (by decide) k) ?_
        show OFin _ _ _ _ _ _ _ _ T5 (mkF m 91 #[.val (.int p0), .val (.int p1), .val (.int p2), .val (.int p3), .val (.int p4), .val (.int p5), .val (.int i1), .val (.int i2), .val (.int n1), .val (.int n2), .val (.ref b3), .val (.int (p4 &&& (3 : Int32))), .unset, .unset, .unset] [])
        refine X5.step (fun hA hx hq t k => XS.iload hA hx rfl (hb hq at_91) rfl k) ?_
        show OFin _ _ _ _ _ _ _ _ T5 (mkF m 93 #[.val (.int p0), .val (.int p1), .val (.int p2), .val (.int p3), .val (.int p4), .val (.int p5), .val (.int i1), .val (.int i2), .val (.int n1), .val (.int n2), .val (.ref b3), .val (.int (p4 &&& (3 : Int32))), .unset, .unset, .unset] [(.int i1)])
        refine X5.step (fun hA hx hq t k => XS.istore hA hx rfl (hb hq at_93) rfl (l' := #[.val (.int p0), .val (.int p1), .val (.int p2), .val (.int p3), .val (.int p4), .val (.int p5), .val (.int i1), .val (.int i2), .val (.int n1), .val (.int n2), .val (.ref b3), .val (.int (p4 &&& (3 : Int32))), .val (.int i1), .unset, .unset]) rfl k) ?_
        show OFin _ _ _ _ _ _ _ _ T5 (mkF m 95 #[.val (.int p0), .val (.int p1), .val (.int p2), .val (.int p3), .val (.int p4), .val (.int p5), .val (.int i1), .val (.int i2), .val (.int n1), .val (.int n2), .val (.ref b3), .val (.int (p4 &&& (3 : Int32))), .val (.int i1), .unset, .unset] [])
        refine X5.newO (hw _ (List.mem_of_getElem? (i := 5) rfl)) (hw _ (List.mem_of_getElem? (i := 6) rfl)) (hw _ (List.mem_of_getElem? (i := 7) rfl)) (g := (mkF m 95 #[.val (.int p0), .val (.int p1), .val (.int p2), .val (.int p3), .val (.int p4), .val (.int p5), .val (.int i1), .val (.int i2), .val (.int n1), .val (.int n2), .val (.ref b3), .val (.int (p4 &&& (3 : Int32))), .val (.int i1), .unset, .unset] [])) rfl at_95 (by decide) (by decide) ?_
        intro T18 h18 b18 gb18 X18 E18 A18 D18
        show OFin _ _ _ _ _ _ _ _ T18 (mkF m 98 #[.val (.int p0), .val (.int p1), .val (.int p2), .val (.int p3), .val (.int p4), .val (.int p5), .val (.int i1), .val (.int i2), .val (.int n1), .val (.int n2), .val (.ref b3), .val (.int (p4 &&& (3 : Int32))), .val (.int i1), .unset, .unset] [(.ref b18)])
        have O18 := O5.ext E18
        have Fa18 : Fld Z h18 b18 "com/example/replay_proof/replayproof/model/IntruderValue" "kind" "Lcom/example/replay_proof/replayproof/model/Name$Kind;" .null := D18 (Or.inr (hw _ (List.mem_of_getElem? (i := 34) rfl))) (ty := (.object "com/example/replay_proof/replayproof/model/Name$Kind")) (by decide)
        have Fb18 : Fld Z h18 b18 "com/example/replay_proof/replayproof/model/IntruderValue" "number" "I" (.int 0) := D18 (Or.inr (hw _ (List.mem_of_getElem? (i := 36) rfl))) (ty := .int) (by decide)
        have hn18 : n0 ≤ b18 := by rw [gb18]; exact Nat.le_trans (Nat.le_of_eq O5.1.symm) O5.2.1
        refine X18.step (fun hA hx hq t k => XS.dup hA hx rfl (hb hq at_98) rfl rfl k) ?_
        show OFin _ _ _ _ _ _ _ _ T18 (mkF m 99 #[.val (.int p0), .val (.int p1), .val (.int p2), .val (.int p3), .val (.int p4), .val (.int p5), .val (.int i1), .val (.int i2), .val (.int n1), .val (.int n2), .val (.ref b3), .val (.int (p4 &&& (3 : Int32))), .val (.int i1), .unset, .unset] [(.ref b18), (.ref b18)])
        refine X18.step (fun hA hx hq t k => XS.iload hA hx rfl (hb hq at_99) rfl k) ?_
        show OFin _ _ _ _ _ _ _ _ T18 (mkF m 101 #[.val (.int p0), .val (.int p1), .val (.int p2), .val (.int p3), .val (.int p4), .val (.int p5), .val (.int i1), .val (.int i2), .val (.int n1), .val (.int n2), .val (.ref b3), .val (.int (p4 &&& (3 : Int32))), .val (.int i1), .unset, .unset] [(.int i1), (.ref b18), (.ref b18)])
        refine X18.callS (y' := (⟨"com/example/replay_proof/replayproof/model/IntruderValueEqualsPinLaw", "kindOf", "(I)Lcom/example/replay_proof/replayproof/model/Name$Kind;"⟩ : MethodName)) (hw _ (List.mem_of_getElem? (i := 8) rfl)) (hw _ (List.mem_of_getElem? (i := 9) rfl)) (hw _ (List.mem_of_getElem? (i := 10) rfl)) (hw _ (List.mem_of_getElem? (i := 11) rfl)) (by decide) (argsL := [(.int i1)]) (rest := [(.ref b18), (.ref b18)]) (rm2 l Z a0 hw i1 aT aN aK h18 n0 (ST.ext O18.2) (SN.ext O18.2) (SK.ext O18.2)) (g := (mkF m 101 #[.val (.int p0), .val (.int p1), .val (.int p2), .val (.int p3), .val (.int p4), .val (.int p5), .val (.int i1), .val (.int i2), .val (.int n1), .val (.int n2), .val (.ref b3), .val (.int (p4 &&& (3 : Int32))), .val (.int i1), .unset, .unset] [(.int i1), (.ref b18), (.ref b18)])) rfl rfl pd_pIr_Lcom_example_replay_proof_replayproof_model_Name_Kind_ rfl rfl (W := 2) (by show 2 * 0 + _ ≤ _; exact Nat.le_of_eq rfl) at_101 (by decide) (by decide) (by decide) (by decide) ?_
        intro v19 T19 h19 X19 q19
        obtain ⟨rfl, rfl⟩ := q19
        show OFin _ _ _ _ _ _ _ _ T19 (mkF m 104 #[.val (.int p0), .val (.int p1), .val (.int p2), .val (.int p3), .val (.int p4), .val (.int p5), .val (.int i1), .val (.int i2), .val (.int n1), .val (.int n2), .val (.ref b3), .val (.int (p4 &&& (3 : Int32))), .val (.int i1), .unset, .unset] [(.ref (own_kind i1 aT aN aK)), (.ref b18), (.ref b18)])
        refine X19.step (fun hA hx hq t k => XS.iload hA hx rfl (hb hq at_104) rfl k) ?_
        show OFin _ _ _ _ _ _ _ _ T19 (mkF m 106 #[.val (.int p0), .val (.int p1), .val (.int p2), .val (.int p3), .val (.int p4), .val (.int p5), .val (.int i1), .val (.int i2), .val (.int n1), .val (.int n2), .val (.ref b3), .val (.int (p4 &&& (3 : Int32))), .val (.int i1), .unset, .unset] [(.int n2), (.ref (own_kind i1 aT aN aK)), (.ref b18), (.ref b18)])
        refine X19.callI (y' := (⟨"com/example/replay_proof/replayproof/model/IntruderValue", "<init>", "(Lcom/example/replay_proof/replayproof/model/Name$Kind;I)V"⟩ : MethodName)) rfl (hw _ (List.mem_of_getElem? (i := 15) rfl)) (hw _ (List.mem_of_getElem? (i := 16) rfl)) (hw _ (List.mem_of_getElem? (i := 7) rfl)) (hw _ (List.mem_of_getElem? (i := 17) rfl)) (by decide) (a := b18) (argsL := [(.ref (own_kind i1 aT aN aK)), (.int n2)]) (rest := [(.ref b18)]) (rm5 l Z a0 hw b18 (own_kind i1 aT aN aK) n2 h18 n0 Fa18 Fb18 A18 hn18 (own_kp (P := fun a => Exa Z _ a _) i1 (ET.ext O18.2) (EN.ext O18.2) (EK.ext O18.2)) (own_kp (P := fun a => Fld Z _ a _ _ _ _) i1 (FT.ext O18.2) (FN.ext O18.2) (FK.ext O18.2)) g2) (g := (mkF m 106 #[.val (.int p0), .val (.int p1), .val (.int p2), .val (.int p3), .val (.int p4), .val (.int p5), .val (.int i1), .val (.int i2), .val (.int n1), .val (.int n2), .val (.ref b3), .val (.int (p4 &&& (3 : Int32))), .val (.int i1), .unset, .unset] [(.int n2), (.ref (own_kind i1 aT aN aK)), (.ref b18), (.ref b18)])) rfl rfl pd_pLcom_example_replay_proof_replayproof_model_Name_Kind_Ir_V rfl rfl (W := 1) (by show 2 * 0 + _ ≤ _; exact Nat.le_of_eq rfl) at_106 (by decide) (by decide) (by decide) (by decide) ?_
        intro v20 T20 h20 X20 q20
        obtain ⟨rfl, K20, E20, Fk20, Fn20⟩ := q20
        show OFin _ _ _ _ _ _ _ _ T20 (mkF m 109 #[.val (.int p0), .val (.int p1), .val (.int p2), .val (.int p3), .val (.int p4), .val (.int p5), .val (.int i1), .val (.int i2), .val (.int n1), .val (.int n2), .val (.ref b3), .val (.int (p4 &&& (3 : Int32))), .val (.int i1), .unset, .unset] [(.ref b18)])
        have O20 := O18.keep K20 (allS hn18 all0)
        have Ex := A3.keep K5 |>.ext E18 |>.keep K20
        have ne : b3 ≠ b18 := by rw [gb18]; exact Nat.ne_of_lt E5.lt
        have Gk := (Fk5.ext E18).keep K20 (ninS ne nin0)
        have Gn := (Fn5.ext E18).keep K20 (ninS ne nin0)
        have hk := own_kinj q1 q2 q3 r1 r1
        refine X20.step (fun hA hx hq t k => XS.astore hA hx rfl (hb hq at_109) rfl rfl (l' := #[.val (.int p0), .val (.int p1), .val (.int p2), .val (.int p3), .val (.int p4), .val (.int p5), .val (.int i1), .val (.int i2), .val (.int n1), .val (.int n2), .val (.ref b3), .val (.int (p4 &&& (3 : Int32))), .val (.int i1), .val (.ref b18), .unset]) rfl k) ?_
        show OFin _ _ _ _ _ _ _ _ T20 (mkF m 111 #[.val (.int p0), .val (.int p1), .val (.int p2), .val (.int p3), .val (.int p4), .val (.int p5), .val (.int i1), .val (.int i2), .val (.int n1), .val (.int n2), .val (.ref b3), .val (.int (p4 &&& (3 : Int32))), .val (.int i1), .val (.ref b18), .unset] [])
        refine X20.step (fun hA hx hq t k => XS.iload hA hx rfl (hb hq at_111) rfl k) ?_
        show OFin _ _ _ _ _ _ _ _ T20 (mkF m 113 #[.val (.int p0), .val (.int p1), .val (.int p2), .val (.int p3), .val (.int p4), .val (.int p5), .val (.int i1), .val (.int i2), .val (.int n1), .val (.int n2), .val (.ref b3), .val (.int (p4 &&& (3 : Int32))), .val (.int i1), .val (.ref b18), .unset] [(.int i1)])
        refine X20.step (fun hA hx hq t k => XS.iload hA hx rfl (hb hq at_113) rfl k) ?_
        show OFin _ _ _ _ _ _ _ _ T20 (mkF m 115 #[.val (.int p0), .val (.int p1), .val (.int p2), .val (.int p3), .val (.int p4), .val (.int p5), .val (.int i1), .val (.int i2), .val (.int n1), .val (.int n2), .val (.ref b3), .val (.int (p4 &&& (3 : Int32))), .val (.int i1), .val (.ref b18), .unset] [(.int i1), (.int i1)])
        refine X20.step (fun hA hx hq t k => XS.icmpNo hA hx rfl (hb hq at_115) rfl (teq ((rfl : i1 = i1))).2 k) ?_
        show OFin _ _ _ _ _ _ _ _ T20 (mkF m 118 #[.val (.int p0), .val (.int p1), .val (.int p2), .val (.int p3), .val (.int p4), .val (.int p5), .val (.int i1), .val (.int i2), .val (.int n1), .val (.int n2), .val (.ref b3), .val (.int (p4 &&& (3 : Int32))), .val (.int i1), .val (.ref b18), .unset] [])
        refine X20.step (fun hA hx hq t k => XS.iload hA hx rfl (hb hq at_118) rfl k) ?_
        show OFin _ _ _ _ _ _ _ _ T20 (mkF m 120 #[.val (.int p0), .val (.int p1), .val (.int p2), .val (.int p3), .val (.int p4), .val (.int p5), .val (.int i1), .val (.int i2), .val (.int n1), .val (.int n2), .val (.ref b3), .val (.int (p4 &&& (3 : Int32))), .val (.int i1), .val (.ref b18), .unset] [(.int n1)])
        refine X20.step (fun hA hx hq t k => XS.iload hA hx rfl (hb hq at_120) rfl k) ?_
        show OFin _ _ _ _ _ _ _ _ T20 (mkF m 122 #[.val (.int p0), .val (.int p1), .val (.int p2), .val (.int p3), .val (.int p4), .val (.int p5), .val (.int i1), .val (.int i2), .val (.int n1), .val (.int n2), .val (.ref b3), .val (.int (p4 &&& (3 : Int32))), .val (.int i1), .val (.ref b18), .unset] [(.int n2), (.int n1)])
        by_cases d2 : n1 = n2
        · refine X20.step (fun hA hx hq t k => XS.icmpNo hA hx rfl (hb hq at_122) rfl (teq (d2)).2 k) ?_
          show OFin _ _ _ _ _ _ _ _ T20 (mkF m 125 #[.val (.int p0), .val (.int p1), .val (.int p2), .val (.int p3), .val (.int p4), .val (.int p5), .val (.int i1), .val (.int i2), .val (.int n1), .val (.int n2), .val (.ref b3), .val (.int (p4 &&& (3 : Int32))), .val (.int i1), .val (.ref b18), .unset] [])
          refine X20.step (fun hA hx hq t k => XS.iconst hA hx rfl (hb hq at_125) k) ?_
          show OFin _ _ _ _ _ _ _ _ T20 (mkF m 126 #[.val (.int p0), .val (.int p1), .val (.int p2), .val (.int p3), .val (.int p4), .val (.int p5), .val (.int i1), .val (.int i2), .val (.int n1), .val (.int n2), .val (.ref b3), .val (.int (p4 &&& (3 : Int32))), .val (.int i1), .val (.ref b18), .unset] [(.int (1 : Int32))])
          refine X20.step (fun hA hx hq t k => XS.goto hA hx rfl (pc0 := 126) (pc' := 130) rfl (hb hq at_126) (by decide) (by decide) k) ?_
          show OFin _ _ _ _ _ _ _ _ T20 (mkF m 130 #[.val (.int p0), .val (.int p1), .val (.int p2), .val (.int p3), .val (.int p4), .val (.int p5), .val (.int i1), .val (.int i2), .val (.int n1), .val (.int n2), .val (.ref b3), .val (.int (p4 &&& (3 : Int32))), .val (.int i1), .val (.ref b18), .unset] [(.int (1 : Int32))])
          refine X20.step (fun hA hx hq t k => XS.istore hA hx rfl (hb hq at_130) rfl (l' := #[.val (.int p0), .val (.int p1), .val (.int p2), .val (.int p3), .val (.int p4), .val (.int p5), .val (.int i1), .val (.int i2), .val (.int n1), .val (.int n2), .val (.ref b3), .val (.int (p4 &&& (3 : Int32))), .val (.int i1), .val (.ref b18), .val (.int (1 : Int32))]) rfl k) ?_
          show OFin _ _ _ _ _ _ _ _ T20 (mkF m 132 #[.val (.int p0), .val (.int p1), .val (.int p2), .val (.int p3), .val (.int p4), .val (.int p5), .val (.int i1), .val (.int i2), .val (.int n1), .val (.int n2), .val (.ref b3), .val (.int (p4 &&& (3 : Int32))), .val (.int i1), .val (.ref b18), .val (.int (1 : Int32))] [])
          refine X20.step (fun hA hx hq t k => XS.aload hA hx rfl (hb hq at_132) rfl rfl k) ?_
          show OFin _ _ _ _ _ _ _ _ T20 (mkF m 134 #[.val (.int p0), .val (.int p1), .val (.int p2), .val (.int p3), .val (.int p4), .val (.int p5), .val (.int i1), .val (.int i2), .val (.int n1), .val (.int n2), .val (.ref b3), .val (.int (p4 &&& (3 : Int32))), .val (.int i1), .val (.ref b18), .val (.int (1 : Int32))] [(.ref b3)])
          refine X20.step (fun hA hx hq t k => XS.aload hA hx rfl (hb hq at_134) rfl rfl k) ?_
          show OFin _ _ _ _ _ _ _ _ T20 (mkF m 136 #[.val (.int p0), .val (.int p1), .val (.int p2), .val (.int p3), .val (.int p4), .val (.int p5), .val (.int i1), .val (.int i2), .val (.int n1), .val (.int n2), .val (.ref b3), .val (.int (p4 &&& (3 : Int32))), .val (.int i1), .val (.ref b18), .val (.int (1 : Int32))] [(.ref b18), (.ref b3)])
          refine X20.callV (y' := (⟨"com/example/replay_proof/replayproof/model/IntruderValue", "equals", "(Ljava/lang/Object;)Z"⟩ : MethodName)) (z' := (⟨"com/example/replay_proof/replayproof/model/IntruderValue", "equals", "(Ljava/lang/Object;)Z"⟩ : MethodName)) (hw _ (List.mem_of_getElem? (i := 39) rfl)) (hw _ (List.mem_of_getElem? (i := 40) rfl)) (X20.notFace (hw _ (List.mem_of_getElem? (i := 42) rfl)) rfl) (hw _ (List.mem_of_getElem? (i := 42) rfl)) (hw _ (List.mem_of_getElem? (i := 41) rfl)) (hw _ (List.mem_of_getElem? (i := 7) rfl)) (hw _ (List.mem_of_getElem? (i := 43) rfl)) (by decide) Ex (argsL := [(.ref b18)]) (rest := []) (rm6 l Z a0 hw b3 b18 (own_kind i1 aT aN aK) (own_kind i1 aT aN aK) n1 n2 h20 n0 Gk Gn Fk20 Fn20 E20) (g := (mkF m 136 #[.val (.int p0), .val (.int p1), .val (.int p2), .val (.int p3), .val (.int p4), .val (.int p5), .val (.int i1), .val (.int i2), .val (.int n1), .val (.int n2), .val (.ref b3), .val (.int (p4 &&& (3 : Int32))), .val (.int i1), .val (.ref b18), .val (.int (1 : Int32))] [(.ref b18), (.ref b3)])) rfl rfl pd_pLjava_lang_Object_r_Z rfl rfl (W := 0) (by show 2 * 0 + _ ≤ _; exact Nat.le_of_eq rfl) at_136 (by decide) (by decide) (by decide) (by decide) ?_
          intro v24 T24 h24 X24 q24
          obtain ⟨rfl, rfl⟩ := q24
          show OFin _ _ _ _ _ _ _ _ T24 (mkF m 139 #[.val (.int p0), .val (.int p1), .val (.int p2), .val (.int p3), .val (.int p4), .val (.int p5), .val (.int i1), .val (.int i2), .val (.int n1), .val (.int n2), .val (.ref b3), .val (.int (p4 &&& (3 : Int32))), .val (.int i1), .val (.ref b18), .val (.int (1 : Int32))] [(.int (if (own_kind i1 aT aN aK) = (own_kind i1 aT aN aK) ∧ n1 = n2 then 1 else 0 : Int32))])
          refine X24.step (fun hA hx hq t k => XS.iload hA hx rfl (hb hq at_139) rfl k) ?_
          show OFin _ _ _ _ _ _ _ _ T24 (mkF m 141 #[.val (.int p0), .val (.int p1), .val (.int p2), .val (.int p3), .val (.int p4), .val (.int p5), .val (.int i1), .val (.int i2), .val (.int n1), .val (.int n2), .val (.ref b3), .val (.int (p4 &&& (3 : Int32))), .val (.int i1), .val (.ref b18), .val (.int (1 : Int32))] [(.int (1 : Int32)), (.int (if (own_kind i1 aT aN aK) = (own_kind i1 aT aN aK) ∧ n1 = n2 then 1 else 0 : Int32))])
          refine X24.step (fun hA hx hq t k => XS.icmpNo hA hx rfl (hb hq at_141) rfl (teq (if_pos ⟨hk.mpr rfl, d2⟩)).2 k) ?_
          show OFin _ _ _ _ _ _ _ _ T24 (mkF m 144 #[.val (.int p0), .val (.int p1), .val (.int p2), .val (.int p3), .val (.int p4), .val (.int p5), .val (.int i1), .val (.int i2), .val (.int n1), .val (.int n2), .val (.ref b3), .val (.int (p4 &&& (3 : Int32))), .val (.int i1), .val (.ref b18), .val (.int (1 : Int32))] [])
          refine X24.step (fun hA hx hq t k => XS.aload hA hx rfl (hb hq at_144) rfl rfl k) ?_
          show OFin _ _ _ _ _ _ _ _ T24 (mkF m 146 #[.val (.int p0), .val (.int p1), .val (.int p2), .val (.int p3), .val (.int p4), .val (.int p5), .val (.int i1), .val (.int i2), .val (.int n1), .val (.int n2), .val (.ref b3), .val (.int (p4 &&& (3 : Int32))), .val (.int i1), .val (.ref b18), .val (.int (1 : Int32))] [(.ref b18)])
          refine X24.step (fun hA hx hq t k => XS.aload hA hx rfl (hb hq at_146) rfl rfl k) ?_
          show OFin _ _ _ _ _ _ _ _ T24 (mkF m 148 #[.val (.int p0), .val (.int p1), .val (.int p2), .val (.int p3), .val (.int p4), .val (.int p5), .val (.int i1), .val (.int i2), .val (.int n1), .val (.int n2), .val (.ref b3), .val (.int (p4 &&& (3 : Int32))), .val (.int i1), .val (.ref b18), .val (.int (1 : Int32))] [(.ref b3), (.ref b18)])
          refine X24.callV (y' := (⟨"com/example/replay_proof/replayproof/model/IntruderValue", "equals", "(Ljava/lang/Object;)Z"⟩ : MethodName)) (z' := (⟨"com/example/replay_proof/replayproof/model/IntruderValue", "equals", "(Ljava/lang/Object;)Z"⟩ : MethodName)) (hw _ (List.mem_of_getElem? (i := 39) rfl)) (hw _ (List.mem_of_getElem? (i := 40) rfl)) (X24.notFace (hw _ (List.mem_of_getElem? (i := 42) rfl)) rfl) (hw _ (List.mem_of_getElem? (i := 42) rfl)) (hw _ (List.mem_of_getElem? (i := 41) rfl)) (hw _ (List.mem_of_getElem? (i := 7) rfl)) (hw _ (List.mem_of_getElem? (i := 43) rfl)) (by decide) E20 (argsL := [(.ref b3)]) (rest := []) (rm6 l Z a0 hw b18 b3 (own_kind i1 aT aN aK) (own_kind i1 aT aN aK) n2 n1 h20 n0 Fk20 Fn20 Gk Gn Ex) (g := (mkF m 148 #[.val (.int p0), .val (.int p1), .val (.int p2), .val (.int p3), .val (.int p4), .val (.int p5), .val (.int i1), .val (.int i2), .val (.int n1), .val (.int n2), .val (.ref b3), .val (.int (p4 &&& (3 : Int32))), .val (.int i1), .val (.ref b18), .val (.int (1 : Int32))] [(.ref b3), (.ref b18)])) rfl rfl pd_pLjava_lang_Object_r_Z rfl rfl (W := 0) (by show 2 * 0 + _ ≤ _; exact Nat.le_of_eq rfl) at_148 (by decide) (by decide) (by decide) (by decide) ?_
          intro v25 T25 h25 X25 q25
          obtain ⟨rfl, rfl⟩ := q25
          show OFin _ _ _ _ _ _ _ _ T25 (mkF m 151 #[.val (.int p0), .val (.int p1), .val (.int p2), .val (.int p3), .val (.int p4), .val (.int p5), .val (.int i1), .val (.int i2), .val (.int n1), .val (.int n2), .val (.ref b3), .val (.int (p4 &&& (3 : Int32))), .val (.int i1), .val (.ref b18), .val (.int (1 : Int32))] [(.int (if (own_kind i1 aT aN aK) = (own_kind i1 aT aN aK) ∧ n2 = n1 then 1 else 0 : Int32))])
          refine X25.step (fun hA hx hq t k => XS.iload hA hx rfl (hb hq at_151) rfl k) ?_
          show OFin _ _ _ _ _ _ _ _ T25 (mkF m 153 #[.val (.int p0), .val (.int p1), .val (.int p2), .val (.int p3), .val (.int p4), .val (.int p5), .val (.int i1), .val (.int i2), .val (.int n1), .val (.int n2), .val (.ref b3), .val (.int (p4 &&& (3 : Int32))), .val (.int i1), .val (.ref b18), .val (.int (1 : Int32))] [(.int (1 : Int32)), (.int (if (own_kind i1 aT aN aK) = (own_kind i1 aT aN aK) ∧ n2 = n1 then 1 else 0 : Int32))])
          refine X25.step (fun hA hx hq t k => XS.icmpNo hA hx rfl (hb hq at_153) rfl (teq (if_pos ⟨(hk.mpr rfl).symm, d2.symm⟩)).2 k) ?_
          show OFin _ _ _ _ _ _ _ _ T25 (mkF m 156 #[.val (.int p0), .val (.int p1), .val (.int p2), .val (.int p3), .val (.int p4), .val (.int p5), .val (.int i1), .val (.int i2), .val (.int n1), .val (.int n2), .val (.ref b3), .val (.int (p4 &&& (3 : Int32))), .val (.int i1), .val (.ref b18), .val (.int (1 : Int32))] [])
          refine X25.step (fun hA hx hq t k => XS.aload hA hx rfl (hb hq at_156) rfl rfl k) ?_
          show OFin _ _ _ _ _ _ _ _ T25 (mkF m 158 #[.val (.int p0), .val (.int p1), .val (.int p2), .val (.int p3), .val (.int p4), .val (.int p5), .val (.int i1), .val (.int i2), .val (.int n1), .val (.int n2), .val (.ref b3), .val (.int (p4 &&& (3 : Int32))), .val (.int i1), .val (.ref b18), .val (.int (1 : Int32))] [(.ref b3)])
          refine X25.step (fun hA hx hq t k => XS.aload hA hx rfl (hb hq at_158) rfl rfl k) ?_
          show OFin _ _ _ _ _ _ _ _ T25 (mkF m 160 #[.val (.int p0), .val (.int p1), .val (.int p2), .val (.int p3), .val (.int p4), .val (.int p5), .val (.int i1), .val (.int i2), .val (.int n1), .val (.int n2), .val (.ref b3), .val (.int (p4 &&& (3 : Int32))), .val (.int i1), .val (.ref b18), .val (.int (1 : Int32))] [(.ref b3), (.ref b3)])
          refine X25.callV (y' := (⟨"com/example/replay_proof/replayproof/model/IntruderValue", "equals", "(Ljava/lang/Object;)Z"⟩ : MethodName)) (z' := (⟨"com/example/replay_proof/replayproof/model/IntruderValue", "equals", "(Ljava/lang/Object;)Z"⟩ : MethodName)) (hw _ (List.mem_of_getElem? (i := 39) rfl)) (hw _ (List.mem_of_getElem? (i := 40) rfl)) (X25.notFace (hw _ (List.mem_of_getElem? (i := 42) rfl)) rfl) (hw _ (List.mem_of_getElem? (i := 42) rfl)) (hw _ (List.mem_of_getElem? (i := 41) rfl)) (hw _ (List.mem_of_getElem? (i := 7) rfl)) (hw _ (List.mem_of_getElem? (i := 43) rfl)) (by decide) Ex (argsL := [(.ref b3)]) (rest := []) (rm6 l Z a0 hw b3 b3 (own_kind i1 aT aN aK) (own_kind i1 aT aN aK) n1 n1 h20 n0 Gk Gn Gk Gn Ex) (g := (mkF m 160 #[.val (.int p0), .val (.int p1), .val (.int p2), .val (.int p3), .val (.int p4), .val (.int p5), .val (.int i1), .val (.int i2), .val (.int n1), .val (.int n2), .val (.ref b3), .val (.int (p4 &&& (3 : Int32))), .val (.int i1), .val (.ref b18), .val (.int (1 : Int32))] [(.ref b3), (.ref b3)])) rfl rfl pd_pLjava_lang_Object_r_Z rfl rfl (W := 0) (by show 2 * 0 + _ ≤ _; exact Nat.le_of_eq rfl) at_160 (by decide) (by decide) (by decide) (by decide) ?_
          intro v26 T26 h26 X26 q26
          obtain ⟨rfl, rfl⟩ := q26
          show OFin _ _ _ _ _ _ _ _ T26 (mkF m 163 #[.val (.int p0), .val (.int p1), .val (.int p2), .val (.int p3), .val (.int p4), .val (.int p5), .val (.int i1), .val (.int i2), .val (.int n1), .val (.int n2), .val (.ref b3), .val (.int (p4 &&& (3 : Int32))), .val (.int i1), .val (.ref b18), .val (.int (1 : Int32))] [(.int (if (own_kind i1 aT aN aK) = (own_kind i1 aT aN aK) ∧ n1 = n1 then 1 else 0 : Int32))])
          refine X26.step (fun hA hx hq t k => XS.ifNo hA hx rfl (hb hq at_163) rfl ((if0 _ _).trans (feq ((by rw [if_pos ⟨rfl, rfl⟩]; decide))).1) k) ?_
          show OFin _ _ _ _ _ _ _ _ T26 (mkF m 166 #[.val (.int p0), .val (.int p1), .val (.int p2), .val (.int p3), .val (.int p4), .val (.int p5), .val (.int i1), .val (.int i2), .val (.int n1), .val (.int n2), .val (.ref b3), .val (.int (p4 &&& (3 : Int32))), .val (.int i1), .val (.ref b18), .val (.int (1 : Int32))] [])
          refine X26.step (fun hA hx hq t k => XS.iconst hA hx rfl (hb hq at_166) k) ?_
          show OFin _ _ _ _ _ _ _ _ T26 (mkF m 167 #[.val (.int p0), .val (.int p1), .val (.int p2), .val (.int p3), .val (.int p4), .val (.int p5), .val (.int i1), .val (.int i2), .val (.int n1), .val (.int n2), .val (.ref b3), .val (.int (p4 &&& (3 : Int32))), .val (.int i1), .val (.ref b18), .val (.int (1 : Int32))] [(.int (1 : Int32))])
          refine X26.step (fun hA hx hq t k => XS.goto hA hx rfl (pc0 := 167) (pc' := 171) rfl (hb hq at_167) (by decide) (by decide) k) ?_
          show OFin _ _ _ _ _ _ _ _ T26 (mkF m 171 #[.val (.int p0), .val (.int p1), .val (.int p2), .val (.int p3), .val (.int p4), .val (.int p5), .val (.int i1), .val (.int i2), .val (.int n1), .val (.int n2), .val (.ref b3), .val (.int (p4 &&& (3 : Int32))), .val (.int i1), .val (.ref b18), .val (.int (1 : Int32))] [(.int (1 : Int32))])
          exact X26.retN (by simp) at_171 (by decide) (by decide) (rfl)
        · refine X20.step (fun hA hx hq t k => XS.icmpYes hA hx rfl (pc0 := 122) (pc' := 129) rfl (hb hq at_122) rfl (feq (d2)).2 (by decide) (by decide) k) ?_
          show OFin _ _ _ _ _ _ _ _ T20 (mkF m 129 #[.val (.int p0), .val (.int p1), .val (.int p2), .val (.int p3), .val (.int p4), .val (.int p5), .val (.int i1), .val (.int i2), .val (.int n1), .val (.int n2), .val (.ref b3), .val (.int (p4 &&& (3 : Int32))), .val (.int i1), .val (.ref b18), .unset] [])
          refine X20.step (fun hA hx hq t k => XS.iconst hA hx rfl (hb hq at_129) k) ?_
          show OFin _ _ _ _ _ _ _ _ T20 (mkF m 130 #[.val (.int p0), .val (.int p1), .val (.int p2), .val (.int p3), .val (.int p4), .val (.int p5), .val (.int i1), .val (.int i2), .val (.int n1), .val (.int n2), .val (.ref b3), .val (.int (p4 &&& (3 : Int32))), .val (.int i1), .val (.ref b18), .unset] [(.int (0 : Int32))])
          refine X20.step (fun hA hx hq t k => XS.istore hA hx rfl (hb hq at_130) rfl (l' := #[.val (.int p0), .val (.int p1), .val (.int p2), .val (.int p3), .val (.int p4), .val (.int p5), .val (.int i1), .val (.int i2), .val (.int n1), .val (.int n2), .val (.ref b3), .val (.int (p4 &&& (3 : Int32))), .val (.int i1), .val (.ref b18), .val (.int (0 : Int32))]) rfl k) ?_
          show OFin _ _ _ _ _ _ _ _ T20 (mkF m 132 #[.val (.int p0), .val (.int p1), .val (.int p2), .val (.int p3), .val (.int p4), .val (.int p5), .val (.int i1), .val (.int i2), .val (.int n1), .val (.int n2), .val (.ref b3), .val (.int (p4 &&& (3 : Int32))), .val (.int i1), .val (.ref b18), .val (.int (0 : Int32))] [])
          refine X20.step (fun hA hx hq t k => XS.aload hA hx rfl (hb hq at_132) rfl rfl k) ?_
          show OFin _ _ _ _ _ _ _ _ T20 (mkF m 134 #[.val (.int p0), .val (.int p1), .val (.int p2), .val (.int p3), .val (.int p4), .val (.int p5), .val (.int i1), .val (.int i2), .val (.int n1), .val (.int n2), .val (.ref b3), .val (.int (p4 &&& (3 : Int32))), .val (.int i1), .val (.ref b18), .val (.int (0 : Int32))] [(.ref b3)])
          refine X20.step (fun hA hx hq t k => XS.aload hA hx rfl (hb hq at_134) rfl rfl k) ?_
          show OFin _ _ _ _ _ _ _ _ T20 (mkF m 136 #[.val (.int p0), .val (.int p1), .val (.int p2), .val (.int p3), .val (.int p4), .val (.int p5), .val (.int i1), .val (.int i2), .val (.int n1), .val (.int n2), .val (.ref b3), .val (.int (p4 &&& (3 : Int32))), .val (.int i1), .val (.ref b18), .val (.int (0 : Int32))] [(.ref b18), (.ref b3)])
          refine X20.callV (y' := (⟨"com/example/replay_proof/replayproof/model/IntruderValue", "equals", "(Ljava/lang/Object;)Z"⟩ : MethodName)) (z' := (⟨"com/example/replay_proof/replayproof/model/IntruderValue", "equals", "(Ljava/lang/Object;)Z"⟩ : MethodName)) (hw _ (List.mem_of_getElem? (i := 39) rfl)) (hw _ (List.mem_of_getElem? (i := 40) rfl)) (X20.notFace (hw _ (List.mem_of_getElem? (i := 42) rfl)) rfl) (hw _ (List.mem_of_getElem? (i := 42) rfl)) (hw _ (List.mem_of_getElem? (i := 41) rfl)) (hw _ (List.mem_of_getElem? (i := 7) rfl)) (hw _ (List.mem_of_getElem? (i := 43) rfl)) (by decide) Ex (argsL := [(.ref b18)]) (rest := []) (rm6 l Z a0 hw b3 b18 (own_kind i1 aT aN aK) (own_kind i1 aT aN aK) n1 n2 h20 n0 Gk Gn Fk20 Fn20 E20) (g := (mkF m 136 #[.val (.int p0), .val (.int p1), .val (.int p2), .val (.int p3), .val (.int p4), .val (.int p5), .val (.int i1), .val (.int i2), .val (.int n1), .val (.int n2), .val (.ref b3), .val (.int (p4 &&& (3 : Int32))), .val (.int i1), .val (.ref b18), .val (.int (0 : Int32))] [(.ref b18), (.ref b3)])) rfl rfl pd_pLjava_lang_Object_r_Z rfl rfl (W := 0) (by show 2 * 0 + _ ≤ _; exact Nat.le_of_eq rfl) at_136 (by decide) (by decide) (by decide) (by decide) ?_
          intro v21 T21 h21 X21 q21
          obtain ⟨rfl, rfl⟩ := q21
          show OFin _ _ _ _ _ _ _ _ T21 (mkF m 139 #[.val (.int p0), .val (.int p1), .val (.int p2), .val (.int p3), .val (.int p4), .val (.int p5), .val (.int i1), .val (.int i2), .val (.int n1), .val (.int n2), .val (.ref b3), .val (.int (p4 &&& (3 : Int32))), .val (.int i1), .val (.ref b18), .val (.int (0 : Int32))] [(.int (if (own_kind i1 aT aN aK) = (own_kind i1 aT aN aK) ∧ n1 = n2 then 1 else 0 : Int32))])
          refine X21.step (fun hA hx hq t k => XS.iload hA hx rfl (hb hq at_139) rfl k) ?_
          show OFin _ _ _ _ _ _ _ _ T21 (mkF m 141 #[.val (.int p0), .val (.int p1), .val (.int p2), .val (.int p3), .val (.int p4), .val (.int p5), .val (.int i1), .val (.int i2), .val (.int n1), .val (.int n2), .val (.ref b3), .val (.int (p4 &&& (3 : Int32))), .val (.int i1), .val (.ref b18), .val (.int (0 : Int32))] [(.int (0 : Int32)), (.int (if (own_kind i1 aT aN aK) = (own_kind i1 aT aN aK) ∧ n1 = n2 then 1 else 0 : Int32))])
          refine X21.step (fun hA hx hq t k => XS.icmpNo hA hx rfl (hb hq at_141) rfl (teq (if_neg fun q => d2 q.2)).2 k) ?_
          show OFin _ _ _ _ _ _ _ _ T21 (mkF m 144 #[.val (.int p0), .val (.int p1), .val (.int p2), .val (.int p3), .val (.int p4), .val (.int p5), .val (.int i1), .val (.int i2), .val (.int n1), .val (.int n2), .val (.ref b3), .val (.int (p4 &&& (3 : Int32))), .val (.int i1), .val (.ref b18), .val (.int (0 : Int32))] [])
          refine X21.step (fun hA hx hq t k => XS.aload hA hx rfl (hb hq at_144) rfl rfl k) ?_
          show OFin _ _ _ _ _ _ _ _ T21 (mkF m 146 #[.val (.int p0), .val (.int p1), .val (.int p2), .val (.int p3), .val (.int p4), .val (.int p5), .val (.int i1), .val (.int i2), .val (.int n1), .val (.int n2), .val (.ref b3), .val (.int (p4 &&& (3 : Int32))), .val (.int i1), .val (.ref b18), .val (.int (0 : Int32))] [(.ref b18)])
          refine X21.step (fun hA hx hq t k => XS.aload hA hx rfl (hb hq at_146) rfl rfl k) ?_
          show OFin _ _ _ _ _ _ _ _ T21 (mkF m 148 #[.val (.int p0), .val (.int p1), .val (.int p2), .val (.int p3), .val (.int p4), .val (.int p5), .val (.int i1), .val (.int i2), .val (.int n1), .val (.int n2), .val (.ref b3), .val (.int (p4 &&& (3 : Int32))), .val (.int i1), .val (.ref b18), .val (.int (0 : Int32))] [(.ref b3), (.ref b18)])
          refine X21.callV (y' := (⟨"com/example/replay_proof/replayproof/model/IntruderValue", "equals", "(Ljava/lang/Object;)Z"⟩ : MethodName)) (z' := (⟨"com/example/replay_proof/replayproof/model/IntruderValue", "equals", "(Ljava/lang/Object;)Z"⟩ : MethodName)) (hw _ (List.mem_of_getElem? (i := 39) rfl)) (hw _ (List.mem_of_getElem? (i := 40) rfl)) (X21.notFace (hw _ (List.mem_of_getElem? (i := 42) rfl)) rfl) (hw _ (List.mem_of_getElem? (i := 42) rfl)) (hw _ (List.mem_of_getElem? (i := 41) rfl)) (hw _ (List.mem_of_getElem? (i := 7) rfl)) (hw _ (List.mem_of_getElem? (i := 43) rfl)) (by decide) E20 (argsL := [(.ref b3)]) (rest := []) (rm6 l Z a0 hw b18 b3 (own_kind i1 aT aN aK) (own_kind i1 aT aN aK) n2 n1 h20 n0 Fk20 Fn20 Gk Gn Ex) (g := (mkF m 148 #[.val (.int p0), .val (.int p1), .val (.int p2), .val (.int p3), .val (.int p4), .val (.int p5), .val (.int i1), .val (.int i2), .val (.int n1), .val (.int n2), .val (.ref b3), .val (.int (p4 &&& (3 : Int32))), .val (.int i1), .val (.ref b18), .val (.int (0 : Int32))] [(.ref b3), (.ref b18)])) rfl rfl pd_pLjava_lang_Object_r_Z rfl rfl (W := 0) (by show 2 * 0 + _ ≤ _; exact Nat.le_of_eq rfl) at_148 (by decide) (by decide) (by decide) (by decide) ?_
          intro v22 T22 h22 X22 q22
          obtain ⟨rfl, rfl⟩ := q22
          show OFin _ _ _ _ _ _ _ _ T22 (mkF m 151 #[.val (.int p0), .val (.int p1), .val (.int p2), .val (.int p3), .val (.int p4), .val (.int p5), .val (.int i1), .val (.int i2), .val (.int n1), .val (.int n2), .val (.ref b3), .val (.int (p4 &&& (3 : Int32))), .val (.int i1), .val (.ref b18), .val (.int (0 : Int32))] [(.int (if (own_kind i1 aT aN aK) = (own_kind i1 aT aN aK) ∧ n2 = n1 then 1 else 0 : Int32))])
          refine X22.step (fun hA hx hq t k => XS.iload hA hx rfl (hb hq at_151) rfl k) ?_
          show OFin _ _ _ _ _ _ _ _ T22 (mkF m 153 #[.val (.int p0), .val (.int p1), .val (.int p2), .val (.int p3), .val (.int p4), .val (.int p5), .val (.int i1), .val (.int i2), .val (.int n1), .val (.int n2), .val (.ref b3), .val (.int (p4 &&& (3 : Int32))), .val (.int i1), .val (.ref b18), .val (.int (0 : Int32))] [(.int (0 : Int32)), (.int (if (own_kind i1 aT aN aK) = (own_kind i1 aT aN aK) ∧ n2 = n1 then 1 else 0 : Int32))])
          refine X22.step (fun hA hx hq t k => XS.icmpNo hA hx rfl (hb hq at_153) rfl (teq (if_neg fun q => d2 q.2.symm)).2 k) ?_
          show OFin _ _ _ _ _ _ _ _ T22 (mkF m 156 #[.val (.int p0), .val (.int p1), .val (.int p2), .val (.int p3), .val (.int p4), .val (.int p5), .val (.int i1), .val (.int i2), .val (.int n1), .val (.int n2), .val (.ref b3), .val (.int (p4 &&& (3 : Int32))), .val (.int i1), .val (.ref b18), .val (.int (0 : Int32))] [])
          refine X22.step (fun hA hx hq t k => XS.aload hA hx rfl (hb hq at_156) rfl rfl k) ?_
          show OFin _ _ _ _ _ _ _ _ T22 (mkF m 158 #[.val (.int p0), .val (.int p1), .val (.int p2), .val (.int p3), .val (.int p4), .val (.int p5), .val (.int i1), .val (.int i2), .val (.int n1), .val (.int n2), .val (.ref b3), .val (.int (p4 &&& (3 : Int32))), .val (.int i1), .val (.ref b18), .val (.int (0 : Int32))] [(.ref b3)])
          refine X22.step (fun hA hx hq t k => XS.aload hA hx rfl (hb hq at_158) rfl rfl k) ?_
          show OFin _ _ _ _ _ _ _ _ T22 (mkF m 160 #[.val (.int p0), .val (.int p1), .val (.int p2), .val (.int p3), .val (.int p4), .val (.int p5), .val (.int i1), .val (.int i2), .val (.int n1), .val (.int n2), .val (.ref b3), .val (.int (p4 &&& (3 : Int32))), .val (.int i1), .val (.ref b18), .val (.int (0 : Int32))] [(.ref b3), (.ref b3)])
          refine X22.callV (y' := (⟨"com/example/replay_proof/replayproof/model/IntruderValue", "equals", "(Ljava/lang/Object;)Z"⟩ : MethodName)) (z' := (⟨"com/example/replay_proof/replayproof/model/IntruderValue", "equals", "(Ljava/lang/Object;)Z"⟩ : MethodName)) (hw _ (List.mem_of_getElem? (i := 39) rfl)) (hw _ (List.mem_of_getElem? (i := 40) rfl)) (X22.notFace (hw _ (List.mem_of_getElem? (i := 42) rfl)) rfl) (hw _ (List.mem_of_getElem? (i := 42) rfl)) (hw _ (List.mem_of_getElem? (i := 41) rfl)) (hw _ (List.mem_of_getElem? (i := 7) rfl)) (hw _ (List.mem_of_getElem? (i := 43) rfl)) (by decide) Ex (argsL := [(.ref b3)]) (rest := []) (rm6 l Z a0 hw b3 b3 (own_kind i1 aT aN aK) (own_kind i1 aT aN aK) n1 n1 h20 n0 Gk Gn Gk Gn Ex) (g := (mkF m 160 #[.val (.int p0), .val (.int p1), .val (.int p2), .val (.int p3), .val (.int p4), .val (.int p5), .val (.int i1), .val (.int i2), .val (.int n1), .val (.int n2), .val (.ref b3), .val (.int (p4 &&& (3 : Int32))), .val (.int i1), .val (.ref b18), .val (.int (0 : Int32))] [(.ref b3), (.ref b3)])) rfl rfl pd_pLjava_lang_Object_r_Z rfl rfl (W := 0) (by show 2 * 0 + _ ≤ _; exact Nat.le_of_eq rfl) at_160 (by decide) (by decide) (by decide) (by decide) ?_
          intro v23 T23 h23 X23 q23
          obtain ⟨rfl, rfl⟩ := q23
          show OFin _ _ _ _ _ _ _ _ T23 (mkF m 163 #[.val (.int p0), .val (.int p1), .val (.int p2), .val (.int p3), .val (.int p4), .val (.int p5), .val (.int i1), .val (.int i2), .val (.int n1), .val (.int n2), .val (.ref b3), .val (.int (p4 &&& (3 : Int32))), .val (.int i1), .val (.ref b18), .val (.int (0 : Int32))] [(.int (if (own_kind i1 aT aN aK) = (own_kind i1 aT aN aK) ∧ n1 = n1 then 1 else 0 : Int32))])
          refine X23.step (fun hA hx hq t k => XS.ifNo hA hx rfl (hb hq at_163) rfl ((if0 _ _).trans (feq ((by rw [if_pos ⟨rfl, rfl⟩]; decide))).1) k) ?_
          show OFin _ _ _ _ _ _ _ _ T23 (mkF m 166 #[.val (.int p0), .val (.int p1), .val (.int p2), .val (.int p3), .val (.int p4), .val (.int p5), .val (.int i1), .val (.int i2), .val (.int n1), .val (.int n2), .val (.ref b3), .val (.int (p4 &&& (3 : Int32))), .val (.int i1), .val (.ref b18), .val (.int (0 : Int32))] [])
          refine X23.step (fun hA hx hq t k => XS.iconst hA hx rfl (hb hq at_166) k) ?_
          show OFin _ _ _ _ _ _ _ _ T23 (mkF m 167 #[.val (.int p0), .val (.int p1), .val (.int p2), .val (.int p3), .val (.int p4), .val (.int p5), .val (.int i1), .val (.int i2), .val (.int n1), .val (.int n2), .val (.ref b3), .val (.int (p4 &&& (3 : Int32))), .val (.int i1), .val (.ref b18), .val (.int (0 : Int32))] [(.int (1 : Int32))])
          refine X23.step (fun hA hx hq t k => XS.goto hA hx rfl (pc0 := 167) (pc' := 171) rfl (hb hq at_167) (by decide) (by decide) k) ?_
          show OFin _ _ _ _ _ _ _ _ T23 (mkF m 171 #[.val (.int p0), .val (.int p1), .val (.int p2), .val (.int p3), .val (.int p4), .val (.int p5), .val (.int i1), .val (.int i2), .val (.int n1), .val (.int n2), .val (.ref b3), .val (.int (p4 &&& (3 : Int32))), .val (.int i1), .val (.ref b18), .val (.int (0 : Int32))] [(.int (1 : Int32))])
          exact X23.retN (by simp) at_171 (by decide) (by decide) (rfl)
      · refine X5.step (fun hA hx hq t k => XS.icmpYes hA hx rfl (pc0 := 78) (pc' := 172) rfl (hb hq at_78) rfl (feq (c2)).2 (by decide) (by decide) k) ?_
        show OFin _ _ _ _ _ _ _ _ T5 (mkF m 172 #[.val (.int p0), .val (.int p1), .val (.int p2), .val (.int p3), .val (.int p4), .val (.int p5), .val (.int i1), .val (.int i2), .val (.int n1), .val (.int n2), .val (.ref b3), .val (.int (p4 &&& (3 : Int32))), .unset, .unset, .unset] [])
        refine X5.step (fun hA hx hq t k => XS.iload hA hx rfl (hb hq at_172) rfl k) ?_
        show OFin _ _ _ _ _ _ _ _ T5 (mkF m 174 #[.val (.int p0), .val (.int p1), .val (.int p2), .val (.int p3), .val (.int p4), .val (.int p5), .val (.int i1), .val (.int i2), .val (.int n1), .val (.int n2), .val (.ref b3), .val (.int (p4 &&& (3 : Int32))), .unset, .unset, .unset] [(.int (p4 &&& (3 : Int32)))])
        refine X5.step (fun hA hx hq t k => XS.iconst hA hx rfl (hb hq at_174) k) ?_
        show OFin _ _ _ _ _ _ _ _ T5 (mkF m 175 #[.val (.int p0), .val (.int p1), .val (.int p2), .val (.int p3), .val (.int p4), .val (.int p5), .val (.int i1), .val (.int i2), .val (.int n1), .val (.int n2), .val (.ref b3), .val (.int (p4 &&& (3 : Int32))), .unset, .unset, .unset] [(.int (2 : Int32)), (.int (p4 &&& (3 : Int32)))])
        by_cases c3 : (p4 &&& (3 : Int32)) = (2 : Int32)
        · refine X5.step (fun hA hx hq t k => XS.icmpNo hA hx rfl (hb hq at_175) rfl (teq (c3)).2 k) ?_
          show OFin _ _ _ _ _ _ _ _ T5 (mkF m 178 #[.val (.int p0), .val (.int p1), .val (.int p2), .val (.int p3), .val (.int p4), .val (.int p5), .val (.int i1), .val (.int i2), .val (.int n1), .val (.int n2), .val (.ref b3), .val (.int (p4 &&& (3 : Int32))), .unset, .unset, .unset] [])
          refine X5.step (fun hA hx hq t k => XS.aload hA hx rfl (hb hq at_178) rfl rfl k) ?_
          show OFin _ _ _ _ _ _ _ _ T5 (mkF m 180 #[.val (.int p0), .val (.int p1), .val (.int p2), .val (.int p3), .val (.int p4), .val (.int p5), .val (.int i1), .val (.int i2), .val (.int n1), .val (.int n2), .val (.ref b3), .val (.int (p4 &&& (3 : Int32))), .unset, .unset, .unset] [(.ref b3)])
          refine X5.step (fun hA hx hq t k => XS.aconstNull hA hx rfl (hb hq at_180) k) ?_
          show OFin _ _ _ _ _ _ _ _ T5 (mkF m 181 #[.val (.int p0), .val (.int p1), .val (.int p2), .val (.int p3), .val (.int p4), .val (.int p5), .val (.int i1), .val (.int i2), .val (.int n1), .val (.int n2), .val (.ref b3), .val (.int (p4 &&& (3 : Int32))), .unset, .unset, .unset] [.null, (.ref b3)])
          refine X5.callV (y' := (⟨"com/example/replay_proof/replayproof/model/IntruderValue", "equals", "(Ljava/lang/Object;)Z"⟩ : MethodName)) (z' := (⟨"com/example/replay_proof/replayproof/model/IntruderValue", "equals", "(Ljava/lang/Object;)Z"⟩ : MethodName)) (hw _ (List.mem_of_getElem? (i := 39) rfl)) (hw _ (List.mem_of_getElem? (i := 40) rfl)) (X5.notFace (hw _ (List.mem_of_getElem? (i := 42) rfl)) rfl) (hw _ (List.mem_of_getElem? (i := 42) rfl)) (hw _ (List.mem_of_getElem? (i := 41) rfl)) (hw _ (List.mem_of_getElem? (i := 7) rfl)) (hw _ (List.mem_of_getElem? (i := 43) rfl)) (by decide) E5 (argsL := [.null]) (rest := []) (rm7 l Z a0 hw b3 h5 n0) (g := (mkF m 181 #[.val (.int p0), .val (.int p1), .val (.int p2), .val (.int p3), .val (.int p4), .val (.int p5), .val (.int i1), .val (.int i2), .val (.int n1), .val (.int n2), .val (.ref b3), .val (.int (p4 &&& (3 : Int32))), .unset, .unset, .unset] [.null, (.ref b3)])) rfl rfl pd_pLjava_lang_Object_r_Z rfl rfl (W := 0) (by show 2 * 0 + _ ≤ _; exact Nat.le_of_eq rfl) at_181 (by decide) (by decide) (by decide) (by decide) ?_
          intro v27 T27 h27 X27 q27
          obtain ⟨rfl, rfl⟩ := q27
          show OFin _ _ _ _ _ _ _ _ T27 (mkF m 184 #[.val (.int p0), .val (.int p1), .val (.int p2), .val (.int p3), .val (.int p4), .val (.int p5), .val (.int i1), .val (.int i2), .val (.int n1), .val (.int n2), .val (.ref b3), .val (.int (p4 &&& (3 : Int32))), .unset, .unset, .unset] [(.int (0 : Int32))])
          refine X27.step (fun hA hx hq t k => XS.ifNo hA hx rfl (hb hq at_184) rfl ((if0 _ _).trans (teq ((by decide))).2) k) ?_
          show OFin _ _ _ _ _ _ _ _ T27 (mkF m 187 #[.val (.int p0), .val (.int p1), .val (.int p2), .val (.int p3), .val (.int p4), .val (.int p5), .val (.int i1), .val (.int i2), .val (.int n1), .val (.int n2), .val (.ref b3), .val (.int (p4 &&& (3 : Int32))), .unset, .unset, .unset] [])
          refine X27.step (fun hA hx hq t k => XS.aload hA hx rfl (hb hq at_187) rfl rfl k) ?_
          show OFin _ _ _ _ _ _ _ _ T27 (mkF m 189 #[.val (.int p0), .val (.int p1), .val (.int p2), .val (.int p3), .val (.int p4), .val (.int p5), .val (.int i1), .val (.int i2), .val (.int n1), .val (.int n2), .val (.ref b3), .val (.int (p4 &&& (3 : Int32))), .unset, .unset, .unset] [(.ref b3)])
          refine X27.step (fun hA hx hq t k => XS.aload hA hx rfl (hb hq at_189) rfl rfl k) ?_
          show OFin _ _ _ _ _ _ _ _ T27 (mkF m 191 #[.val (.int p0), .val (.int p1), .val (.int p2), .val (.int p3), .val (.int p4), .val (.int p5), .val (.int i1), .val (.int i2), .val (.int n1), .val (.int n2), .val (.ref b3), .val (.int (p4 &&& (3 : Int32))), .unset, .unset, .unset] [(.ref b3), (.ref b3)])
          refine X27.callV (y' := (⟨"com/example/replay_proof/replayproof/model/IntruderValue", "equals", "(Ljava/lang/Object;)Z"⟩ : MethodName)) (z' := (⟨"com/example/replay_proof/replayproof/model/IntruderValue", "equals", "(Ljava/lang/Object;)Z"⟩ : MethodName)) (hw _ (List.mem_of_getElem? (i := 39) rfl)) (hw _ (List.mem_of_getElem? (i := 40) rfl)) (X27.notFace (hw _ (List.mem_of_getElem? (i := 42) rfl)) rfl) (hw _ (List.mem_of_getElem? (i := 42) rfl)) (hw _ (List.mem_of_getElem? (i := 41) rfl)) (hw _ (List.mem_of_getElem? (i := 7) rfl)) (hw _ (List.mem_of_getElem? (i := 43) rfl)) (by decide) E5 (argsL := [(.ref b3)]) (rest := []) (rm6 l Z a0 hw b3 b3 (own_kind i1 aT aN aK) (own_kind i1 aT aN aK) n1 n1 h5 n0 Fk5 Fn5 Fk5 Fn5 E5) (g := (mkF m 191 #[.val (.int p0), .val (.int p1), .val (.int p2), .val (.int p3), .val (.int p4), .val (.int p5), .val (.int i1), .val (.int i2), .val (.int n1), .val (.int n2), .val (.ref b3), .val (.int (p4 &&& (3 : Int32))), .unset, .unset, .unset] [(.ref b3), (.ref b3)])) rfl rfl pd_pLjava_lang_Object_r_Z rfl rfl (W := 0) (by show 2 * 0 + _ ≤ _; exact Nat.le_of_eq rfl) at_191 (by decide) (by decide) (by decide) (by decide) ?_
          intro v28 T28 h28 X28 q28
          obtain ⟨rfl, rfl⟩ := q28
          show OFin _ _ _ _ _ _ _ _ T28 (mkF m 194 #[.val (.int p0), .val (.int p1), .val (.int p2), .val (.int p3), .val (.int p4), .val (.int p5), .val (.int i1), .val (.int i2), .val (.int n1), .val (.int n2), .val (.ref b3), .val (.int (p4 &&& (3 : Int32))), .unset, .unset, .unset] [(.int (if (own_kind i1 aT aN aK) = (own_kind i1 aT aN aK) ∧ n1 = n1 then 1 else 0 : Int32))])
          refine X28.step (fun hA hx hq t k => XS.ifNo hA hx rfl (hb hq at_194) rfl ((if0 _ _).trans (feq ((by rw [if_pos ⟨rfl, rfl⟩]; decide))).1) k) ?_
          show OFin _ _ _ _ _ _ _ _ T28 (mkF m 197 #[.val (.int p0), .val (.int p1), .val (.int p2), .val (.int p3), .val (.int p4), .val (.int p5), .val (.int i1), .val (.int i2), .val (.int n1), .val (.int n2), .val (.ref b3), .val (.int (p4 &&& (3 : Int32))), .unset, .unset, .unset] [])
          refine X28.step (fun hA hx hq t k => XS.iconst hA hx rfl (hb hq at_197) k) ?_
          show OFin _ _ _ _ _ _ _ _ T28 (mkF m 198 #[.val (.int p0), .val (.int p1), .val (.int p2), .val (.int p3), .val (.int p4), .val (.int p5), .val (.int i1), .val (.int i2), .val (.int n1), .val (.int n2), .val (.ref b3), .val (.int (p4 &&& (3 : Int32))), .unset, .unset, .unset] [(.int (1 : Int32))])
          refine X28.step (fun hA hx hq t k => XS.goto hA hx rfl (pc0 := 198) (pc' := 202) rfl (hb hq at_198) (by decide) (by decide) k) ?_
          show OFin _ _ _ _ _ _ _ _ T28 (mkF m 202 #[.val (.int p0), .val (.int p1), .val (.int p2), .val (.int p3), .val (.int p4), .val (.int p5), .val (.int i1), .val (.int i2), .val (.int n1), .val (.int n2), .val (.ref b3), .val (.int (p4 &&& (3 : Int32))), .unset, .unset, .unset] [(.int (1 : Int32))])
          exact X28.retN (by simp) at_202 (by decide) (by decide) (rfl)
        · refine X5.step (fun hA hx hq t k => XS.icmpYes hA hx rfl (pc0 := 175) (pc' := 203) rfl (hb hq at_175) rfl (feq (c3)).2 (by decide) (by decide) k) ?_
          show OFin _ _ _ _ _ _ _ _ T5 (mkF m 203 #[.val (.int p0), .val (.int p1), .val (.int p2), .val (.int p3), .val (.int p4), .val (.int p5), .val (.int i1), .val (.int i2), .val (.int n1), .val (.int n2), .val (.ref b3), .val (.int (p4 &&& (3 : Int32))), .unset, .unset, .unset] [])
          refine X5.newO (hw _ (List.mem_of_getElem? (i := 48) rfl)) (hw _ (List.mem_of_getElem? (i := 49) rfl)) (hw _ (List.mem_of_getElem? (i := 50) rfl)) (g := (mkF m 203 #[.val (.int p0), .val (.int p1), .val (.int p2), .val (.int p3), .val (.int p4), .val (.int p5), .val (.int i1), .val (.int i2), .val (.int n1), .val (.int n2), .val (.ref b3), .val (.int (p4 &&& (3 : Int32))), .unset, .unset, .unset] [])) rfl at_203 (by decide) (by decide) ?_
          intro T29 h29 b29 gb29 X29 E29 A29 D29
          show OFin _ _ _ _ _ _ _ _ T29 (mkF m 206 #[.val (.int p0), .val (.int p1), .val (.int p2), .val (.int p3), .val (.int p4), .val (.int p5), .val (.int i1), .val (.int i2), .val (.int n1), .val (.int n2), .val (.ref b3), .val (.int (p4 &&& (3 : Int32))), .unset, .unset, .unset] [(.ref b29)])
          have O29 := O5.ext E29
          have Fa : Fld Z h29 b29 "com/example/replay_proof/replayproof/model/Name" "text" "Ljava/lang/String;" .null := D29 (Or.inr (hw _ (List.mem_of_getElem? (i := 85) rfl))) (ty := (.object "java/lang/String")) (by decide)
          have Fb : Fld Z h29 b29 "com/example/replay_proof/replayproof/model/Name" "kind" "Lcom/example/replay_proof/replayproof/model/Name$Kind;" .null := D29 (Or.inr (hw _ (List.mem_of_getElem? (i := 89) rfl))) (ty := (.object "com/example/replay_proof/replayproof/model/Name$Kind")) (by decide)
          have hn29 : n0 ≤ b29 := by rw [gb29]; exact Nat.le_trans (Nat.le_of_eq O5.1.symm) O5.2.1
          refine X29.step (fun hA hx hq t k => XS.dup hA hx rfl (hb hq at_206) rfl rfl k) ?_
          show OFin _ _ _ _ _ _ _ _ T29 (mkF m 207 #[.val (.int p0), .val (.int p1), .val (.int p2), .val (.int p3), .val (.int p4), .val (.int p5), .val (.int i1), .val (.int i2), .val (.int n1), .val (.int n2), .val (.ref b3), .val (.int (p4 &&& (3 : Int32))), .unset, .unset, .unset] [(.ref b29), (.ref b29)])
          refine X29.step (fun hA hx hq t k => XS.iload hA hx rfl (hb hq at_207) rfl k) ?_
          show OFin _ _ _ _ _ _ _ _ T29 (mkF m 209 #[.val (.int p0), .val (.int p1), .val (.int p2), .val (.int p3), .val (.int p4), .val (.int p5), .val (.int i1), .val (.int i2), .val (.int n1), .val (.int n2), .val (.ref b3), .val (.int (p4 &&& (3 : Int32))), .unset, .unset, .unset] [(.int p5), (.ref b29), (.ref b29)])
          refine X29.step (fun hA hx hq t k => XS.sipush hA hx rfl (hb hq at_209) k) ?_
          show OFin _ _ _ _ _ _ _ _ T29 (mkF m 212 #[.val (.int p0), .val (.int p1), .val (.int p2), .val (.int p3), .val (.int p4), .val (.int p5), .val (.int i1), .val (.int i2), .val (.int n1), .val (.int n2), .val (.ref b3), .val (.int (p4 &&& (3 : Int32))), .unset, .unset, .unset] [(.int (255 : Int32)), (.int p5), (.ref b29), (.ref b29)])
          refine X29.step (fun hA hx hq t k => XS.iand hA hx rfl (hb hq at_212) rfl k) ?_
          show OFin _ _ _ _ _ _ _ _ T29 (mkF m 213 #[.val (.int p0), .val (.int p1), .val (.int p2), .val (.int p3), .val (.int p4), .val (.int p5), .val (.int i1), .val (.int i2), .val (.int n1), .val (.int n2), .val (.ref b3), .val (.int (p4 &&& (3 : Int32))), .unset, .unset, .unset] [(.int (p5 &&& (255 : Int32))), (.ref b29), (.ref b29)])
          refine X29.step (fun hA hx hq t k => XS.i2c hA hx rfl (hb hq at_213) rfl k) ?_
          show OFin _ _ _ _ _ _ _ _ T29 (mkF m 214 #[.val (.int p0), .val (.int p1), .val (.int p2), .val (.int p3), .val (.int p4), .val (.int p5), .val (.int i1), .val (.int i2), .val (.int n1), .val (.int n2), .val (.ref b3), .val (.int (p4 &&& (3 : Int32))), .unset, .unset, .unset] [(.int ((p5 &&& (255 : Int32)).toUInt32.toUInt16.toUInt32.toInt32)), (.ref b29), (.ref b29)])
          refine X29.callS (y' := (⟨"java/lang/String", "valueOf", "(C)Ljava/lang/String;"⟩ : MethodName)) (hw _ (List.mem_of_getElem? (i := 51) rfl)) (hw _ (List.mem_of_getElem? (i := 52) rfl)) (hw _ (List.mem_of_getElem? (i := 53) rfl)) (hw _ (List.mem_of_getElem? (i := 54) rfl)) (by decide) (argsL := [(.int ((p5 &&& (255 : Int32)).toUInt32.toUInt16.toUInt32.toInt32))]) (rest := [(.ref b29), (.ref b29)]) (rm12 l Z a0 hw ((p5 &&& (255 : Int32)).toUInt32.toUInt16.toUInt32.toInt32) cs h29 n0 (SS.ext O29.2) hcs (own_ch p5) (Nat.le_trans (Nat.le_of_eq O29.1.symm) O29.2.1)) (g := (mkF m 214 #[.val (.int p0), .val (.int p1), .val (.int p2), .val (.int p3), .val (.int p4), .val (.int p5), .val (.int i1), .val (.int i2), .val (.int n1), .val (.int n2), .val (.ref b3), .val (.int (p4 &&& (3 : Int32))), .unset, .unset, .unset] [(.int ((p5 &&& (255 : Int32)).toUInt32.toUInt16.toUInt32.toInt32)), (.ref b29), (.ref b29)])) rfl rfl pd_pCr_Ljava_lang_String_ rfl rfl (W := 2) (by show 2 * 0 + _ ≤ _; exact Nat.le_of_eq rfl) at_214 (by decide) (by decide) (by decide) (by decide) ?_
          intro v30 T30 h30 X30 q30
          obtain ⟨tx, rfl, K30, Et30⟩ := q30
          show OFin _ _ _ _ _ _ _ _ T30 (mkF m 217 #[.val (.int p0), .val (.int p1), .val (.int p2), .val (.int p3), .val (.int p4), .val (.int p5), .val (.int i1), .val (.int i2), .val (.int n1), .val (.int n2), .val (.ref b3), .val (.int (p4 &&& (3 : Int32))), .unset, .unset, .unset] [(.ref tx), (.ref b29), (.ref b29)])
          have O30 := O29.keep K30 all0
          refine X30.step (fun hA hx hq t k => XS.iload hA hx rfl (hb hq at_217) rfl k) ?_
          show OFin _ _ _ _ _ _ _ _ T30 (mkF m 219 #[.val (.int p0), .val (.int p1), .val (.int p2), .val (.int p3), .val (.int p4), .val (.int p5), .val (.int i1), .val (.int i2), .val (.int n1), .val (.int n2), .val (.ref b3), .val (.int (p4 &&& (3 : Int32))), .unset, .unset, .unset] [(.int i2), (.ref tx), (.ref b29), (.ref b29)])
          refine X30.callS (y' := (⟨"com/example/replay_proof/replayproof/model/IntruderValueEqualsPinLaw", "kindOf", "(I)Lcom/example/replay_proof/replayproof/model/Name$Kind;"⟩ : MethodName)) (hw _ (List.mem_of_getElem? (i := 8) rfl)) (hw _ (List.mem_of_getElem? (i := 9) rfl)) (hw _ (List.mem_of_getElem? (i := 10) rfl)) (hw _ (List.mem_of_getElem? (i := 11) rfl)) (by decide) (argsL := [(.int i2)]) (rest := [(.ref tx), (.ref b29), (.ref b29)]) (rm2 l Z a0 hw i2 aT aN aK h30 n0 (ST.ext O30.2) (SN.ext O30.2) (SK.ext O30.2)) (g := (mkF m 219 #[.val (.int p0), .val (.int p1), .val (.int p2), .val (.int p3), .val (.int p4), .val (.int p5), .val (.int i1), .val (.int i2), .val (.int n1), .val (.int n2), .val (.ref b3), .val (.int (p4 &&& (3 : Int32))), .unset, .unset, .unset] [(.int i2), (.ref tx), (.ref b29), (.ref b29)])) rfl rfl pd_pIr_Lcom_example_replay_proof_replayproof_model_Name_Kind_ rfl rfl (W := 3) (by show 2 * 0 + _ ≤ _; exact Nat.le_of_eq rfl) at_219 (by decide) (by decide) (by decide) (by decide) ?_
          intro v31 T31 h31 X31 q31
          obtain ⟨rfl, rfl⟩ := q31
          show OFin _ _ _ _ _ _ _ _ T31 (mkF m 222 #[.val (.int p0), .val (.int p1), .val (.int p2), .val (.int p3), .val (.int p4), .val (.int p5), .val (.int i1), .val (.int i2), .val (.int n1), .val (.int n2), .val (.ref b3), .val (.int (p4 &&& (3 : Int32))), .unset, .unset, .unset] [(.ref (own_kind i2 aT aN aK)), (.ref tx), (.ref b29), (.ref b29)])
          refine X31.callI (y' := (⟨"com/example/replay_proof/replayproof/model/Name", "<init>", "(Ljava/lang/String;Lcom/example/replay_proof/replayproof/model/Name$Kind;)V"⟩ : MethodName)) rfl (hw _ (List.mem_of_getElem? (i := 75) rfl)) (hw _ (List.mem_of_getElem? (i := 76) rfl)) (hw _ (List.mem_of_getElem? (i := 50) rfl)) (hw _ (List.mem_of_getElem? (i := 77) rfl)) (by decide) (a := b29) (argsL := [(.ref tx), (.ref (own_kind i2 aT aN aK))]) (rest := [(.ref b29)]) (rm14 l Z a0 hw b29 tx (own_kind i2 aT aN aK) h30 n0 (Fa.keep K30 nin0) (Fb.keep K30 nin0) (A29.keep K30) hn29 Et30 (own_kp (P := fun a => Exa Z _ a _) i2 (ET.ext O30.2) (EN.ext O30.2) (EK.ext O30.2))) (g := (mkF m 222 #[.val (.int p0), .val (.int p1), .val (.int p2), .val (.int p3), .val (.int p4), .val (.int p5), .val (.int i1), .val (.int i2), .val (.int n1), .val (.int n2), .val (.ref b3), .val (.int (p4 &&& (3 : Int32))), .unset, .unset, .unset] [(.ref (own_kind i2 aT aN aK)), (.ref tx), (.ref b29), (.ref b29)])) rfl rfl pd_pLjava_lang_String_Lcom_example_replay_proof_replayproof_model_Name_Kind_r_V rfl rfl (W := 1) (by show 2 * 0 + _ ≤ _; exact Nat.le_of_eq rfl) at_222 (by decide) (by decide) (by decide) (by decide) ?_
          intro v32 T32 h32 X32 q32
          obtain ⟨rfl, K32, E32⟩ := q32
          show OFin _ _ _ _ _ _ _ _ T32 (mkF m 225 #[.val (.int p0), .val (.int p1), .val (.int p2), .val (.int p3), .val (.int p4), .val (.int p5), .val (.int i1), .val (.int i2), .val (.int n1), .val (.int n2), .val (.ref b3), .val (.int (p4 &&& (3 : Int32))), .unset, .unset, .unset] [(.ref b29)])
          refine X32.step (fun hA hx hq t k => XS.astore hA hx rfl (hb hq at_225) rfl rfl (l' := #[.val (.int p0), .val (.int p1), .val (.int p2), .val (.int p3), .val (.int p4), .val (.int p5), .val (.int i1), .val (.int i2), .val (.int n1), .val (.int n2), .val (.ref b3), .val (.int (p4 &&& (3 : Int32))), .val (.ref b29), .unset, .unset]) rfl k) ?_
          show OFin _ _ _ _ _ _ _ _ T32 (mkF m 227 #[.val (.int p0), .val (.int p1), .val (.int p2), .val (.int p3), .val (.int p4), .val (.int p5), .val (.int i1), .val (.int i2), .val (.int n1), .val (.int n2), .val (.ref b3), .val (.int (p4 &&& (3 : Int32))), .val (.ref b29), .unset, .unset] [])
          refine X32.step (fun hA hx hq t k => XS.aload hA hx rfl (hb hq at_227) rfl rfl k) ?_
          show OFin _ _ _ _ _ _ _ _ T32 (mkF m 229 #[.val (.int p0), .val (.int p1), .val (.int p2), .val (.int p3), .val (.int p4), .val (.int p5), .val (.int i1), .val (.int i2), .val (.int n1), .val (.int n2), .val (.ref b3), .val (.int (p4 &&& (3 : Int32))), .val (.ref b29), .unset, .unset] [(.ref b3)])
          refine X32.step (fun hA hx hq t k => XS.aload hA hx rfl (hb hq at_229) rfl rfl k) ?_
          show OFin _ _ _ _ _ _ _ _ T32 (mkF m 231 #[.val (.int p0), .val (.int p1), .val (.int p2), .val (.int p3), .val (.int p4), .val (.int p5), .val (.int i1), .val (.int i2), .val (.int n1), .val (.int n2), .val (.ref b3), .val (.int (p4 &&& (3 : Int32))), .val (.ref b29), .unset, .unset] [(.ref b29), (.ref b3)])
          refine X32.callV (y' := (⟨"com/example/replay_proof/replayproof/model/IntruderValue", "equals", "(Ljava/lang/Object;)Z"⟩ : MethodName)) (z' := (⟨"com/example/replay_proof/replayproof/model/IntruderValue", "equals", "(Ljava/lang/Object;)Z"⟩ : MethodName)) (hw _ (List.mem_of_getElem? (i := 39) rfl)) (hw _ (List.mem_of_getElem? (i := 40) rfl)) (X32.notFace (hw _ (List.mem_of_getElem? (i := 42) rfl)) rfl) (hw _ (List.mem_of_getElem? (i := 42) rfl)) (hw _ (List.mem_of_getElem? (i := 41) rfl)) (hw _ (List.mem_of_getElem? (i := 7) rfl)) (hw _ (List.mem_of_getElem? (i := 43) rfl)) (by decide) (E5.ext E29 |>.keep K30 |>.keep K32) (argsL := [(.ref b29)]) (rest := []) (rm8 l Z a0 hw b3 b29 h32 n0 E32) (g := (mkF m 231 #[.val (.int p0), .val (.int p1), .val (.int p2), .val (.int p3), .val (.int p4), .val (.int p5), .val (.int i1), .val (.int i2), .val (.int n1), .val (.int n2), .val (.ref b3), .val (.int (p4 &&& (3 : Int32))), .val (.ref b29), .unset, .unset] [(.ref b29), (.ref b3)])) rfl rfl pd_pLjava_lang_Object_r_Z rfl rfl (W := 0) (by show 2 * 0 + _ ≤ _; exact Nat.le_of_eq rfl) at_231 (by decide) (by decide) (by decide) (by decide) ?_
          intro v33 T33 h33 X33 q33
          obtain ⟨rfl, rfl⟩ := q33
          show OFin _ _ _ _ _ _ _ _ T33 (mkF m 234 #[.val (.int p0), .val (.int p1), .val (.int p2), .val (.int p3), .val (.int p4), .val (.int p5), .val (.int i1), .val (.int i2), .val (.int n1), .val (.int n2), .val (.ref b3), .val (.int (p4 &&& (3 : Int32))), .val (.ref b29), .unset, .unset] [(.int (0 : Int32))])
          refine X33.step (fun hA hx hq t k => XS.ifNo hA hx rfl (hb hq at_234) rfl ((if0 _ _).trans (teq ((by decide))).2) k) ?_
          show OFin _ _ _ _ _ _ _ _ T33 (mkF m 237 #[.val (.int p0), .val (.int p1), .val (.int p2), .val (.int p3), .val (.int p4), .val (.int p5), .val (.int i1), .val (.int i2), .val (.int n1), .val (.int n2), .val (.ref b3), .val (.int (p4 &&& (3 : Int32))), .val (.ref b29), .unset, .unset] [])
          refine X33.step (fun hA hx hq t k => XS.iconst hA hx rfl (hb hq at_237) k) ?_
          show OFin _ _ _ _ _ _ _ _ T33 (mkF m 238 #[.val (.int p0), .val (.int p1), .val (.int p2), .val (.int p3), .val (.int p4), .val (.int p5), .val (.int i1), .val (.int i2), .val (.int n1), .val (.int n2), .val (.ref b3), .val (.int (p4 &&& (3 : Int32))), .val (.ref b29), .unset, .unset] [(.int (1 : Int32))])
          refine X33.step (fun hA hx hq t k => XS.goto hA hx rfl (pc0 := 238) (pc' := 242) rfl (hb hq at_238) (by decide) (by decide) k) ?_
          show OFin _ _ _ _ _ _ _ _ T33 (mkF m 242 #[.val (.int p0), .val (.int p1), .val (.int p2), .val (.int p3), .val (.int p4), .val (.int p5), .val (.int i1), .val (.int i2), .val (.int n1), .val (.int n2), .val (.ref b3), .val (.int (p4 &&& (3 : Int32))), .val (.ref b29), .unset, .unset] [(.int (1 : Int32))])
          exact X33.retN (by simp) at_242 (by decide) (by decide) (rfl)
  · refine X1.step (fun hA hx hq t k => XS.ifNo hA hx rfl (hb hq at_30) rfl ((if0 _ _).trans (feq (c0)).1) k) ?_
    show OFin _ _ _ _ _ _ _ _ T1 (mkF m 33 #[.val (.int p0), .val (.int p1), .val (.int p2), .val (.int p3), .val (.int p4), .val (.int p5), .val (.int i1), .val (.int i2), .val (.int n1), .unset, .unset, .unset, .unset, .unset, .unset] [])
    refine X1.step (fun hA hx hq t k => XS.iload hA hx rfl (hb hq at_33) rfl k) ?_
    show OFin _ _ _ _ _ _ _ _ T1 (mkF m 35 #[.val (.int p0), .val (.int p1), .val (.int p2), .val (.int p3), .val (.int p4), .val (.int p5), .val (.int i1), .val (.int i2), .val (.int n1), .unset, .unset, .unset, .unset, .unset, .unset] [(.int n1)])
    refine X1.step (fun hA hx hq t k => XS.goto hA hx rfl (pc0 := 35) (pc' := 46) rfl (hb hq at_35) (by decide) (by decide) k) ?_
    show OFin _ _ _ _ _ _ _ _ T1 (mkF m 46 #[.val (.int p0), .val (.int p1), .val (.int p2), .val (.int p3), .val (.int p4), .val (.int p5), .val (.int i1), .val (.int i2), .val (.int n1), .unset, .unset, .unset, .unset, .unset, .unset] [(.int n1)])
    refine X1.step (fun hA hx hq t k => XS.istore hA hx rfl (hb hq at_46) rfl (l' := #[.val (.int p0), .val (.int p1), .val (.int p2), .val (.int p3), .val (.int p4), .val (.int p5), .val (.int i1), .val (.int i2), .val (.int n1), .val (.int n1), .unset, .unset, .unset, .unset, .unset]) rfl k) ?_
    show OFin _ _ _ _ _ _ _ _ T1 (mkF m 48 #[.val (.int p0), .val (.int p1), .val (.int p2), .val (.int p3), .val (.int p4), .val (.int p5), .val (.int i1), .val (.int i2), .val (.int n1), .val (.int n1), .unset, .unset, .unset, .unset, .unset] [])
    refine X1.newO (hw _ (List.mem_of_getElem? (i := 5) rfl)) (hw _ (List.mem_of_getElem? (i := 6) rfl)) (hw _ (List.mem_of_getElem? (i := 7) rfl)) (g := (mkF m 48 #[.val (.int p0), .val (.int p1), .val (.int p2), .val (.int p3), .val (.int p4), .val (.int p5), .val (.int i1), .val (.int i2), .val (.int n1), .val (.int n1), .unset, .unset, .unset, .unset, .unset] [])) rfl at_48 (by decide) (by decide) ?_
    intro T34 h34 b34 gb34 X34 E34 A34 D34
    show OFin _ _ _ _ _ _ _ _ T34 (mkF m 51 #[.val (.int p0), .val (.int p1), .val (.int p2), .val (.int p3), .val (.int p4), .val (.int p5), .val (.int i1), .val (.int i2), .val (.int n1), .val (.int n1), .unset, .unset, .unset, .unset, .unset] [(.ref b34)])
    have O34 := O0.ext E34
    have Fa34 : Fld Z h34 b34 "com/example/replay_proof/replayproof/model/IntruderValue" "kind" "Lcom/example/replay_proof/replayproof/model/Name$Kind;" .null := D34 (Or.inr (hw _ (List.mem_of_getElem? (i := 34) rfl))) (ty := (.object "com/example/replay_proof/replayproof/model/Name$Kind")) (by decide)
    have Fb34 : Fld Z h34 b34 "com/example/replay_proof/replayproof/model/IntruderValue" "number" "I" (.int 0) := D34 (Or.inr (hw _ (List.mem_of_getElem? (i := 36) rfl))) (ty := .int) (by decide)
    have hn34 : n0 ≤ b34 := by rw [gb34]; exact Nat.le_trans (Nat.le_of_eq O0.1.symm) O0.2.1
    refine X34.step (fun hA hx hq t k => XS.dup hA hx rfl (hb hq at_51) rfl rfl k) ?_
    show OFin _ _ _ _ _ _ _ _ T34 (mkF m 52 #[.val (.int p0), .val (.int p1), .val (.int p2), .val (.int p3), .val (.int p4), .val (.int p5), .val (.int i1), .val (.int i2), .val (.int n1), .val (.int n1), .unset, .unset, .unset, .unset, .unset] [(.ref b34), (.ref b34)])
    refine X34.step (fun hA hx hq t k => XS.iload hA hx rfl (hb hq at_52) rfl k) ?_
    show OFin _ _ _ _ _ _ _ _ T34 (mkF m 54 #[.val (.int p0), .val (.int p1), .val (.int p2), .val (.int p3), .val (.int p4), .val (.int p5), .val (.int i1), .val (.int i2), .val (.int n1), .val (.int n1), .unset, .unset, .unset, .unset, .unset] [(.int i1), (.ref b34), (.ref b34)])
    refine X34.callS (y' := (⟨"com/example/replay_proof/replayproof/model/IntruderValueEqualsPinLaw", "kindOf", "(I)Lcom/example/replay_proof/replayproof/model/Name$Kind;"⟩ : MethodName)) (hw _ (List.mem_of_getElem? (i := 8) rfl)) (hw _ (List.mem_of_getElem? (i := 9) rfl)) (hw _ (List.mem_of_getElem? (i := 10) rfl)) (hw _ (List.mem_of_getElem? (i := 11) rfl)) (by decide) (argsL := [(.int i1)]) (rest := [(.ref b34), (.ref b34)]) (rm2 l Z a0 hw i1 aT aN aK h34 n0 (ST.ext O34.2) (SN.ext O34.2) (SK.ext O34.2)) (g := (mkF m 54 #[.val (.int p0), .val (.int p1), .val (.int p2), .val (.int p3), .val (.int p4), .val (.int p5), .val (.int i1), .val (.int i2), .val (.int n1), .val (.int n1), .unset, .unset, .unset, .unset, .unset] [(.int i1), (.ref b34), (.ref b34)])) rfl rfl pd_pIr_Lcom_example_replay_proof_replayproof_model_Name_Kind_ rfl rfl (W := 2) (by show 2 * 0 + _ ≤ _; exact Nat.le_of_eq rfl) at_54 (by decide) (by decide) (by decide) (by decide) ?_
    intro v35 T35 h35 X35 q35
    obtain ⟨rfl, rfl⟩ := q35
    show OFin _ _ _ _ _ _ _ _ T35 (mkF m 57 #[.val (.int p0), .val (.int p1), .val (.int p2), .val (.int p3), .val (.int p4), .val (.int p5), .val (.int i1), .val (.int i2), .val (.int n1), .val (.int n1), .unset, .unset, .unset, .unset, .unset] [(.ref (own_kind i1 aT aN aK)), (.ref b34), (.ref b34)])
    refine X35.step (fun hA hx hq t k => XS.iload hA hx rfl (hb hq at_57) rfl k) ?_
    show OFin _ _ _ _ _ _ _ _ T35 (mkF m 59 #[.val (.int p0), .val (.int p1), .val (.int p2), .val (.int p3), .val (.int p4), .val (.int p5), .val (.int i1), .val (.int i2), .val (.int n1), .val (.int n1), .unset, .unset, .unset, .unset, .unset] [(.int n1), (.ref (own_kind i1 aT aN aK)), (.ref b34), (.ref b34)])
    refine X35.callI (y' := (⟨"com/example/replay_proof/replayproof/model/IntruderValue", "<init>", "(Lcom/example/replay_proof/replayproof/model/Name$Kind;I)V"⟩ : MethodName)) rfl (hw _ (List.mem_of_getElem? (i := 15) rfl)) (hw _ (List.mem_of_getElem? (i := 16) rfl)) (hw _ (List.mem_of_getElem? (i := 7) rfl)) (hw _ (List.mem_of_getElem? (i := 17) rfl)) (by decide) (a := b34) (argsL := [(.ref (own_kind i1 aT aN aK)), (.int n1)]) (rest := [(.ref b34)]) (rm5 l Z a0 hw b34 (own_kind i1 aT aN aK) n1 h34 n0 Fa34 Fb34 A34 hn34 (own_kp (P := fun a => Exa Z _ a _) i1 (ET.ext O34.2) (EN.ext O34.2) (EK.ext O34.2)) (own_kp (P := fun a => Fld Z _ a _ _ _ _) i1 (FT.ext O34.2) (FN.ext O34.2) (FK.ext O34.2)) g1) (g := (mkF m 59 #[.val (.int p0), .val (.int p1), .val (.int p2), .val (.int p3), .val (.int p4), .val (.int p5), .val (.int i1), .val (.int i2), .val (.int n1), .val (.int n1), .unset, .unset, .unset, .unset, .unset] [(.int n1), (.ref (own_kind i1 aT aN aK)), (.ref b34), (.ref b34)])) rfl rfl pd_pLcom_example_replay_proof_replayproof_model_Name_Kind_Ir_V rfl rfl (W := 1) (by show 2 * 0 + _ ≤ _; exact Nat.le_of_eq rfl) at_59 (by decide) (by decide) (by decide) (by decide) ?_
    intro v36 T36 h36 X36 q36
    obtain ⟨rfl, K36, E36, Fk36, Fn36⟩ := q36
    show OFin _ _ _ _ _ _ _ _ T36 (mkF m 62 #[.val (.int p0), .val (.int p1), .val (.int p2), .val (.int p3), .val (.int p4), .val (.int p5), .val (.int i1), .val (.int i2), .val (.int n1), .val (.int n1), .unset, .unset, .unset, .unset, .unset] [(.ref b34)])
    have O36 := O34.keep K36 (allS hn34 all0)
    refine X36.step (fun hA hx hq t k => XS.astore hA hx rfl (hb hq at_62) rfl rfl (l' := #[.val (.int p0), .val (.int p1), .val (.int p2), .val (.int p3), .val (.int p4), .val (.int p5), .val (.int i1), .val (.int i2), .val (.int n1), .val (.int n1), .val (.ref b34), .unset, .unset, .unset, .unset]) rfl k) ?_
    show OFin _ _ _ _ _ _ _ _ T36 (mkF m 64 #[.val (.int p0), .val (.int p1), .val (.int p2), .val (.int p3), .val (.int p4), .val (.int p5), .val (.int i1), .val (.int i2), .val (.int n1), .val (.int n1), .val (.ref b34), .unset, .unset, .unset, .unset] [])
    refine X36.step (fun hA hx hq t k => XS.iload hA hx rfl (hb hq at_64) rfl k) ?_
    show OFin _ _ _ _ _ _ _ _ T36 (mkF m 66 #[.val (.int p0), .val (.int p1), .val (.int p2), .val (.int p3), .val (.int p4), .val (.int p5), .val (.int i1), .val (.int i2), .val (.int n1), .val (.int n1), .val (.ref b34), .unset, .unset, .unset, .unset] [(.int p4)])
    refine X36.step (fun hA hx hq t k => XS.iconst hA hx rfl (hb hq at_66) k) ?_
    show OFin _ _ _ _ _ _ _ _ T36 (mkF m 67 #[.val (.int p0), .val (.int p1), .val (.int p2), .val (.int p3), .val (.int p4), .val (.int p5), .val (.int i1), .val (.int i2), .val (.int n1), .val (.int n1), .val (.ref b34), .unset, .unset, .unset, .unset] [(.int (3 : Int32)), (.int p4)])
    refine X36.step (fun hA hx hq t k => XS.iand hA hx rfl (hb hq at_67) rfl k) ?_
    show OFin _ _ _ _ _ _ _ _ T36 (mkF m 68 #[.val (.int p0), .val (.int p1), .val (.int p2), .val (.int p3), .val (.int p4), .val (.int p5), .val (.int i1), .val (.int i2), .val (.int n1), .val (.int n1), .val (.ref b34), .unset, .unset, .unset, .unset] [(.int (p4 &&& (3 : Int32)))])
    refine X36.step (fun hA hx hq t k => XS.istore hA hx rfl (hb hq at_68) rfl (l' := #[.val (.int p0), .val (.int p1), .val (.int p2), .val (.int p3), .val (.int p4), .val (.int p5), .val (.int i1), .val (.int i2), .val (.int n1), .val (.int n1), .val (.ref b34), .val (.int (p4 &&& (3 : Int32))), .unset, .unset, .unset]) rfl k) ?_
    show OFin _ _ _ _ _ _ _ _ T36 (mkF m 70 #[.val (.int p0), .val (.int p1), .val (.int p2), .val (.int p3), .val (.int p4), .val (.int p5), .val (.int i1), .val (.int i2), .val (.int n1), .val (.int n1), .val (.ref b34), .val (.int (p4 &&& (3 : Int32))), .unset, .unset, .unset] [])
    refine X36.step (fun hA hx hq t k => XS.iload hA hx rfl (hb hq at_70) rfl k) ?_
    show OFin _ _ _ _ _ _ _ _ T36 (mkF m 72 #[.val (.int p0), .val (.int p1), .val (.int p2), .val (.int p3), .val (.int p4), .val (.int p5), .val (.int i1), .val (.int i2), .val (.int n1), .val (.int n1), .val (.ref b34), .val (.int (p4 &&& (3 : Int32))), .unset, .unset, .unset] [(.int (p4 &&& (3 : Int32)))])
    by_cases c1 : (p4 &&& (3 : Int32)) = (0 : Int32)
    · refine X36.step (fun hA hx hq t k => XS.ifYes hA hx rfl (pc0 := 72) (pc' := 81) rfl (hb hq at_72) rfl ((if0 _ _).trans (teq (c1)).1) (by decide) (by decide) k) ?_
      show OFin _ _ _ _ _ _ _ _ T36 (mkF m 81 #[.val (.int p0), .val (.int p1), .val (.int p2), .val (.int p3), .val (.int p4), .val (.int p5), .val (.int i1), .val (.int i2), .val (.int n1), .val (.int n1), .val (.ref b34), .val (.int (p4 &&& (3 : Int32))), .unset, .unset, .unset] [])
      refine X36.step (fun hA hx hq t k => XS.iload hA hx rfl (hb hq at_81) rfl k) ?_
      show OFin _ _ _ _ _ _ _ _ T36 (mkF m 83 #[.val (.int p0), .val (.int p1), .val (.int p2), .val (.int p3), .val (.int p4), .val (.int p5), .val (.int i1), .val (.int i2), .val (.int n1), .val (.int n1), .val (.ref b34), .val (.int (p4 &&& (3 : Int32))), .unset, .unset, .unset] [(.int (p4 &&& (3 : Int32)))])
      refine X36.step (fun hA hx hq t k => XS.ifNo hA hx rfl (hb hq at_83) rfl ((if0 _ _).trans (teq (c1)).2) k) ?_
      show OFin _ _ _ _ _ _ _ _ T36 (mkF m 86 #[.val (.int p0), .val (.int p1), .val (.int p2), .val (.int p3), .val (.int p4), .val (.int p5), .val (.int i1), .val (.int i2), .val (.int n1), .val (.int n1), .val (.ref b34), .val (.int (p4 &&& (3 : Int32))), .unset, .unset, .unset] [])
      refine X36.step (fun hA hx hq t k => XS.iload hA hx rfl (hb hq at_86) rfl k) ?_
      show OFin _ _ _ _ _ _ _ _ T36 (mkF m 88 #[.val (.int p0), .val (.int p1), .val (.int p2), .val (.int p3), .val (.int p4), .val (.int p5), .val (.int i1), .val (.int i2), .val (.int n1), .val (.int n1), .val (.ref b34), .val (.int (p4 &&& (3 : Int32))), .unset, .unset, .unset] [(.int i2)])
      refine X36.step (fun hA hx hq t k => XS.goto hA hx rfl (pc0 := 88) (pc' := 93) rfl (hb hq at_88) (by decide) (by decide) k) ?_
      show OFin _ _ _ _ _ _ _ _ T36 (mkF m 93 #[.val (.int p0), .val (.int p1), .val (.int p2), .val (.int p3), .val (.int p4), .val (.int p5), .val (.int i1), .val (.int i2), .val (.int n1), .val (.int n1), .val (.ref b34), .val (.int (p4 &&& (3 : Int32))), .unset, .unset, .unset] [(.int i2)])
      refine X36.step (fun hA hx hq t k => XS.istore hA hx rfl (hb hq at_93) rfl (l' := #[.val (.int p0), .val (.int p1), .val (.int p2), .val (.int p3), .val (.int p4), .val (.int p5), .val (.int i1), .val (.int i2), .val (.int n1), .val (.int n1), .val (.ref b34), .val (.int (p4 &&& (3 : Int32))), .val (.int i2), .unset, .unset]) rfl k) ?_
      show OFin _ _ _ _ _ _ _ _ T36 (mkF m 95 #[.val (.int p0), .val (.int p1), .val (.int p2), .val (.int p3), .val (.int p4), .val (.int p5), .val (.int i1), .val (.int i2), .val (.int n1), .val (.int n1), .val (.ref b34), .val (.int (p4 &&& (3 : Int32))), .val (.int i2), .unset, .unset] [])
      refine X36.newO (hw _ (List.mem_of_getElem? (i := 5) rfl)) (hw _ (List.mem_of_getElem? (i := 6) rfl)) (hw _ (List.mem_of_getElem? (i := 7) rfl)) (g := (mkF m 95 #[.val (.int p0), .val (.int p1), .val (.int p2), .val (.int p3), .val (.int p4), .val (.int p5), .val (.int i1), .val (.int i2), .val (.int n1), .val (.int n1), .val (.ref b34), .val (.int (p4 &&& (3 : Int32))), .val (.int i2), .unset, .unset] [])) rfl at_95 (by decide) (by decide) ?_
      intro T37 h37 b37 gb37 X37 E37 A37 D37
      show OFin _ _ _ _ _ _ _ _ T37 (mkF m 98 #[.val (.int p0), .val (.int p1), .val (.int p2), .val (.int p3), .val (.int p4), .val (.int p5), .val (.int i1), .val (.int i2), .val (.int n1), .val (.int n1), .val (.ref b34), .val (.int (p4 &&& (3 : Int32))), .val (.int i2), .unset, .unset] [(.ref b37)])
      have O37 := O36.ext E37
      have Fa37 : Fld Z h37 b37 "com/example/replay_proof/replayproof/model/IntruderValue" "kind" "Lcom/example/replay_proof/replayproof/model/Name$Kind;" .null := D37 (Or.inr (hw _ (List.mem_of_getElem? (i := 34) rfl))) (ty := (.object "com/example/replay_proof/replayproof/model/Name$Kind")) (by decide)
      have Fb37 : Fld Z h37 b37 "com/example/replay_proof/replayproof/model/IntruderValue" "number" "I" (.int 0) := D37 (Or.inr (hw _ (List.mem_of_getElem? (i := 36) rfl))) (ty := .int) (by decide)
      have hn37 : n0 ≤ b37 := by rw [gb37]; exact Nat.le_trans (Nat.le_of_eq O36.1.symm) O36.2.1
      refine X37.step (fun hA hx hq t k => XS.dup hA hx rfl (hb hq at_98) rfl rfl k) ?_
      show OFin _ _ _ _ _ _ _ _ T37 (mkF m 99 #[.val (.int p0), .val (.int p1), .val (.int p2), .val (.int p3), .val (.int p4), .val (.int p5), .val (.int i1), .val (.int i2), .val (.int n1), .val (.int n1), .val (.ref b34), .val (.int (p4 &&& (3 : Int32))), .val (.int i2), .unset, .unset] [(.ref b37), (.ref b37)])
      refine X37.step (fun hA hx hq t k => XS.iload hA hx rfl (hb hq at_99) rfl k) ?_
      show OFin _ _ _ _ _ _ _ _ T37 (mkF m 101 #[.val (.int p0), .val (.int p1), .val (.int p2), .val (.int p3), .val (.int p4), .val (.int p5), .val (.int i1), .val (.int i2), .val (.int n1), .val (.int n1), .val (.ref b34), .val (.int (p4 &&& (3 : Int32))), .val (.int i2), .unset, .unset] [(.int i2), (.ref b37), (.ref b37)])
      refine X37.callS (y' := (⟨"com/example/replay_proof/replayproof/model/IntruderValueEqualsPinLaw", "kindOf", "(I)Lcom/example/replay_proof/replayproof/model/Name$Kind;"⟩ : MethodName)) (hw _ (List.mem_of_getElem? (i := 8) rfl)) (hw _ (List.mem_of_getElem? (i := 9) rfl)) (hw _ (List.mem_of_getElem? (i := 10) rfl)) (hw _ (List.mem_of_getElem? (i := 11) rfl)) (by decide) (argsL := [(.int i2)]) (rest := [(.ref b37), (.ref b37)]) (rm2 l Z a0 hw i2 aT aN aK h37 n0 (ST.ext O37.2) (SN.ext O37.2) (SK.ext O37.2)) (g := (mkF m 101 #[.val (.int p0), .val (.int p1), .val (.int p2), .val (.int p3), .val (.int p4), .val (.int p5), .val (.int i1), .val (.int i2), .val (.int n1), .val (.int n1), .val (.ref b34), .val (.int (p4 &&& (3 : Int32))), .val (.int i2), .unset, .unset] [(.int i2), (.ref b37), (.ref b37)])) rfl rfl pd_pIr_Lcom_example_replay_proof_replayproof_model_Name_Kind_ rfl rfl (W := 2) (by show 2 * 0 + _ ≤ _; exact Nat.le_of_eq rfl) at_101 (by decide) (by decide) (by decide) (by decide) ?_
      intro v38 T38 h38 X38 q38
      obtain ⟨rfl, rfl⟩ := q38
      show OFin _ _ _ _ _ _ _ _ T38 (mkF m 104 #[.val (.int p0), .val (.int p1), .val (.int p2), .val (.int p3), .val (.int p4), .val (.int p5), .val (.int i1), .val (.int i2), .val (.int n1), .val (.int n1), .val (.ref b34), .val (.int (p4 &&& (3 : Int32))), .val (.int i2), .unset, .unset] [(.ref (own_kind i2 aT aN aK)), (.ref b37), (.ref b37)])
      refine X38.step (fun hA hx hq t k => XS.iload hA hx rfl (hb hq at_104) rfl k) ?_
      show OFin _ _ _ _ _ _ _ _ T38 (mkF m 106 #[.val (.int p0), .val (.int p1), .val (.int p2), .val (.int p3), .val (.int p4), .val (.int p5), .val (.int i1), .val (.int i2), .val (.int n1), .val (.int n1), .val (.ref b34), .val (.int (p4 &&& (3 : Int32))), .val (.int i2), .unset, .unset] [(.int n1), (.ref (own_kind i2 aT aN aK)), (.ref b37), (.ref b37)])
      refine X38.callI (y' := (⟨"com/example/replay_proof/replayproof/model/IntruderValue", "<init>", "(Lcom/example/replay_proof/replayproof/model/Name$Kind;I)V"⟩ : MethodName)) rfl (hw _ (List.mem_of_getElem? (i := 15) rfl)) (hw _ (List.mem_of_getElem? (i := 16) rfl)) (hw _ (List.mem_of_getElem? (i := 7) rfl)) (hw _ (List.mem_of_getElem? (i := 17) rfl)) (by decide) (a := b37) (argsL := [(.ref (own_kind i2 aT aN aK)), (.int n1)]) (rest := [(.ref b37)]) (rm5 l Z a0 hw b37 (own_kind i2 aT aN aK) n1 h37 n0 Fa37 Fb37 A37 hn37 (own_kp (P := fun a => Exa Z _ a _) i2 (ET.ext O37.2) (EN.ext O37.2) (EK.ext O37.2)) (own_kp (P := fun a => Fld Z _ a _ _ _ _) i2 (FT.ext O37.2) (FN.ext O37.2) (FK.ext O37.2)) g1) (g := (mkF m 106 #[.val (.int p0), .val (.int p1), .val (.int p2), .val (.int p3), .val (.int p4), .val (.int p5), .val (.int i1), .val (.int i2), .val (.int n1), .val (.int n1), .val (.ref b34), .val (.int (p4 &&& (3 : Int32))), .val (.int i2), .unset, .unset] [(.int n1), (.ref (own_kind i2 aT aN aK)), (.ref b37), (.ref b37)])) rfl rfl pd_pLcom_example_replay_proof_replayproof_model_Name_Kind_Ir_V rfl rfl (W := 1) (by show 2 * 0 + _ ≤ _; exact Nat.le_of_eq rfl) at_106 (by decide) (by decide) (by decide) (by decide) ?_
      intro v39 T39 h39 X39 q39
      obtain ⟨rfl, K39, E39, Fk39, Fn39⟩ := q39
      show OFin _ _ _ _ _ _ _ _ T39 (mkF m 109 #[.val (.int p0), .val (.int p1), .val (.int p2), .val (.int p3), .val (.int p4), .val (.int p5), .val (.int i1), .val (.int i2), .val (.int n1), .val (.int n1), .val (.ref b34), .val (.int (p4 &&& (3 : Int32))), .val (.int i2), .unset, .unset] [(.ref b37)])
      have O39 := O37.keep K39 (allS hn37 all0)
      have Ex := A34.keep K36 |>.ext E37 |>.keep K39
      have ne : b34 ≠ b37 := by rw [gb37]; exact Nat.ne_of_lt E36.lt
      have Gk := (Fk36.ext E37).keep K39 (ninS ne nin0)
      have Gn := (Fn36.ext E37).keep K39 (ninS ne nin0)
      have hk := own_kinj q1 q2 q3 r1 r2
      refine X39.step (fun hA hx hq t k => XS.astore hA hx rfl (hb hq at_109) rfl rfl (l' := #[.val (.int p0), .val (.int p1), .val (.int p2), .val (.int p3), .val (.int p4), .val (.int p5), .val (.int i1), .val (.int i2), .val (.int n1), .val (.int n1), .val (.ref b34), .val (.int (p4 &&& (3 : Int32))), .val (.int i2), .val (.ref b37), .unset]) rfl k) ?_
      show OFin _ _ _ _ _ _ _ _ T39 (mkF m 111 #[.val (.int p0), .val (.int p1), .val (.int p2), .val (.int p3), .val (.int p4), .val (.int p5), .val (.int i1), .val (.int i2), .val (.int n1), .val (.int n1), .val (.ref b34), .val (.int (p4 &&& (3 : Int32))), .val (.int i2), .val (.ref b37), .unset] [])
      refine X39.step (fun hA hx hq t k => XS.iload hA hx rfl (hb hq at_111) rfl k) ?_
      show OFin _ _ _ _ _ _ _ _ T39 (mkF m 113 #[.val (.int p0), .val (.int p1), .val (.int p2), .val (.int p3), .val (.int p4), .val (.int p5), .val (.int i1), .val (.int i2), .val (.int n1), .val (.int n1), .val (.ref b34), .val (.int (p4 &&& (3 : Int32))), .val (.int i2), .val (.ref b37), .unset] [(.int i1)])
      refine X39.step (fun hA hx hq t k => XS.iload hA hx rfl (hb hq at_113) rfl k) ?_
      show OFin _ _ _ _ _ _ _ _ T39 (mkF m 115 #[.val (.int p0), .val (.int p1), .val (.int p2), .val (.int p3), .val (.int p4), .val (.int p5), .val (.int i1), .val (.int i2), .val (.int n1), .val (.int n1), .val (.ref b34), .val (.int (p4 &&& (3 : Int32))), .val (.int i2), .val (.ref b37), .unset] [(.int i2), (.int i1)])
      by_cases d1 : i1 = i2
      · refine X39.step (fun hA hx hq t k => XS.icmpNo hA hx rfl (hb hq at_115) rfl (teq (d1)).2 k) ?_
        show OFin _ _ _ _ _ _ _ _ T39 (mkF m 118 #[.val (.int p0), .val (.int p1), .val (.int p2), .val (.int p3), .val (.int p4), .val (.int p5), .val (.int i1), .val (.int i2), .val (.int n1), .val (.int n1), .val (.ref b34), .val (.int (p4 &&& (3 : Int32))), .val (.int i2), .val (.ref b37), .unset] [])
        refine X39.step (fun hA hx hq t k => XS.iload hA hx rfl (hb hq at_118) rfl k) ?_
        show OFin _ _ _ _ _ _ _ _ T39 (mkF m 120 #[.val (.int p0), .val (.int p1), .val (.int p2), .val (.int p3), .val (.int p4), .val (.int p5), .val (.int i1), .val (.int i2), .val (.int n1), .val (.int n1), .val (.ref b34), .val (.int (p4 &&& (3 : Int32))), .val (.int i2), .val (.ref b37), .unset] [(.int n1)])
        refine X39.step (fun hA hx hq t k => XS.iload hA hx rfl (hb hq at_120) rfl k) ?_
        show OFin _ _ _ _ _ _ _ _ T39 (mkF m 122 #[.val (.int p0), .val (.int p1), .val (.int p2), .val (.int p3), .val (.int p4), .val (.int p5), .val (.int i1), .val (.int i2), .val (.int n1), .val (.int n1), .val (.ref b34), .val (.int (p4 &&& (3 : Int32))), .val (.int i2), .val (.ref b37), .unset] [(.int n1), (.int n1)])
        refine X39.step (fun hA hx hq t k => XS.icmpNo hA hx rfl (hb hq at_122) rfl (teq ((rfl : n1 = n1))).2 k) ?_
        show OFin _ _ _ _ _ _ _ _ T39 (mkF m 125 #[.val (.int p0), .val (.int p1), .val (.int p2), .val (.int p3), .val (.int p4), .val (.int p5), .val (.int i1), .val (.int i2), .val (.int n1), .val (.int n1), .val (.ref b34), .val (.int (p4 &&& (3 : Int32))), .val (.int i2), .val (.ref b37), .unset] [])
        refine X39.step (fun hA hx hq t k => XS.iconst hA hx rfl (hb hq at_125) k) ?_
        show OFin _ _ _ _ _ _ _ _ T39 (mkF m 126 #[.val (.int p0), .val (.int p1), .val (.int p2), .val (.int p3), .val (.int p4), .val (.int p5), .val (.int i1), .val (.int i2), .val (.int n1), .val (.int n1), .val (.ref b34), .val (.int (p4 &&& (3 : Int32))), .val (.int i2), .val (.ref b37), .unset] [(.int (1 : Int32))])
        refine X39.step (fun hA hx hq t k => XS.goto hA hx rfl (pc0 := 126) (pc' := 130) rfl (hb hq at_126) (by decide) (by decide) k) ?_
        show OFin _ _ _ _ _ _ _ _ T39 (mkF m 130 #[.val (.int p0), .val (.int p1), .val (.int p2), .val (.int p3), .val (.int p4), .val (.int p5), .val (.int i1), .val (.int i2), .val (.int n1), .val (.int n1), .val (.ref b34), .val (.int (p4 &&& (3 : Int32))), .val (.int i2), .val (.ref b37), .unset] [(.int (1 : Int32))])
        refine X39.step (fun hA hx hq t k => XS.istore hA hx rfl (hb hq at_130) rfl (l' := #[.val (.int p0), .val (.int p1), .val (.int p2), .val (.int p3), .val (.int p4), .val (.int p5), .val (.int i1), .val (.int i2), .val (.int n1), .val (.int n1), .val (.ref b34), .val (.int (p4 &&& (3 : Int32))), .val (.int i2), .val (.ref b37), .val (.int (1 : Int32))]) rfl k) ?_
        show OFin _ _ _ _ _ _ _ _ T39 (mkF m 132 #[.val (.int p0), .val (.int p1), .val (.int p2), .val (.int p3), .val (.int p4), .val (.int p5), .val (.int i1), .val (.int i2), .val (.int n1), .val (.int n1), .val (.ref b34), .val (.int (p4 &&& (3 : Int32))), .val (.int i2), .val (.ref b37), .val (.int (1 : Int32))] [])
        refine X39.step (fun hA hx hq t k => XS.aload hA hx rfl (hb hq at_132) rfl rfl k) ?_
        show OFin _ _ _ _ _ _ _ _ T39 (mkF m 134 #[.val (.int p0), .val (.int p1), .val (.int p2), .val (.int p3), .val (.int p4), .val (.int p5), .val (.int i1), .val (.int i2), .val (.int n1), .val (.int n1), .val (.ref b34), .val (.int (p4 &&& (3 : Int32))), .val (.int i2), .val (.ref b37), .val (.int (1 : Int32))] [(.ref b34)])
        refine X39.step (fun hA hx hq t k => XS.aload hA hx rfl (hb hq at_134) rfl rfl k) ?_
        show OFin _ _ _ _ _ _ _ _ T39 (mkF m 136 #[.val (.int p0), .val (.int p1), .val (.int p2), .val (.int p3), .val (.int p4), .val (.int p5), .val (.int i1), .val (.int i2), .val (.int n1), .val (.int n1), .val (.ref b34), .val (.int (p4 &&& (3 : Int32))), .val (.int i2), .val (.ref b37), .val (.int (1 : Int32))] [(.ref b37), (.ref b34)])
        refine X39.callV (y' := (⟨"com/example/replay_proof/replayproof/model/IntruderValue", "equals", "(Ljava/lang/Object;)Z"⟩ : MethodName)) (z' := (⟨"com/example/replay_proof/replayproof/model/IntruderValue", "equals", "(Ljava/lang/Object;)Z"⟩ : MethodName)) (hw _ (List.mem_of_getElem? (i := 39) rfl)) (hw _ (List.mem_of_getElem? (i := 40) rfl)) (X39.notFace (hw _ (List.mem_of_getElem? (i := 42) rfl)) rfl) (hw _ (List.mem_of_getElem? (i := 42) rfl)) (hw _ (List.mem_of_getElem? (i := 41) rfl)) (hw _ (List.mem_of_getElem? (i := 7) rfl)) (hw _ (List.mem_of_getElem? (i := 43) rfl)) (by decide) Ex (argsL := [(.ref b37)]) (rest := []) (rm6 l Z a0 hw b34 b37 (own_kind i1 aT aN aK) (own_kind i2 aT aN aK) n1 n1 h39 n0 Gk Gn Fk39 Fn39 E39) (g := (mkF m 136 #[.val (.int p0), .val (.int p1), .val (.int p2), .val (.int p3), .val (.int p4), .val (.int p5), .val (.int i1), .val (.int i2), .val (.int n1), .val (.int n1), .val (.ref b34), .val (.int (p4 &&& (3 : Int32))), .val (.int i2), .val (.ref b37), .val (.int (1 : Int32))] [(.ref b37), (.ref b34)])) rfl rfl pd_pLjava_lang_Object_r_Z rfl rfl (W := 0) (by show 2 * 0 + _ ≤ _; exact Nat.le_of_eq rfl) at_136 (by decide) (by decide) (by decide) (by decide) ?_
        intro v43 T43 h43 X43 q43
        obtain ⟨rfl, rfl⟩ := q43
        show OFin _ _ _ _ _ _ _ _ T43 (mkF m 139 #[.val (.int p0), .val (.int p1), .val (.int p2), .val (.int p3), .val (.int p4), .val (.int p5), .val (.int i1), .val (.int i2), .val (.int n1), .val (.int n1), .val (.ref b34), .val (.int (p4 &&& (3 : Int32))), .val (.int i2), .val (.ref b37), .val (.int (1 : Int32))] [(.int (if (own_kind i1 aT aN aK) = (own_kind i2 aT aN aK) ∧ n1 = n1 then 1 else 0 : Int32))])
        refine X43.step (fun hA hx hq t k => XS.iload hA hx rfl (hb hq at_139) rfl k) ?_
        show OFin _ _ _ _ _ _ _ _ T43 (mkF m 141 #[.val (.int p0), .val (.int p1), .val (.int p2), .val (.int p3), .val (.int p4), .val (.int p5), .val (.int i1), .val (.int i2), .val (.int n1), .val (.int n1), .val (.ref b34), .val (.int (p4 &&& (3 : Int32))), .val (.int i2), .val (.ref b37), .val (.int (1 : Int32))] [(.int (1 : Int32)), (.int (if (own_kind i1 aT aN aK) = (own_kind i2 aT aN aK) ∧ n1 = n1 then 1 else 0 : Int32))])
        refine X43.step (fun hA hx hq t k => XS.icmpNo hA hx rfl (hb hq at_141) rfl (teq (if_pos ⟨hk.mpr d1, rfl⟩)).2 k) ?_
        show OFin _ _ _ _ _ _ _ _ T43 (mkF m 144 #[.val (.int p0), .val (.int p1), .val (.int p2), .val (.int p3), .val (.int p4), .val (.int p5), .val (.int i1), .val (.int i2), .val (.int n1), .val (.int n1), .val (.ref b34), .val (.int (p4 &&& (3 : Int32))), .val (.int i2), .val (.ref b37), .val (.int (1 : Int32))] [])
        refine X43.step (fun hA hx hq t k => XS.aload hA hx rfl (hb hq at_144) rfl rfl k) ?_
        show OFin _ _ _ _ _ _ _ _ T43 (mkF m 146 #[.val (.int p0), .val (.int p1), .val (.int p2), .val (.int p3), .val (.int p4), .val (.int p5), .val (.int i1), .val (.int i2), .val (.int n1), .val (.int n1), .val (.ref b34), .val (.int (p4 &&& (3 : Int32))), .val (.int i2), .val (.ref b37), .val (.int (1 : Int32))] [(.ref b37)])
        refine X43.step (fun hA hx hq t k => XS.aload hA hx rfl (hb hq at_146) rfl rfl k) ?_
        show OFin _ _ _ _ _ _ _ _ T43 (mkF m 148 #[.val (.int p0), .val (.int p1), .val (.int p2), .val (.int p3), .val (.int p4), .val (.int p5), .val (.int i1), .val (.int i2), .val (.int n1), .val (.int n1), .val (.ref b34), .val (.int (p4 &&& (3 : Int32))), .val (.int i2), .val (.ref b37), .val (.int (1 : Int32))] [(.ref b34), (.ref b37)])
        refine X43.callV (y' := (⟨"com/example/replay_proof/replayproof/model/IntruderValue", "equals", "(Ljava/lang/Object;)Z"⟩ : MethodName)) (z' := (⟨"com/example/replay_proof/replayproof/model/IntruderValue", "equals", "(Ljava/lang/Object;)Z"⟩ : MethodName)) (hw _ (List.mem_of_getElem? (i := 39) rfl)) (hw _ (List.mem_of_getElem? (i := 40) rfl)) (X43.notFace (hw _ (List.mem_of_getElem? (i := 42) rfl)) rfl) (hw _ (List.mem_of_getElem? (i := 42) rfl)) (hw _ (List.mem_of_getElem? (i := 41) rfl)) (hw _ (List.mem_of_getElem? (i := 7) rfl)) (hw _ (List.mem_of_getElem? (i := 43) rfl)) (by decide) E39 (argsL := [(.ref b34)]) (rest := []) (rm6 l Z a0 hw b37 b34 (own_kind i2 aT aN aK) (own_kind i1 aT aN aK) n1 n1 h39 n0 Fk39 Fn39 Gk Gn Ex) (g := (mkF m 148 #[.val (.int p0), .val (.int p1), .val (.int p2), .val (.int p3), .val (.int p4), .val (.int p5), .val (.int i1), .val (.int i2), .val (.int n1), .val (.int n1), .val (.ref b34), .val (.int (p4 &&& (3 : Int32))), .val (.int i2), .val (.ref b37), .val (.int (1 : Int32))] [(.ref b34), (.ref b37)])) rfl rfl pd_pLjava_lang_Object_r_Z rfl rfl (W := 0) (by show 2 * 0 + _ ≤ _; exact Nat.le_of_eq rfl) at_148 (by decide) (by decide) (by decide) (by decide) ?_
        intro v44 T44 h44 X44 q44
        obtain ⟨rfl, rfl⟩ := q44
        show OFin _ _ _ _ _ _ _ _ T44 (mkF m 151 #[.val (.int p0), .val (.int p1), .val (.int p2), .val (.int p3), .val (.int p4), .val (.int p5), .val (.int i1), .val (.int i2), .val (.int n1), .val (.int n1), .val (.ref b34), .val (.int (p4 &&& (3 : Int32))), .val (.int i2), .val (.ref b37), .val (.int (1 : Int32))] [(.int (if (own_kind i2 aT aN aK) = (own_kind i1 aT aN aK) ∧ n1 = n1 then 1 else 0 : Int32))])
        refine X44.step (fun hA hx hq t k => XS.iload hA hx rfl (hb hq at_151) rfl k) ?_
        show OFin _ _ _ _ _ _ _ _ T44 (mkF m 153 #[.val (.int p0), .val (.int p1), .val (.int p2), .val (.int p3), .val (.int p4), .val (.int p5), .val (.int i1), .val (.int i2), .val (.int n1), .val (.int n1), .val (.ref b34), .val (.int (p4 &&& (3 : Int32))), .val (.int i2), .val (.ref b37), .val (.int (1 : Int32))] [(.int (1 : Int32)), (.int (if (own_kind i2 aT aN aK) = (own_kind i1 aT aN aK) ∧ n1 = n1 then 1 else 0 : Int32))])
        refine X44.step (fun hA hx hq t k => XS.icmpNo hA hx rfl (hb hq at_153) rfl (teq (if_pos ⟨(hk.mpr d1).symm, rfl⟩)).2 k) ?_
        show OFin _ _ _ _ _ _ _ _ T44 (mkF m 156 #[.val (.int p0), .val (.int p1), .val (.int p2), .val (.int p3), .val (.int p4), .val (.int p5), .val (.int i1), .val (.int i2), .val (.int n1), .val (.int n1), .val (.ref b34), .val (.int (p4 &&& (3 : Int32))), .val (.int i2), .val (.ref b37), .val (.int (1 : Int32))] [])
        refine X44.step (fun hA hx hq t k => XS.aload hA hx rfl (hb hq at_156) rfl rfl k) ?_
        show OFin _ _ _ _ _ _ _ _ T44 (mkF m 158 #[.val (.int p0), .val (.int p1), .val (.int p2), .val (.int p3), .val (.int p4), .val (.int p5), .val (.int i1), .val (.int i2), .val (.int n1), .val (.int n1), .val (.ref b34), .val (.int (p4 &&& (3 : Int32))), .val (.int i2), .val (.ref b37), .val (.int (1 : Int32))] [(.ref b34)])
        refine X44.step (fun hA hx hq t k => XS.aload hA hx rfl (hb hq at_158) rfl rfl k) ?_
        show OFin _ _ _ _ _ _ _ _ T44 (mkF m 160 #[.val (.int p0), .val (.int p1), .val (.int p2), .val (.int p3), .val (.int p4), .val (.int p5), .val (.int i1), .val (.int i2), .val (.int n1), .val (.int n1), .val (.ref b34), .val (.int (p4 &&& (3 : Int32))), .val (.int i2), .val (.ref b37), .val (.int (1 : Int32))] [(.ref b34), (.ref b34)])
        refine X44.callV (y' := (⟨"com/example/replay_proof/replayproof/model/IntruderValue", "equals", "(Ljava/lang/Object;)Z"⟩ : MethodName)) (z' := (⟨"com/example/replay_proof/replayproof/model/IntruderValue", "equals", "(Ljava/lang/Object;)Z"⟩ : MethodName)) (hw _ (List.mem_of_getElem? (i := 39) rfl)) (hw _ (List.mem_of_getElem? (i := 40) rfl)) (X44.notFace (hw _ (List.mem_of_getElem? (i := 42) rfl)) rfl) (hw _ (List.mem_of_getElem? (i := 42) rfl)) (hw _ (List.mem_of_getElem? (i := 41) rfl)) (hw _ (List.mem_of_getElem? (i := 7) rfl)) (hw _ (List.mem_of_getElem? (i := 43) rfl)) (by decide) Ex (argsL := [(.ref b34)]) (rest := []) (rm6 l Z a0 hw b34 b34 (own_kind i1 aT aN aK) (own_kind i1 aT aN aK) n1 n1 h39 n0 Gk Gn Gk Gn Ex) (g := (mkF m 160 #[.val (.int p0), .val (.int p1), .val (.int p2), .val (.int p3), .val (.int p4), .val (.int p5), .val (.int i1), .val (.int i2), .val (.int n1), .val (.int n1), .val (.ref b34), .val (.int (p4 &&& (3 : Int32))), .val (.int i2), .val (.ref b37), .val (.int (1 : Int32))] [(.ref b34), (.ref b34)])) rfl rfl pd_pLjava_lang_Object_r_Z rfl rfl (W := 0) (by show 2 * 0 + _ ≤ _; exact Nat.le_of_eq rfl) at_160 (by decide) (by decide) (by decide) (by decide) ?_
        intro v45 T45 h45 X45 q45
        obtain ⟨rfl, rfl⟩ := q45
        show OFin _ _ _ _ _ _ _ _ T45 (mkF m 163 #[.val (.int p0), .val (.int p1), .val (.int p2), .val (.int p3), .val (.int p4), .val (.int p5), .val (.int i1), .val (.int i2), .val (.int n1), .val (.int n1), .val (.ref b34), .val (.int (p4 &&& (3 : Int32))), .val (.int i2), .val (.ref b37), .val (.int (1 : Int32))] [(.int (if (own_kind i1 aT aN aK) = (own_kind i1 aT aN aK) ∧ n1 = n1 then 1 else 0 : Int32))])
        refine X45.step (fun hA hx hq t k => XS.ifNo hA hx rfl (hb hq at_163) rfl ((if0 _ _).trans (feq ((by rw [if_pos ⟨rfl, rfl⟩]; decide))).1) k) ?_
        show OFin _ _ _ _ _ _ _ _ T45 (mkF m 166 #[.val (.int p0), .val (.int p1), .val (.int p2), .val (.int p3), .val (.int p4), .val (.int p5), .val (.int i1), .val (.int i2), .val (.int n1), .val (.int n1), .val (.ref b34), .val (.int (p4 &&& (3 : Int32))), .val (.int i2), .val (.ref b37), .val (.int (1 : Int32))] [])
        refine X45.step (fun hA hx hq t k => XS.iconst hA hx rfl (hb hq at_166) k) ?_
        show OFin _ _ _ _ _ _ _ _ T45 (mkF m 167 #[.val (.int p0), .val (.int p1), .val (.int p2), .val (.int p3), .val (.int p4), .val (.int p5), .val (.int i1), .val (.int i2), .val (.int n1), .val (.int n1), .val (.ref b34), .val (.int (p4 &&& (3 : Int32))), .val (.int i2), .val (.ref b37), .val (.int (1 : Int32))] [(.int (1 : Int32))])
        refine X45.step (fun hA hx hq t k => XS.goto hA hx rfl (pc0 := 167) (pc' := 171) rfl (hb hq at_167) (by decide) (by decide) k) ?_
        show OFin _ _ _ _ _ _ _ _ T45 (mkF m 171 #[.val (.int p0), .val (.int p1), .val (.int p2), .val (.int p3), .val (.int p4), .val (.int p5), .val (.int i1), .val (.int i2), .val (.int n1), .val (.int n1), .val (.ref b34), .val (.int (p4 &&& (3 : Int32))), .val (.int i2), .val (.ref b37), .val (.int (1 : Int32))] [(.int (1 : Int32))])
        exact X45.retN (by simp) at_171 (by decide) (by decide) (rfl)
      · refine X39.step (fun hA hx hq t k => XS.icmpYes hA hx rfl (pc0 := 115) (pc' := 129) rfl (hb hq at_115) rfl (feq (d1)).2 (by decide) (by decide) k) ?_
        show OFin _ _ _ _ _ _ _ _ T39 (mkF m 129 #[.val (.int p0), .val (.int p1), .val (.int p2), .val (.int p3), .val (.int p4), .val (.int p5), .val (.int i1), .val (.int i2), .val (.int n1), .val (.int n1), .val (.ref b34), .val (.int (p4 &&& (3 : Int32))), .val (.int i2), .val (.ref b37), .unset] [])
        refine X39.step (fun hA hx hq t k => XS.iconst hA hx rfl (hb hq at_129) k) ?_
        show OFin _ _ _ _ _ _ _ _ T39 (mkF m 130 #[.val (.int p0), .val (.int p1), .val (.int p2), .val (.int p3), .val (.int p4), .val (.int p5), .val (.int i1), .val (.int i2), .val (.int n1), .val (.int n1), .val (.ref b34), .val (.int (p4 &&& (3 : Int32))), .val (.int i2), .val (.ref b37), .unset] [(.int (0 : Int32))])
        refine X39.step (fun hA hx hq t k => XS.istore hA hx rfl (hb hq at_130) rfl (l' := #[.val (.int p0), .val (.int p1), .val (.int p2), .val (.int p3), .val (.int p4), .val (.int p5), .val (.int i1), .val (.int i2), .val (.int n1), .val (.int n1), .val (.ref b34), .val (.int (p4 &&& (3 : Int32))), .val (.int i2), .val (.ref b37), .val (.int (0 : Int32))]) rfl k) ?_
        show OFin _ _ _ _ _ _ _ _ T39 (mkF m 132 #[.val (.int p0), .val (.int p1), .val (.int p2), .val (.int p3), .val (.int p4), .val (.int p5), .val (.int i1), .val (.int i2), .val (.int n1), .val (.int n1), .val (.ref b34), .val (.int (p4 &&& (3 : Int32))), .val (.int i2), .val (.ref b37), .val (.int (0 : Int32))] [])
        refine X39.step (fun hA hx hq t k => XS.aload hA hx rfl (hb hq at_132) rfl rfl k) ?_
        show OFin _ _ _ _ _ _ _ _ T39 (mkF m 134 #[.val (.int p0), .val (.int p1), .val (.int p2), .val (.int p3), .val (.int p4), .val (.int p5), .val (.int i1), .val (.int i2), .val (.int n1), .val (.int n1), .val (.ref b34), .val (.int (p4 &&& (3 : Int32))), .val (.int i2), .val (.ref b37), .val (.int (0 : Int32))] [(.ref b34)])
        refine X39.step (fun hA hx hq t k => XS.aload hA hx rfl (hb hq at_134) rfl rfl k) ?_
        show OFin _ _ _ _ _ _ _ _ T39 (mkF m 136 #[.val (.int p0), .val (.int p1), .val (.int p2), .val (.int p3), .val (.int p4), .val (.int p5), .val (.int i1), .val (.int i2), .val (.int n1), .val (.int n1), .val (.ref b34), .val (.int (p4 &&& (3 : Int32))), .val (.int i2), .val (.ref b37), .val (.int (0 : Int32))] [(.ref b37), (.ref b34)])
        refine X39.callV (y' := (⟨"com/example/replay_proof/replayproof/model/IntruderValue", "equals", "(Ljava/lang/Object;)Z"⟩ : MethodName)) (z' := (⟨"com/example/replay_proof/replayproof/model/IntruderValue", "equals", "(Ljava/lang/Object;)Z"⟩ : MethodName)) (hw _ (List.mem_of_getElem? (i := 39) rfl)) (hw _ (List.mem_of_getElem? (i := 40) rfl)) (X39.notFace (hw _ (List.mem_of_getElem? (i := 42) rfl)) rfl) (hw _ (List.mem_of_getElem? (i := 42) rfl)) (hw _ (List.mem_of_getElem? (i := 41) rfl)) (hw _ (List.mem_of_getElem? (i := 7) rfl)) (hw _ (List.mem_of_getElem? (i := 43) rfl)) (by decide) Ex (argsL := [(.ref b37)]) (rest := []) (rm6 l Z a0 hw b34 b37 (own_kind i1 aT aN aK) (own_kind i2 aT aN aK) n1 n1 h39 n0 Gk Gn Fk39 Fn39 E39) (g := (mkF m 136 #[.val (.int p0), .val (.int p1), .val (.int p2), .val (.int p3), .val (.int p4), .val (.int p5), .val (.int i1), .val (.int i2), .val (.int n1), .val (.int n1), .val (.ref b34), .val (.int (p4 &&& (3 : Int32))), .val (.int i2), .val (.ref b37), .val (.int (0 : Int32))] [(.ref b37), (.ref b34)])) rfl rfl pd_pLjava_lang_Object_r_Z rfl rfl (W := 0) (by show 2 * 0 + _ ≤ _; exact Nat.le_of_eq rfl) at_136 (by decide) (by decide) (by decide) (by decide) ?_
        intro v40 T40 h40 X40 q40
        obtain ⟨rfl, rfl⟩ := q40
        show OFin _ _ _ _ _ _ _ _ T40 (mkF m 139 #[.val (.int p0), .val (.int p1), .val (.int p2), .val (.int p3), .val (.int p4), .val (.int p5), .val (.int i1), .val (.int i2), .val (.int n1), .val (.int n1), .val (.ref b34), .val (.int (p4 &&& (3 : Int32))), .val (.int i2), .val (.ref b37), .val (.int (0 : Int32))] [(.int (if (own_kind i1 aT aN aK) = (own_kind i2 aT aN aK) ∧ n1 = n1 then 1 else 0 : Int32))])
        refine X40.step (fun hA hx hq t k => XS.iload hA hx rfl (hb hq at_139) rfl k) ?_
        show OFin _ _ _ _ _ _ _ _ T40 (mkF m 141 #[.val (.int p0), .val (.int p1), .val (.int p2), .val (.int p3), .val (.int p4), .val (.int p5), .val (.int i1), .val (.int i2), .val (.int n1), .val (.int n1), .val (.ref b34), .val (.int (p4 &&& (3 : Int32))), .val (.int i2), .val (.ref b37), .val (.int (0 : Int32))] [(.int (0 : Int32)), (.int (if (own_kind i1 aT aN aK) = (own_kind i2 aT aN aK) ∧ n1 = n1 then 1 else 0 : Int32))])
        refine X40.step (fun hA hx hq t k => XS.icmpNo hA hx rfl (hb hq at_141) rfl (teq (if_neg fun q => d1 (hk.mp q.1))).2 k) ?_
        show OFin _ _ _ _ _ _ _ _ T40 (mkF m 144 #[.val (.int p0), .val (.int p1), .val (.int p2), .val (.int p3), .val (.int p4), .val (.int p5), .val (.int i1), .val (.int i2), .val (.int n1), .val (.int n1), .val (.ref b34), .val (.int (p4 &&& (3 : Int32))), .val (.int i2), .val (.ref b37), .val (.int (0 : Int32))] [])
        refine X40.step (fun hA hx hq t k => XS.aload hA hx rfl (hb hq at_144) rfl rfl k) ?_
        show OFin _ _ _ _ _ _ _ _ T40 (mkF m 146 #[.val (.int p0), .val (.int p1), .val (.int p2), .val (.int p3), .val (.int p4), .val (.int p5), .val (.int i1), .val (.int i2), .val (.int n1), .val (.int n1), .val (.ref b34), .val (.int (p4 &&& (3 : Int32))), .val (.int i2), .val (.ref b37), .val (.int (0 : Int32))] [(.ref b37)])
        refine X40.step (fun hA hx hq t k => XS.aload hA hx rfl (hb hq at_146) rfl rfl k) ?_
        show OFin _ _ _ _ _ _ _ _ T40 (mkF m 148 #[.val (.int p0), .val (.int p1), .val (.int p2), .val (.int p3), .val (.int p4), .val (.int p5), .val (.int i1), .val (.int i2), .val (.int n1), .val (.int n1), .val (.ref b34), .val (.int (p4 &&& (3 : Int32))), .val (.int i2), .val (.ref b37), .val (.int (0 : Int32))] [(.ref b34), (.ref b37)])
        refine X40.callV (y' := (⟨"com/example/replay_proof/replayproof/model/IntruderValue", "equals", "(Ljava/lang/Object;)Z"⟩ : MethodName)) (z' := (⟨"com/example/replay_proof/replayproof/model/IntruderValue", "equals", "(Ljava/lang/Object;)Z"⟩ : MethodName)) (hw _ (List.mem_of_getElem? (i := 39) rfl)) (hw _ (List.mem_of_getElem? (i := 40) rfl)) (X40.notFace (hw _ (List.mem_of_getElem? (i := 42) rfl)) rfl) (hw _ (List.mem_of_getElem? (i := 42) rfl)) (hw _ (List.mem_of_getElem? (i := 41) rfl)) (hw _ (List.mem_of_getElem? (i := 7) rfl)) (hw _ (List.mem_of_getElem? (i := 43) rfl)) (by decide) E39 (argsL := [(.ref b34)]) (rest := []) (rm6 l Z a0 hw b37 b34 (own_kind i2 aT aN aK) (own_kind i1 aT aN aK) n1 n1 h39 n0 Fk39 Fn39 Gk Gn Ex) (g := (mkF m 148 #[.val (.int p0), .val (.int p1), .val (.int p2), .val (.int p3), .val (.int p4), .val (.int p5), .val (.int i1), .val (.int i2), .val (.int n1), .val (.int n1), .val (.ref b34), .val (.int (p4 &&& (3 : Int32))), .val (.int i2), .val (.ref b37), .val (.int (0 : Int32))] [(.ref b34), (.ref b37)])) rfl rfl pd_pLjava_lang_Object_r_Z rfl rfl (W := 0) (by show 2 * 0 + _ ≤ _; exact Nat.le_of_eq rfl) at_148 (by decide) (by decide) (by decide) (by decide) ?_
        intro v41 T41 h41 X41 q41
        obtain ⟨rfl, rfl⟩ := q41
        show OFin _ _ _ _ _ _ _ _ T41 (mkF m 151 #[.val (.int p0), .val (.int p1), .val (.int p2), .val (.int p3), .val (.int p4), .val (.int p5), .val (.int i1), .val (.int i2), .val (.int n1), .val (.int n1), .val (.ref b34), .val (.int (p4 &&& (3 : Int32))), .val (.int i2), .val (.ref b37), .val (.int (0 : Int32))] [(.int (if (own_kind i2 aT aN aK) = (own_kind i1 aT aN aK) ∧ n1 = n1 then 1 else 0 : Int32))])
        refine X41.step (fun hA hx hq t k => XS.iload hA hx rfl (hb hq at_151) rfl k) ?_
        show OFin _ _ _ _ _ _ _ _ T41 (mkF m 153 #[.val (.int p0), .val (.int p1), .val (.int p2), .val (.int p3), .val (.int p4), .val (.int p5), .val (.int i1), .val (.int i2), .val (.int n1), .val (.int n1), .val (.ref b34), .val (.int (p4 &&& (3 : Int32))), .val (.int i2), .val (.ref b37), .val (.int (0 : Int32))] [(.int (0 : Int32)), (.int (if (own_kind i2 aT aN aK) = (own_kind i1 aT aN aK) ∧ n1 = n1 then 1 else 0 : Int32))])
        refine X41.step (fun hA hx hq t k => XS.icmpNo hA hx rfl (hb hq at_153) rfl (teq (if_neg fun q => d1 (hk.mp q.1.symm))).2 k) ?_
        show OFin _ _ _ _ _ _ _ _ T41 (mkF m 156 #[.val (.int p0), .val (.int p1), .val (.int p2), .val (.int p3), .val (.int p4), .val (.int p5), .val (.int i1), .val (.int i2), .val (.int n1), .val (.int n1), .val (.ref b34), .val (.int (p4 &&& (3 : Int32))), .val (.int i2), .val (.ref b37), .val (.int (0 : Int32))] [])
        refine X41.step (fun hA hx hq t k => XS.aload hA hx rfl (hb hq at_156) rfl rfl k) ?_
        show OFin _ _ _ _ _ _ _ _ T41 (mkF m 158 #[.val (.int p0), .val (.int p1), .val (.int p2), .val (.int p3), .val (.int p4), .val (.int p5), .val (.int i1), .val (.int i2), .val (.int n1), .val (.int n1), .val (.ref b34), .val (.int (p4 &&& (3 : Int32))), .val (.int i2), .val (.ref b37), .val (.int (0 : Int32))] [(.ref b34)])
        refine X41.step (fun hA hx hq t k => XS.aload hA hx rfl (hb hq at_158) rfl rfl k) ?_
        show OFin _ _ _ _ _ _ _ _ T41 (mkF m 160 #[.val (.int p0), .val (.int p1), .val (.int p2), .val (.int p3), .val (.int p4), .val (.int p5), .val (.int i1), .val (.int i2), .val (.int n1), .val (.int n1), .val (.ref b34), .val (.int (p4 &&& (3 : Int32))), .val (.int i2), .val (.ref b37), .val (.int (0 : Int32))] [(.ref b34), (.ref b34)])
        refine X41.callV (y' := (⟨"com/example/replay_proof/replayproof/model/IntruderValue", "equals", "(Ljava/lang/Object;)Z"⟩ : MethodName)) (z' := (⟨"com/example/replay_proof/replayproof/model/IntruderValue", "equals", "(Ljava/lang/Object;)Z"⟩ : MethodName)) (hw _ (List.mem_of_getElem? (i := 39) rfl)) (hw _ (List.mem_of_getElem? (i := 40) rfl)) (X41.notFace (hw _ (List.mem_of_getElem? (i := 42) rfl)) rfl) (hw _ (List.mem_of_getElem? (i := 42) rfl)) (hw _ (List.mem_of_getElem? (i := 41) rfl)) (hw _ (List.mem_of_getElem? (i := 7) rfl)) (hw _ (List.mem_of_getElem? (i := 43) rfl)) (by decide) Ex (argsL := [(.ref b34)]) (rest := []) (rm6 l Z a0 hw b34 b34 (own_kind i1 aT aN aK) (own_kind i1 aT aN aK) n1 n1 h39 n0 Gk Gn Gk Gn Ex) (g := (mkF m 160 #[.val (.int p0), .val (.int p1), .val (.int p2), .val (.int p3), .val (.int p4), .val (.int p5), .val (.int i1), .val (.int i2), .val (.int n1), .val (.int n1), .val (.ref b34), .val (.int (p4 &&& (3 : Int32))), .val (.int i2), .val (.ref b37), .val (.int (0 : Int32))] [(.ref b34), (.ref b34)])) rfl rfl pd_pLjava_lang_Object_r_Z rfl rfl (W := 0) (by show 2 * 0 + _ ≤ _; exact Nat.le_of_eq rfl) at_160 (by decide) (by decide) (by decide) (by decide) ?_
        intro v42 T42 h42 X42 q42
        obtain ⟨rfl, rfl⟩ := q42
        show OFin _ _ _ _ _ _ _ _ T42 (mkF m 163 #[.val (.int p0), .val (.int p1), .val (.int p2), .val (.int p3), .val (.int p4), .val (.int p5), .val (.int i1), .val (.int i2), .val (.int n1), .val (.int n1), .val (.ref b34), .val (.int (p4 &&& (3 : Int32))), .val (.int i2), .val (.ref b37), .val (.int (0 : Int32))] [(.int (if (own_kind i1 aT aN aK) = (own_kind i1 aT aN aK) ∧ n1 = n1 then 1 else 0 : Int32))])
        refine X42.step (fun hA hx hq t k => XS.ifNo hA hx rfl (hb hq at_163) rfl ((if0 _ _).trans (feq ((by rw [if_pos ⟨rfl, rfl⟩]; decide))).1) k) ?_
        show OFin _ _ _ _ _ _ _ _ T42 (mkF m 166 #[.val (.int p0), .val (.int p1), .val (.int p2), .val (.int p3), .val (.int p4), .val (.int p5), .val (.int i1), .val (.int i2), .val (.int n1), .val (.int n1), .val (.ref b34), .val (.int (p4 &&& (3 : Int32))), .val (.int i2), .val (.ref b37), .val (.int (0 : Int32))] [])
        refine X42.step (fun hA hx hq t k => XS.iconst hA hx rfl (hb hq at_166) k) ?_
        show OFin _ _ _ _ _ _ _ _ T42 (mkF m 167 #[.val (.int p0), .val (.int p1), .val (.int p2), .val (.int p3), .val (.int p4), .val (.int p5), .val (.int i1), .val (.int i2), .val (.int n1), .val (.int n1), .val (.ref b34), .val (.int (p4 &&& (3 : Int32))), .val (.int i2), .val (.ref b37), .val (.int (0 : Int32))] [(.int (1 : Int32))])
        refine X42.step (fun hA hx hq t k => XS.goto hA hx rfl (pc0 := 167) (pc' := 171) rfl (hb hq at_167) (by decide) (by decide) k) ?_
        show OFin _ _ _ _ _ _ _ _ T42 (mkF m 171 #[.val (.int p0), .val (.int p1), .val (.int p2), .val (.int p3), .val (.int p4), .val (.int p5), .val (.int i1), .val (.int i2), .val (.int n1), .val (.int n1), .val (.ref b34), .val (.int (p4 &&& (3 : Int32))), .val (.int i2), .val (.ref b37), .val (.int (0 : Int32))] [(.int (1 : Int32))])
        exact X42.retN (by simp) at_171 (by decide) (by decide) (rfl)
    · refine X36.step (fun hA hx hq t k => XS.ifNo hA hx rfl (hb hq at_72) rfl ((if0 _ _).trans (feq (c1)).1) k) ?_
      show OFin _ _ _ _ _ _ _ _ T36 (mkF m 75 #[.val (.int p0), .val (.int p1), .val (.int p2), .val (.int p3), .val (.int p4), .val (.int p5), .val (.int i1), .val (.int i2), .val (.int n1), .val (.int n1), .val (.ref b34), .val (.int (p4 &&& (3 : Int32))), .unset, .unset, .unset] [])
      refine X36.step (fun hA hx hq t k => XS.iload hA hx rfl (hb hq at_75) rfl k) ?_
      show OFin _ _ _ _ _ _ _ _ T36 (mkF m 77 #[.val (.int p0), .val (.int p1), .val (.int p2), .val (.int p3), .val (.int p4), .val (.int p5), .val (.int i1), .val (.int i2), .val (.int n1), .val (.int n1), .val (.ref b34), .val (.int (p4 &&& (3 : Int32))), .unset, .unset, .unset] [(.int (p4 &&& (3 : Int32)))])
      refine X36.step (fun hA hx hq t k => XS.iconst hA hx rfl (hb hq at_77) k) ?_
      show OFin _ _ _ _ _ _ _ _ T36 (mkF m 78 #[.val (.int p0), .val (.int p1), .val (.int p2), .val (.int p3), .val (.int p4), .val (.int p5), .val (.int i1), .val (.int i2), .val (.int n1), .val (.int n1), .val (.ref b34), .val (.int (p4 &&& (3 : Int32))), .unset, .unset, .unset] [(.int (1 : Int32)), (.int (p4 &&& (3 : Int32)))])
      by_cases c2 : (p4 &&& (3 : Int32)) = (1 : Int32)
      · refine X36.step (fun hA hx hq t k => XS.icmpNo hA hx rfl (hb hq at_78) rfl (teq (c2)).2 k) ?_
        show OFin _ _ _ _ _ _ _ _ T36 (mkF m 81 #[.val (.int p0), .val (.int p1), .val (.int p2), .val (.int p3), .val (.int p4), .val (.int p5), .val (.int i1), .val (.int i2), .val (.int n1), .val (.int n1), .val (.ref b34), .val (.int (p4 &&& (3 : Int32))), .unset, .unset, .unset] [])
        refine X36.step (fun hA hx hq t k => XS.iload hA hx rfl (hb hq at_81) rfl k) ?_
        show OFin _ _ _ _ _ _ _ _ T36 (mkF m 83 #[.val (.int p0), .val (.int p1), .val (.int p2), .val (.int p3), .val (.int p4), .val (.int p5), .val (.int i1), .val (.int i2), .val (.int n1), .val (.int n1), .val (.ref b34), .val (.int (p4 &&& (3 : Int32))), .unset, .unset, .unset] [(.int (p4 &&& (3 : Int32)))])
        refine X36.step (fun hA hx hq t k => XS.ifYes hA hx rfl (pc0 := 83) (pc' := 91) rfl (hb hq at_83) rfl ((if0 _ _).trans (feq (c1)).2) (by decide) (by decide) k) ?_
        show OFin _ _ _ _ _ _ _ _ T36 (mkF m 91 #[.val (.int p0), .val (.int p1), .val (.int p2), .val (.int p3), .val (.int p4), .val (.int p5), .val (.int i1), .val (.int i2), .val (.int n1), .val (.int n1), .val (.ref b34), .val (.int (p4 &&& (3 : Int32))), .unset, .unset, .unset] [])
        refine X36.step (fun hA hx hq t k => XS.iload hA hx rfl (hb hq at_91) rfl k) ?_
        show OFin _ _ _ _ _ _ _ _ T36 (mkF m 93 #[.val (.int p0), .val (.int p1), .val (.int p2), .val (.int p3), .val (.int p4), .val (.int p5), .val (.int i1), .val (.int i2), .val (.int n1), .val (.int n1), .val (.ref b34), .val (.int (p4 &&& (3 : Int32))), .unset, .unset, .unset] [(.int i1)])
        refine X36.step (fun hA hx hq t k => XS.istore hA hx rfl (hb hq at_93) rfl (l' := #[.val (.int p0), .val (.int p1), .val (.int p2), .val (.int p3), .val (.int p4), .val (.int p5), .val (.int i1), .val (.int i2), .val (.int n1), .val (.int n1), .val (.ref b34), .val (.int (p4 &&& (3 : Int32))), .val (.int i1), .unset, .unset]) rfl k) ?_
        show OFin _ _ _ _ _ _ _ _ T36 (mkF m 95 #[.val (.int p0), .val (.int p1), .val (.int p2), .val (.int p3), .val (.int p4), .val (.int p5), .val (.int i1), .val (.int i2), .val (.int n1), .val (.int n1), .val (.ref b34), .val (.int (p4 &&& (3 : Int32))), .val (.int i1), .unset, .unset] [])
        refine X36.newO (hw _ (List.mem_of_getElem? (i := 5) rfl)) (hw _ (List.mem_of_getElem? (i := 6) rfl)) (hw _ (List.mem_of_getElem? (i := 7) rfl)) (g := (mkF m 95 #[.val (.int p0), .val (.int p1), .val (.int p2), .val (.int p3), .val (.int p4), .val (.int p5), .val (.int i1), .val (.int i2), .val (.int n1), .val (.int n1), .val (.ref b34), .val (.int (p4 &&& (3 : Int32))), .val (.int i1), .unset, .unset] [])) rfl at_95 (by decide) (by decide) ?_
        intro T46 h46 b46 gb46 X46 E46 A46 D46
        show OFin _ _ _ _ _ _ _ _ T46 (mkF m 98 #[.val (.int p0), .val (.int p1), .val (.int p2), .val (.int p3), .val (.int p4), .val (.int p5), .val (.int i1), .val (.int i2), .val (.int n1), .val (.int n1), .val (.ref b34), .val (.int (p4 &&& (3 : Int32))), .val (.int i1), .unset, .unset] [(.ref b46)])
        have O46 := O36.ext E46
        have Fa46 : Fld Z h46 b46 "com/example/replay_proof/replayproof/model/IntruderValue" "kind" "Lcom/example/replay_proof/replayproof/model/Name$Kind;" .null := D46 (Or.inr (hw _ (List.mem_of_getElem? (i := 34) rfl))) (ty := (.object "com/example/replay_proof/replayproof/model/Name$Kind")) (by decide)
        have Fb46 : Fld Z h46 b46 "com/example/replay_proof/replayproof/model/IntruderValue" "number" "I" (.int 0) := D46 (Or.inr (hw _ (List.mem_of_getElem? (i := 36) rfl))) (ty := .int) (by decide)
        have hn46 : n0 ≤ b46 := by rw [gb46]; exact Nat.le_trans (Nat.le_of_eq O36.1.symm) O36.2.1
        refine X46.step (fun hA hx hq t k => XS.dup hA hx rfl (hb hq at_98) rfl rfl k) ?_
        show OFin _ _ _ _ _ _ _ _ T46 (mkF m 99 #[.val (.int p0), .val (.int p1), .val (.int p2), .val (.int p3), .val (.int p4), .val (.int p5), .val (.int i1), .val (.int i2), .val (.int n1), .val (.int n1), .val (.ref b34), .val (.int (p4 &&& (3 : Int32))), .val (.int i1), .unset, .unset] [(.ref b46), (.ref b46)])
        refine X46.step (fun hA hx hq t k => XS.iload hA hx rfl (hb hq at_99) rfl k) ?_
        show OFin _ _ _ _ _ _ _ _ T46 (mkF m 101 #[.val (.int p0), .val (.int p1), .val (.int p2), .val (.int p3), .val (.int p4), .val (.int p5), .val (.int i1), .val (.int i2), .val (.int n1), .val (.int n1), .val (.ref b34), .val (.int (p4 &&& (3 : Int32))), .val (.int i1), .unset, .unset] [(.int i1), (.ref b46), (.ref b46)])
        refine X46.callS (y' := (⟨"com/example/replay_proof/replayproof/model/IntruderValueEqualsPinLaw", "kindOf", "(I)Lcom/example/replay_proof/replayproof/model/Name$Kind;"⟩ : MethodName)) (hw _ (List.mem_of_getElem? (i := 8) rfl)) (hw _ (List.mem_of_getElem? (i := 9) rfl)) (hw _ (List.mem_of_getElem? (i := 10) rfl)) (hw _ (List.mem_of_getElem? (i := 11) rfl)) (by decide) (argsL := [(.int i1)]) (rest := [(.ref b46), (.ref b46)]) (rm2 l Z a0 hw i1 aT aN aK h46 n0 (ST.ext O46.2) (SN.ext O46.2) (SK.ext O46.2)) (g := (mkF m 101 #[.val (.int p0), .val (.int p1), .val (.int p2), .val (.int p3), .val (.int p4), .val (.int p5), .val (.int i1), .val (.int i2), .val (.int n1), .val (.int n1), .val (.ref b34), .val (.int (p4 &&& (3 : Int32))), .val (.int i1), .unset, .unset] [(.int i1), (.ref b46), (.ref b46)])) rfl rfl pd_pIr_Lcom_example_replay_proof_replayproof_model_Name_Kind_ rfl rfl (W := 2) (by show 2 * 0 + _ ≤ _; exact Nat.le_of_eq rfl) at_101 (by decide) (by decide) (by decide) (by decide) ?_
        intro v47 T47 h47 X47 q47
        obtain ⟨rfl, rfl⟩ := q47
        show OFin _ _ _ _ _ _ _ _ T47 (mkF m 104 #[.val (.int p0), .val (.int p1), .val (.int p2), .val (.int p3), .val (.int p4), .val (.int p5), .val (.int i1), .val (.int i2), .val (.int n1), .val (.int n1), .val (.ref b34), .val (.int (p4 &&& (3 : Int32))), .val (.int i1), .unset, .unset] [(.ref (own_kind i1 aT aN aK)), (.ref b46), (.ref b46)])
        refine X47.step (fun hA hx hq t k => XS.iload hA hx rfl (hb hq at_104) rfl k) ?_
        show OFin _ _ _ _ _ _ _ _ T47 (mkF m 106 #[.val (.int p0), .val (.int p1), .val (.int p2), .val (.int p3), .val (.int p4), .val (.int p5), .val (.int i1), .val (.int i2), .val (.int n1), .val (.int n1), .val (.ref b34), .val (.int (p4 &&& (3 : Int32))), .val (.int i1), .unset, .unset] [(.int n1), (.ref (own_kind i1 aT aN aK)), (.ref b46), (.ref b46)])
        refine X47.callI (y' := (⟨"com/example/replay_proof/replayproof/model/IntruderValue", "<init>", "(Lcom/example/replay_proof/replayproof/model/Name$Kind;I)V"⟩ : MethodName)) rfl (hw _ (List.mem_of_getElem? (i := 15) rfl)) (hw _ (List.mem_of_getElem? (i := 16) rfl)) (hw _ (List.mem_of_getElem? (i := 7) rfl)) (hw _ (List.mem_of_getElem? (i := 17) rfl)) (by decide) (a := b46) (argsL := [(.ref (own_kind i1 aT aN aK)), (.int n1)]) (rest := [(.ref b46)]) (rm5 l Z a0 hw b46 (own_kind i1 aT aN aK) n1 h46 n0 Fa46 Fb46 A46 hn46 (own_kp (P := fun a => Exa Z _ a _) i1 (ET.ext O46.2) (EN.ext O46.2) (EK.ext O46.2)) (own_kp (P := fun a => Fld Z _ a _ _ _ _) i1 (FT.ext O46.2) (FN.ext O46.2) (FK.ext O46.2)) g1) (g := (mkF m 106 #[.val (.int p0), .val (.int p1), .val (.int p2), .val (.int p3), .val (.int p4), .val (.int p5), .val (.int i1), .val (.int i2), .val (.int n1), .val (.int n1), .val (.ref b34), .val (.int (p4 &&& (3 : Int32))), .val (.int i1), .unset, .unset] [(.int n1), (.ref (own_kind i1 aT aN aK)), (.ref b46), (.ref b46)])) rfl rfl pd_pLcom_example_replay_proof_replayproof_model_Name_Kind_Ir_V rfl rfl (W := 1) (by show 2 * 0 + _ ≤ _; exact Nat.le_of_eq rfl) at_106 (by decide) (by decide) (by decide) (by decide) ?_
        intro v48 T48 h48 X48 q48
        obtain ⟨rfl, K48, E48, Fk48, Fn48⟩ := q48
        show OFin _ _ _ _ _ _ _ _ T48 (mkF m 109 #[.val (.int p0), .val (.int p1), .val (.int p2), .val (.int p3), .val (.int p4), .val (.int p5), .val (.int i1), .val (.int i2), .val (.int n1), .val (.int n1), .val (.ref b34), .val (.int (p4 &&& (3 : Int32))), .val (.int i1), .unset, .unset] [(.ref b46)])
        have O48 := O46.keep K48 (allS hn46 all0)
        have Ex := A34.keep K36 |>.ext E46 |>.keep K48
        have ne : b34 ≠ b46 := by rw [gb46]; exact Nat.ne_of_lt E36.lt
        have Gk := (Fk36.ext E46).keep K48 (ninS ne nin0)
        have Gn := (Fn36.ext E46).keep K48 (ninS ne nin0)
        have hk := own_kinj q1 q2 q3 r1 r1
        refine X48.step (fun hA hx hq t k => XS.astore hA hx rfl (hb hq at_109) rfl rfl (l' := #[.val (.int p0), .val (.int p1), .val (.int p2), .val (.int p3), .val (.int p4), .val (.int p5), .val (.int i1), .val (.int i2), .val (.int n1), .val (.int n1), .val (.ref b34), .val (.int (p4 &&& (3 : Int32))), .val (.int i1), .val (.ref b46), .unset]) rfl k) ?_
        show OFin _ _ _ _ _ _ _ _ T48 (mkF m 111 #[.val (.int p0), .val (.int p1), .val (.int p2), .val (.int p3), .val (.int p4), .val (.int p5), .val (.int i1), .val (.int i2), .val (.int n1), .val (.int n1), .val (.ref b34), .val (.int (p4 &&& (3 : Int32))), .val (.int i1), .val (.ref b46), .unset] [])
        refine X48.step (fun hA hx hq t k => XS.iload hA hx rfl (hb hq at_111) rfl k) ?_
        show OFin _ _ _ _ _ _ _ _ T48 (mkF m 113 #[.val (.int p0), .val (.int p1), .val (.int p2), .val (.int p3), .val (.int p4), .val (.int p5), .val (.int i1), .val (.int i2), .val (.int n1), .val (.int n1), .val (.ref b34), .val (.int (p4 &&& (3 : Int32))), .val (.int i1), .val (.ref b46), .unset] [(.int i1)])
        refine X48.step (fun hA hx hq t k => XS.iload hA hx rfl (hb hq at_113) rfl k) ?_
        show OFin _ _ _ _ _ _ _ _ T48 (mkF m 115 #[.val (.int p0), .val (.int p1), .val (.int p2), .val (.int p3), .val (.int p4), .val (.int p5), .val (.int i1), .val (.int i2), .val (.int n1), .val (.int n1), .val (.ref b34), .val (.int (p4 &&& (3 : Int32))), .val (.int i1), .val (.ref b46), .unset] [(.int i1), (.int i1)])
        refine X48.step (fun hA hx hq t k => XS.icmpNo hA hx rfl (hb hq at_115) rfl (teq ((rfl : i1 = i1))).2 k) ?_
        show OFin _ _ _ _ _ _ _ _ T48 (mkF m 118 #[.val (.int p0), .val (.int p1), .val (.int p2), .val (.int p3), .val (.int p4), .val (.int p5), .val (.int i1), .val (.int i2), .val (.int n1), .val (.int n1), .val (.ref b34), .val (.int (p4 &&& (3 : Int32))), .val (.int i1), .val (.ref b46), .unset] [])
        refine X48.step (fun hA hx hq t k => XS.iload hA hx rfl (hb hq at_118) rfl k) ?_
        show OFin _ _ _ _ _ _ _ _ T48 (mkF m 120 #[.val (.int p0), .val (.int p1), .val (.int p2), .val (.int p3), .val (.int p4), .val (.int p5), .val (.int i1), .val (.int i2), .val (.int n1), .val (.int n1), .val (.ref b34), .val (.int (p4 &&& (3 : Int32))), .val (.int i1), .val (.ref b46), .unset] [(.int n1)])
        refine X48.step (fun hA hx hq t k => XS.iload hA hx rfl (hb hq at_120) rfl k) ?_
        show OFin _ _ _ _ _ _ _ _ T48 (mkF m 122 #[.val (.int p0), .val (.int p1), .val (.int p2), .val (.int p3), .val (.int p4), .val (.int p5), .val (.int i1), .val (.int i2), .val (.int n1), .val (.int n1), .val (.ref b34), .val (.int (p4 &&& (3 : Int32))), .val (.int i1), .val (.ref b46), .unset] [(.int n1), (.int n1)])
        refine X48.step (fun hA hx hq t k => XS.icmpNo hA hx rfl (hb hq at_122) rfl (teq ((rfl : n1 = n1))).2 k) ?_
        show OFin _ _ _ _ _ _ _ _ T48 (mkF m 125 #[.val (.int p0), .val (.int p1), .val (.int p2), .val (.int p3), .val (.int p4), .val (.int p5), .val (.int i1), .val (.int i2), .val (.int n1), .val (.int n1), .val (.ref b34), .val (.int (p4 &&& (3 : Int32))), .val (.int i1), .val (.ref b46), .unset] [])
        refine X48.step (fun hA hx hq t k => XS.iconst hA hx rfl (hb hq at_125) k) ?_
        show OFin _ _ _ _ _ _ _ _ T48 (mkF m 126 #[.val (.int p0), .val (.int p1), .val (.int p2), .val (.int p3), .val (.int p4), .val (.int p5), .val (.int i1), .val (.int i2), .val (.int n1), .val (.int n1), .val (.ref b34), .val (.int (p4 &&& (3 : Int32))), .val (.int i1), .val (.ref b46), .unset] [(.int (1 : Int32))])
        refine X48.step (fun hA hx hq t k => XS.goto hA hx rfl (pc0 := 126) (pc' := 130) rfl (hb hq at_126) (by decide) (by decide) k) ?_
        show OFin _ _ _ _ _ _ _ _ T48 (mkF m 130 #[.val (.int p0), .val (.int p1), .val (.int p2), .val (.int p3), .val (.int p4), .val (.int p5), .val (.int i1), .val (.int i2), .val (.int n1), .val (.int n1), .val (.ref b34), .val (.int (p4 &&& (3 : Int32))), .val (.int i1), .val (.ref b46), .unset] [(.int (1 : Int32))])
        refine X48.step (fun hA hx hq t k => XS.istore hA hx rfl (hb hq at_130) rfl (l' := #[.val (.int p0), .val (.int p1), .val (.int p2), .val (.int p3), .val (.int p4), .val (.int p5), .val (.int i1), .val (.int i2), .val (.int n1), .val (.int n1), .val (.ref b34), .val (.int (p4 &&& (3 : Int32))), .val (.int i1), .val (.ref b46), .val (.int (1 : Int32))]) rfl k) ?_
        show OFin _ _ _ _ _ _ _ _ T48 (mkF m 132 #[.val (.int p0), .val (.int p1), .val (.int p2), .val (.int p3), .val (.int p4), .val (.int p5), .val (.int i1), .val (.int i2), .val (.int n1), .val (.int n1), .val (.ref b34), .val (.int (p4 &&& (3 : Int32))), .val (.int i1), .val (.ref b46), .val (.int (1 : Int32))] [])
        refine X48.step (fun hA hx hq t k => XS.aload hA hx rfl (hb hq at_132) rfl rfl k) ?_
        show OFin _ _ _ _ _ _ _ _ T48 (mkF m 134 #[.val (.int p0), .val (.int p1), .val (.int p2), .val (.int p3), .val (.int p4), .val (.int p5), .val (.int i1), .val (.int i2), .val (.int n1), .val (.int n1), .val (.ref b34), .val (.int (p4 &&& (3 : Int32))), .val (.int i1), .val (.ref b46), .val (.int (1 : Int32))] [(.ref b34)])
        refine X48.step (fun hA hx hq t k => XS.aload hA hx rfl (hb hq at_134) rfl rfl k) ?_
        show OFin _ _ _ _ _ _ _ _ T48 (mkF m 136 #[.val (.int p0), .val (.int p1), .val (.int p2), .val (.int p3), .val (.int p4), .val (.int p5), .val (.int i1), .val (.int i2), .val (.int n1), .val (.int n1), .val (.ref b34), .val (.int (p4 &&& (3 : Int32))), .val (.int i1), .val (.ref b46), .val (.int (1 : Int32))] [(.ref b46), (.ref b34)])
        refine X48.callV (y' := (⟨"com/example/replay_proof/replayproof/model/IntruderValue", "equals", "(Ljava/lang/Object;)Z"⟩ : MethodName)) (z' := (⟨"com/example/replay_proof/replayproof/model/IntruderValue", "equals", "(Ljava/lang/Object;)Z"⟩ : MethodName)) (hw _ (List.mem_of_getElem? (i := 39) rfl)) (hw _ (List.mem_of_getElem? (i := 40) rfl)) (X48.notFace (hw _ (List.mem_of_getElem? (i := 42) rfl)) rfl) (hw _ (List.mem_of_getElem? (i := 42) rfl)) (hw _ (List.mem_of_getElem? (i := 41) rfl)) (hw _ (List.mem_of_getElem? (i := 7) rfl)) (hw _ (List.mem_of_getElem? (i := 43) rfl)) (by decide) Ex (argsL := [(.ref b46)]) (rest := []) (rm6 l Z a0 hw b34 b46 (own_kind i1 aT aN aK) (own_kind i1 aT aN aK) n1 n1 h48 n0 Gk Gn Fk48 Fn48 E48) (g := (mkF m 136 #[.val (.int p0), .val (.int p1), .val (.int p2), .val (.int p3), .val (.int p4), .val (.int p5), .val (.int i1), .val (.int i2), .val (.int n1), .val (.int n1), .val (.ref b34), .val (.int (p4 &&& (3 : Int32))), .val (.int i1), .val (.ref b46), .val (.int (1 : Int32))] [(.ref b46), (.ref b34)])) rfl rfl pd_pLjava_lang_Object_r_Z rfl rfl (W := 0) (by show 2 * 0 + _ ≤ _; exact Nat.le_of_eq rfl) at_136 (by decide) (by decide) (by decide) (by decide) ?_
        intro v49 T49 h49 X49 q49
        obtain ⟨rfl, rfl⟩ := q49
        show OFin _ _ _ _ _ _ _ _ T49 (mkF m 139 #[.val (.int p0), .val (.int p1), .val (.int p2), .val (.int p3), .val (.int p4), .val (.int p5), .val (.int i1), .val (.int i2), .val (.int n1), .val (.int n1), .val (.ref b34), .val (.int (p4 &&& (3 : Int32))), .val (.int i1), .val (.ref b46), .val (.int (1 : Int32))] [(.int (if (own_kind i1 aT aN aK) = (own_kind i1 aT aN aK) ∧ n1 = n1 then 1 else 0 : Int32))])
        refine X49.step (fun hA hx hq t k => XS.iload hA hx rfl (hb hq at_139) rfl k) ?_
        show OFin _ _ _ _ _ _ _ _ T49 (mkF m 141 #[.val (.int p0), .val (.int p1), .val (.int p2), .val (.int p3), .val (.int p4), .val (.int p5), .val (.int i1), .val (.int i2), .val (.int n1), .val (.int n1), .val (.ref b34), .val (.int (p4 &&& (3 : Int32))), .val (.int i1), .val (.ref b46), .val (.int (1 : Int32))] [(.int (1 : Int32)), (.int (if (own_kind i1 aT aN aK) = (own_kind i1 aT aN aK) ∧ n1 = n1 then 1 else 0 : Int32))])
        refine X49.step (fun hA hx hq t k => XS.icmpNo hA hx rfl (hb hq at_141) rfl (teq (if_pos ⟨hk.mpr rfl, rfl⟩)).2 k) ?_
        show OFin _ _ _ _ _ _ _ _ T49 (mkF m 144 #[.val (.int p0), .val (.int p1), .val (.int p2), .val (.int p3), .val (.int p4), .val (.int p5), .val (.int i1), .val (.int i2), .val (.int n1), .val (.int n1), .val (.ref b34), .val (.int (p4 &&& (3 : Int32))), .val (.int i1), .val (.ref b46), .val (.int (1 : Int32))] [])
        refine X49.step (fun hA hx hq t k => XS.aload hA hx rfl (hb hq at_144) rfl rfl k) ?_
        show OFin _ _ _ _ _ _ _ _ T49 (mkF m 146 #[.val (.int p0), .val (.int p1), .val (.int p2), .val (.int p3), .val (.int p4), .val (.int p5), .val (.int i1), .val (.int i2), .val (.int n1), .val (.int n1), .val (.ref b34), .val (.int (p4 &&& (3 : Int32))), .val (.int i1), .val (.ref b46), .val (.int (1 : Int32))] [(.ref b46)])
        refine X49.step (fun hA hx hq t k => XS.aload hA hx rfl (hb hq at_146) rfl rfl k) ?_
        show OFin _ _ _ _ _ _ _ _ T49 (mkF m 148 #[.val (.int p0), .val (.int p1), .val (.int p2), .val (.int p3), .val (.int p4), .val (.int p5), .val (.int i1), .val (.int i2), .val (.int n1), .val (.int n1), .val (.ref b34), .val (.int (p4 &&& (3 : Int32))), .val (.int i1), .val (.ref b46), .val (.int (1 : Int32))] [(.ref b34), (.ref b46)])
        refine X49.callV (y' := (⟨"com/example/replay_proof/replayproof/model/IntruderValue", "equals", "(Ljava/lang/Object;)Z"⟩ : MethodName)) (z' := (⟨"com/example/replay_proof/replayproof/model/IntruderValue", "equals", "(Ljava/lang/Object;)Z"⟩ : MethodName)) (hw _ (List.mem_of_getElem? (i := 39) rfl)) (hw _ (List.mem_of_getElem? (i := 40) rfl)) (X49.notFace (hw _ (List.mem_of_getElem? (i := 42) rfl)) rfl) (hw _ (List.mem_of_getElem? (i := 42) rfl)) (hw _ (List.mem_of_getElem? (i := 41) rfl)) (hw _ (List.mem_of_getElem? (i := 7) rfl)) (hw _ (List.mem_of_getElem? (i := 43) rfl)) (by decide) E48 (argsL := [(.ref b34)]) (rest := []) (rm6 l Z a0 hw b46 b34 (own_kind i1 aT aN aK) (own_kind i1 aT aN aK) n1 n1 h48 n0 Fk48 Fn48 Gk Gn Ex) (g := (mkF m 148 #[.val (.int p0), .val (.int p1), .val (.int p2), .val (.int p3), .val (.int p4), .val (.int p5), .val (.int i1), .val (.int i2), .val (.int n1), .val (.int n1), .val (.ref b34), .val (.int (p4 &&& (3 : Int32))), .val (.int i1), .val (.ref b46), .val (.int (1 : Int32))] [(.ref b34), (.ref b46)])) rfl rfl pd_pLjava_lang_Object_r_Z rfl rfl (W := 0) (by show 2 * 0 + _ ≤ _; exact Nat.le_of_eq rfl) at_148 (by decide) (by decide) (by decide) (by decide) ?_
        intro v50 T50 h50 X50 q50
        obtain ⟨rfl, rfl⟩ := q50
        show OFin _ _ _ _ _ _ _ _ T50 (mkF m 151 #[.val (.int p0), .val (.int p1), .val (.int p2), .val (.int p3), .val (.int p4), .val (.int p5), .val (.int i1), .val (.int i2), .val (.int n1), .val (.int n1), .val (.ref b34), .val (.int (p4 &&& (3 : Int32))), .val (.int i1), .val (.ref b46), .val (.int (1 : Int32))] [(.int (if (own_kind i1 aT aN aK) = (own_kind i1 aT aN aK) ∧ n1 = n1 then 1 else 0 : Int32))])
        refine X50.step (fun hA hx hq t k => XS.iload hA hx rfl (hb hq at_151) rfl k) ?_
        show OFin _ _ _ _ _ _ _ _ T50 (mkF m 153 #[.val (.int p0), .val (.int p1), .val (.int p2), .val (.int p3), .val (.int p4), .val (.int p5), .val (.int i1), .val (.int i2), .val (.int n1), .val (.int n1), .val (.ref b34), .val (.int (p4 &&& (3 : Int32))), .val (.int i1), .val (.ref b46), .val (.int (1 : Int32))] [(.int (1 : Int32)), (.int (if (own_kind i1 aT aN aK) = (own_kind i1 aT aN aK) ∧ n1 = n1 then 1 else 0 : Int32))])
        refine X50.step (fun hA hx hq t k => XS.icmpNo hA hx rfl (hb hq at_153) rfl (teq (if_pos ⟨(hk.mpr rfl).symm, rfl⟩)).2 k) ?_
        show OFin _ _ _ _ _ _ _ _ T50 (mkF m 156 #[.val (.int p0), .val (.int p1), .val (.int p2), .val (.int p3), .val (.int p4), .val (.int p5), .val (.int i1), .val (.int i2), .val (.int n1), .val (.int n1), .val (.ref b34), .val (.int (p4 &&& (3 : Int32))), .val (.int i1), .val (.ref b46), .val (.int (1 : Int32))] [])
        refine X50.step (fun hA hx hq t k => XS.aload hA hx rfl (hb hq at_156) rfl rfl k) ?_
        show OFin _ _ _ _ _ _ _ _ T50 (mkF m 158 #[.val (.int p0), .val (.int p1), .val (.int p2), .val (.int p3), .val (.int p4), .val (.int p5), .val (.int i1), .val (.int i2), .val (.int n1), .val (.int n1), .val (.ref b34), .val (.int (p4 &&& (3 : Int32))), .val (.int i1), .val (.ref b46), .val (.int (1 : Int32))] [(.ref b34)])
        refine X50.step (fun hA hx hq t k => XS.aload hA hx rfl (hb hq at_158) rfl rfl k) ?_
        show OFin _ _ _ _ _ _ _ _ T50 (mkF m 160 #[.val (.int p0), .val (.int p1), .val (.int p2), .val (.int p3), .val (.int p4), .val (.int p5), .val (.int i1), .val (.int i2), .val (.int n1), .val (.int n1), .val (.ref b34), .val (.int (p4 &&& (3 : Int32))), .val (.int i1), .val (.ref b46), .val (.int (1 : Int32))] [(.ref b34), (.ref b34)])
        refine X50.callV (y' := (⟨"com/example/replay_proof/replayproof/model/IntruderValue", "equals", "(Ljava/lang/Object;)Z"⟩ : MethodName)) (z' := (⟨"com/example/replay_proof/replayproof/model/IntruderValue", "equals", "(Ljava/lang/Object;)Z"⟩ : MethodName)) (hw _ (List.mem_of_getElem? (i := 39) rfl)) (hw _ (List.mem_of_getElem? (i := 40) rfl)) (X50.notFace (hw _ (List.mem_of_getElem? (i := 42) rfl)) rfl) (hw _ (List.mem_of_getElem? (i := 42) rfl)) (hw _ (List.mem_of_getElem? (i := 41) rfl)) (hw _ (List.mem_of_getElem? (i := 7) rfl)) (hw _ (List.mem_of_getElem? (i := 43) rfl)) (by decide) Ex (argsL := [(.ref b34)]) (rest := []) (rm6 l Z a0 hw b34 b34 (own_kind i1 aT aN aK) (own_kind i1 aT aN aK) n1 n1 h48 n0 Gk Gn Gk Gn Ex) (g := (mkF m 160 #[.val (.int p0), .val (.int p1), .val (.int p2), .val (.int p3), .val (.int p4), .val (.int p5), .val (.int i1), .val (.int i2), .val (.int n1), .val (.int n1), .val (.ref b34), .val (.int (p4 &&& (3 : Int32))), .val (.int i1), .val (.ref b46), .val (.int (1 : Int32))] [(.ref b34), (.ref b34)])) rfl rfl pd_pLjava_lang_Object_r_Z rfl rfl (W := 0) (by show 2 * 0 + _ ≤ _; exact Nat.le_of_eq rfl) at_160 (by decide) (by decide) (by decide) (by decide) ?_
        intro v51 T51 h51 X51 q51
        obtain ⟨rfl, rfl⟩ := q51
        show OFin _ _ _ _ _ _ _ _ T51 (mkF m 163 #[.val (.int p0), .val (.int p1), .val (.int p2), .val (.int p3), .val (.int p4), .val (.int p5), .val (.int i1), .val (.int i2), .val (.int n1), .val (.int n1), .val (.ref b34), .val (.int (p4 &&& (3 : Int32))), .val (.int i1), .val (.ref b46), .val (.int (1 : Int32))] [(.int (if (own_kind i1 aT aN aK) = (own_kind i1 aT aN aK) ∧ n1 = n1 then 1 else 0 : Int32))])
        refine X51.step (fun hA hx hq t k => XS.ifNo hA hx rfl (hb hq at_163) rfl ((if0 _ _).trans (feq ((by rw [if_pos ⟨rfl, rfl⟩]; decide))).1) k) ?_
        show OFin _ _ _ _ _ _ _ _ T51 (mkF m 166 #[.val (.int p0), .val (.int p1), .val (.int p2), .val (.int p3), .val (.int p4), .val (.int p5), .val (.int i1), .val (.int i2), .val (.int n1), .val (.int n1), .val (.ref b34), .val (.int (p4 &&& (3 : Int32))), .val (.int i1), .val (.ref b46), .val (.int (1 : Int32))] [])
        refine X51.step (fun hA hx hq t k => XS.iconst hA hx rfl (hb hq at_166) k) ?_
        show OFin _ _ _ _ _ _ _ _ T51 (mkF m 167 #[.val (.int p0), .val (.int p1), .val (.int p2), .val (.int p3), .val (.int p4), .val (.int p5), .val (.int i1), .val (.int i2), .val (.int n1), .val (.int n1), .val (.ref b34), .val (.int (p4 &&& (3 : Int32))), .val (.int i1), .val (.ref b46), .val (.int (1 : Int32))] [(.int (1 : Int32))])
        refine X51.step (fun hA hx hq t k => XS.goto hA hx rfl (pc0 := 167) (pc' := 171) rfl (hb hq at_167) (by decide) (by decide) k) ?_
        show OFin _ _ _ _ _ _ _ _ T51 (mkF m 171 #[.val (.int p0), .val (.int p1), .val (.int p2), .val (.int p3), .val (.int p4), .val (.int p5), .val (.int i1), .val (.int i2), .val (.int n1), .val (.int n1), .val (.ref b34), .val (.int (p4 &&& (3 : Int32))), .val (.int i1), .val (.ref b46), .val (.int (1 : Int32))] [(.int (1 : Int32))])
        exact X51.retN (by simp) at_171 (by decide) (by decide) (rfl)
      · refine X36.step (fun hA hx hq t k => XS.icmpYes hA hx rfl (pc0 := 78) (pc' := 172) rfl (hb hq at_78) rfl (feq (c2)).2 (by decide) (by decide) k) ?_
        show OFin _ _ _ _ _ _ _ _ T36 (mkF m 172 #[.val (.int p0), .val (.int p1), .val (.int p2), .val (.int p3), .val (.int p4), .val (.int p5), .val (.int i1), .val (.int i2), .val (.int n1), .val (.int n1), .val (.ref b34), .val (.int (p4 &&& (3 : Int32))), .unset, .unset, .unset] [])
        refine X36.step (fun hA hx hq t k => XS.iload hA hx rfl (hb hq at_172) rfl k) ?_
        show OFin _ _ _ _ _ _ _ _ T36 (mkF m 174 #[.val (.int p0), .val (.int p1), .val (.int p2), .val (.int p3), .val (.int p4), .val (.int p5), .val (.int i1), .val (.int i2), .val (.int n1), .val (.int n1), .val (.ref b34), .val (.int (p4 &&& (3 : Int32))), .unset, .unset, .unset] [(.int (p4 &&& (3 : Int32)))])
        refine X36.step (fun hA hx hq t k => XS.iconst hA hx rfl (hb hq at_174) k) ?_
        show OFin _ _ _ _ _ _ _ _ T36 (mkF m 175 #[.val (.int p0), .val (.int p1), .val (.int p2), .val (.int p3), .val (.int p4), .val (.int p5), .val (.int i1), .val (.int i2), .val (.int n1), .val (.int n1), .val (.ref b34), .val (.int (p4 &&& (3 : Int32))), .unset, .unset, .unset] [(.int (2 : Int32)), (.int (p4 &&& (3 : Int32)))])
        by_cases c3 : (p4 &&& (3 : Int32)) = (2 : Int32)
        · refine X36.step (fun hA hx hq t k => XS.icmpNo hA hx rfl (hb hq at_175) rfl (teq (c3)).2 k) ?_
          show OFin _ _ _ _ _ _ _ _ T36 (mkF m 178 #[.val (.int p0), .val (.int p1), .val (.int p2), .val (.int p3), .val (.int p4), .val (.int p5), .val (.int i1), .val (.int i2), .val (.int n1), .val (.int n1), .val (.ref b34), .val (.int (p4 &&& (3 : Int32))), .unset, .unset, .unset] [])
          refine X36.step (fun hA hx hq t k => XS.aload hA hx rfl (hb hq at_178) rfl rfl k) ?_
          show OFin _ _ _ _ _ _ _ _ T36 (mkF m 180 #[.val (.int p0), .val (.int p1), .val (.int p2), .val (.int p3), .val (.int p4), .val (.int p5), .val (.int i1), .val (.int i2), .val (.int n1), .val (.int n1), .val (.ref b34), .val (.int (p4 &&& (3 : Int32))), .unset, .unset, .unset] [(.ref b34)])
          refine X36.step (fun hA hx hq t k => XS.aconstNull hA hx rfl (hb hq at_180) k) ?_
          show OFin _ _ _ _ _ _ _ _ T36 (mkF m 181 #[.val (.int p0), .val (.int p1), .val (.int p2), .val (.int p3), .val (.int p4), .val (.int p5), .val (.int i1), .val (.int i2), .val (.int n1), .val (.int n1), .val (.ref b34), .val (.int (p4 &&& (3 : Int32))), .unset, .unset, .unset] [.null, (.ref b34)])
          refine X36.callV (y' := (⟨"com/example/replay_proof/replayproof/model/IntruderValue", "equals", "(Ljava/lang/Object;)Z"⟩ : MethodName)) (z' := (⟨"com/example/replay_proof/replayproof/model/IntruderValue", "equals", "(Ljava/lang/Object;)Z"⟩ : MethodName)) (hw _ (List.mem_of_getElem? (i := 39) rfl)) (hw _ (List.mem_of_getElem? (i := 40) rfl)) (X36.notFace (hw _ (List.mem_of_getElem? (i := 42) rfl)) rfl) (hw _ (List.mem_of_getElem? (i := 42) rfl)) (hw _ (List.mem_of_getElem? (i := 41) rfl)) (hw _ (List.mem_of_getElem? (i := 7) rfl)) (hw _ (List.mem_of_getElem? (i := 43) rfl)) (by decide) E36 (argsL := [.null]) (rest := []) (rm7 l Z a0 hw b34 h36 n0) (g := (mkF m 181 #[.val (.int p0), .val (.int p1), .val (.int p2), .val (.int p3), .val (.int p4), .val (.int p5), .val (.int i1), .val (.int i2), .val (.int n1), .val (.int n1), .val (.ref b34), .val (.int (p4 &&& (3 : Int32))), .unset, .unset, .unset] [.null, (.ref b34)])) rfl rfl pd_pLjava_lang_Object_r_Z rfl rfl (W := 0) (by show 2 * 0 + _ ≤ _; exact Nat.le_of_eq rfl) at_181 (by decide) (by decide) (by decide) (by decide) ?_
          intro v52 T52 h52 X52 q52
          obtain ⟨rfl, rfl⟩ := q52
          show OFin _ _ _ _ _ _ _ _ T52 (mkF m 184 #[.val (.int p0), .val (.int p1), .val (.int p2), .val (.int p3), .val (.int p4), .val (.int p5), .val (.int i1), .val (.int i2), .val (.int n1), .val (.int n1), .val (.ref b34), .val (.int (p4 &&& (3 : Int32))), .unset, .unset, .unset] [(.int (0 : Int32))])
          refine X52.step (fun hA hx hq t k => XS.ifNo hA hx rfl (hb hq at_184) rfl ((if0 _ _).trans (teq ((by decide))).2) k) ?_
          show OFin _ _ _ _ _ _ _ _ T52 (mkF m 187 #[.val (.int p0), .val (.int p1), .val (.int p2), .val (.int p3), .val (.int p4), .val (.int p5), .val (.int i1), .val (.int i2), .val (.int n1), .val (.int n1), .val (.ref b34), .val (.int (p4 &&& (3 : Int32))), .unset, .unset, .unset] [])
          refine X52.step (fun hA hx hq t k => XS.aload hA hx rfl (hb hq at_187) rfl rfl k) ?_
          show OFin _ _ _ _ _ _ _ _ T52 (mkF m 189 #[.val (.int p0), .val (.int p1), .val (.int p2), .val (.int p3), .val (.int p4), .val (.int p5), .val (.int i1), .val (.int i2), .val (.int n1), .val (.int n1), .val (.ref b34), .val (.int (p4 &&& (3 : Int32))), .unset, .unset, .unset] [(.ref b34)])
          refine X52.step (fun hA hx hq t k => XS.aload hA hx rfl (hb hq at_189) rfl rfl k) ?_
          show OFin _ _ _ _ _ _ _ _ T52 (mkF m 191 #[.val (.int p0), .val (.int p1), .val (.int p2), .val (.int p3), .val (.int p4), .val (.int p5), .val (.int i1), .val (.int i2), .val (.int n1), .val (.int n1), .val (.ref b34), .val (.int (p4 &&& (3 : Int32))), .unset, .unset, .unset] [(.ref b34), (.ref b34)])
          refine X52.callV (y' := (⟨"com/example/replay_proof/replayproof/model/IntruderValue", "equals", "(Ljava/lang/Object;)Z"⟩ : MethodName)) (z' := (⟨"com/example/replay_proof/replayproof/model/IntruderValue", "equals", "(Ljava/lang/Object;)Z"⟩ : MethodName)) (hw _ (List.mem_of_getElem? (i := 39) rfl)) (hw _ (List.mem_of_getElem? (i := 40) rfl)) (X52.notFace (hw _ (List.mem_of_getElem? (i := 42) rfl)) rfl) (hw _ (List.mem_of_getElem? (i := 42) rfl)) (hw _ (List.mem_of_getElem? (i := 41) rfl)) (hw _ (List.mem_of_getElem? (i := 7) rfl)) (hw _ (List.mem_of_getElem? (i := 43) rfl)) (by decide) E36 (argsL := [(.ref b34)]) (rest := []) (rm6 l Z a0 hw b34 b34 (own_kind i1 aT aN aK) (own_kind i1 aT aN aK) n1 n1 h36 n0 Fk36 Fn36 Fk36 Fn36 E36) (g := (mkF m 191 #[.val (.int p0), .val (.int p1), .val (.int p2), .val (.int p3), .val (.int p4), .val (.int p5), .val (.int i1), .val (.int i2), .val (.int n1), .val (.int n1), .val (.ref b34), .val (.int (p4 &&& (3 : Int32))), .unset, .unset, .unset] [(.ref b34), (.ref b34)])) rfl rfl pd_pLjava_lang_Object_r_Z rfl rfl (W := 0) (by show 2 * 0 + _ ≤ _; exact Nat.le_of_eq rfl) at_191 (by decide) (by decide) (by decide) (by decide) ?_
          intro v53 T53 h53 X53 q53
          obtain ⟨rfl, rfl⟩ := q53
          show OFin _ _ _ _ _ _ _ _ T53 (mkF m 194 #[.val (.int p0), .val (.int p1), .val (.int p2), .val (.int p3), .val (.int p4), .val (.int p5), .val (.int i1), .val (.int i2), .val (.int n1), .val (.int n1), .val (.ref b34), .val (.int (p4 &&& (3 : Int32))), .unset, .unset, .unset] [(.int (if (own_kind i1 aT aN aK) = (own_kind i1 aT aN aK) ∧ n1 = n1 then 1 else 0 : Int32))])
          refine X53.step (fun hA hx hq t k => XS.ifNo hA hx rfl (hb hq at_194) rfl ((if0 _ _).trans (feq ((by rw [if_pos ⟨rfl, rfl⟩]; decide))).1) k) ?_
          show OFin _ _ _ _ _ _ _ _ T53 (mkF m 197 #[.val (.int p0), .val (.int p1), .val (.int p2), .val (.int p3), .val (.int p4), .val (.int p5), .val (.int i1), .val (.int i2), .val (.int n1), .val (.int n1), .val (.ref b34), .val (.int (p4 &&& (3 : Int32))), .unset, .unset, .unset] [])
          refine X53.step (fun hA hx hq t k => XS.iconst hA hx rfl (hb hq at_197) k) ?_
          show OFin _ _ _ _ _ _ _ _ T53 (mkF m 198 #[.val (.int p0), .val (.int p1), .val (.int p2), .val (.int p3), .val (.int p4), .val (.int p5), .val (.int i1), .val (.int i2), .val (.int n1), .val (.int n1), .val (.ref b34), .val (.int (p4 &&& (3 : Int32))), .unset, .unset, .unset] [(.int (1 : Int32))])
          refine X53.step (fun hA hx hq t k => XS.goto hA hx rfl (pc0 := 198) (pc' := 202) rfl (hb hq at_198) (by decide) (by decide) k) ?_
          show OFin _ _ _ _ _ _ _ _ T53 (mkF m 202 #[.val (.int p0), .val (.int p1), .val (.int p2), .val (.int p3), .val (.int p4), .val (.int p5), .val (.int i1), .val (.int i2), .val (.int n1), .val (.int n1), .val (.ref b34), .val (.int (p4 &&& (3 : Int32))), .unset, .unset, .unset] [(.int (1 : Int32))])
          exact X53.retN (by simp) at_202 (by decide) (by decide) (rfl)
        · refine X36.step (fun hA hx hq t k => XS.icmpYes hA hx rfl (pc0 := 175) (pc' := 203) rfl (hb hq at_175) rfl (feq (c3)).2 (by decide) (by decide) k) ?_
          show OFin _ _ _ _ _ _ _ _ T36 (mkF m 203 #[.val (.int p0), .val (.int p1), .val (.int p2), .val (.int p3), .val (.int p4), .val (.int p5), .val (.int i1), .val (.int i2), .val (.int n1), .val (.int n1), .val (.ref b34), .val (.int (p4 &&& (3 : Int32))), .unset, .unset, .unset] [])
          refine X36.newO (hw _ (List.mem_of_getElem? (i := 48) rfl)) (hw _ (List.mem_of_getElem? (i := 49) rfl)) (hw _ (List.mem_of_getElem? (i := 50) rfl)) (g := (mkF m 203 #[.val (.int p0), .val (.int p1), .val (.int p2), .val (.int p3), .val (.int p4), .val (.int p5), .val (.int i1), .val (.int i2), .val (.int n1), .val (.int n1), .val (.ref b34), .val (.int (p4 &&& (3 : Int32))), .unset, .unset, .unset] [])) rfl at_203 (by decide) (by decide) ?_
          intro T54 h54 b54 gb54 X54 E54 A54 D54
          show OFin _ _ _ _ _ _ _ _ T54 (mkF m 206 #[.val (.int p0), .val (.int p1), .val (.int p2), .val (.int p3), .val (.int p4), .val (.int p5), .val (.int i1), .val (.int i2), .val (.int n1), .val (.int n1), .val (.ref b34), .val (.int (p4 &&& (3 : Int32))), .unset, .unset, .unset] [(.ref b54)])
          have O54 := O36.ext E54
          have Fa : Fld Z h54 b54 "com/example/replay_proof/replayproof/model/Name" "text" "Ljava/lang/String;" .null := D54 (Or.inr (hw _ (List.mem_of_getElem? (i := 85) rfl))) (ty := (.object "java/lang/String")) (by decide)
          have Fb : Fld Z h54 b54 "com/example/replay_proof/replayproof/model/Name" "kind" "Lcom/example/replay_proof/replayproof/model/Name$Kind;" .null := D54 (Or.inr (hw _ (List.mem_of_getElem? (i := 89) rfl))) (ty := (.object "com/example/replay_proof/replayproof/model/Name$Kind")) (by decide)
          have hn54 : n0 ≤ b54 := by rw [gb54]; exact Nat.le_trans (Nat.le_of_eq O36.1.symm) O36.2.1
          refine X54.step (fun hA hx hq t k => XS.dup hA hx rfl (hb hq at_206) rfl rfl k) ?_
          show OFin _ _ _ _ _ _ _ _ T54 (mkF m 207 #[.val (.int p0), .val (.int p1), .val (.int p2), .val (.int p3), .val (.int p4), .val (.int p5), .val (.int i1), .val (.int i2), .val (.int n1), .val (.int n1), .val (.ref b34), .val (.int (p4 &&& (3 : Int32))), .unset, .unset, .unset] [(.ref b54), (.ref b54)])
          refine X54.step (fun hA hx hq t k => XS.iload hA hx rfl (hb hq at_207) rfl k) ?_
          show OFin _ _ _ _ _ _ _ _ T54 (mkF m 209 #[.val (.int p0), .val (.int p1), .val (.int p2), .val (.int p3), .val (.int p4), .val (.int p5), .val (.int i1), .val (.int i2), .val (.int n1), .val (.int n1), .val (.ref b34), .val (.int (p4 &&& (3 : Int32))), .unset, .unset, .unset] [(.int p5), (.ref b54), (.ref b54)])
          refine X54.step (fun hA hx hq t k => XS.sipush hA hx rfl (hb hq at_209) k) ?_
          show OFin _ _ _ _ _ _ _ _ T54 (mkF m 212 #[.val (.int p0), .val (.int p1), .val (.int p2), .val (.int p3), .val (.int p4), .val (.int p5), .val (.int i1), .val (.int i2), .val (.int n1), .val (.int n1), .val (.ref b34), .val (.int (p4 &&& (3 : Int32))), .unset, .unset, .unset] [(.int (255 : Int32)), (.int p5), (.ref b54), (.ref b54)])
          refine X54.step (fun hA hx hq t k => XS.iand hA hx rfl (hb hq at_212) rfl k) ?_
          show OFin _ _ _ _ _ _ _ _ T54 (mkF m 213 #[.val (.int p0), .val (.int p1), .val (.int p2), .val (.int p3), .val (.int p4), .val (.int p5), .val (.int i1), .val (.int i2), .val (.int n1), .val (.int n1), .val (.ref b34), .val (.int (p4 &&& (3 : Int32))), .unset, .unset, .unset] [(.int (p5 &&& (255 : Int32))), (.ref b54), (.ref b54)])
          refine X54.step (fun hA hx hq t k => XS.i2c hA hx rfl (hb hq at_213) rfl k) ?_
          show OFin _ _ _ _ _ _ _ _ T54 (mkF m 214 #[.val (.int p0), .val (.int p1), .val (.int p2), .val (.int p3), .val (.int p4), .val (.int p5), .val (.int i1), .val (.int i2), .val (.int n1), .val (.int n1), .val (.ref b34), .val (.int (p4 &&& (3 : Int32))), .unset, .unset, .unset] [(.int ((p5 &&& (255 : Int32)).toUInt32.toUInt16.toUInt32.toInt32)), (.ref b54), (.ref b54)])
          refine X54.callS (y' := (⟨"java/lang/String", "valueOf", "(C)Ljava/lang/String;"⟩ : MethodName)) (hw _ (List.mem_of_getElem? (i := 51) rfl)) (hw _ (List.mem_of_getElem? (i := 52) rfl)) (hw _ (List.mem_of_getElem? (i := 53) rfl)) (hw _ (List.mem_of_getElem? (i := 54) rfl)) (by decide) (argsL := [(.int ((p5 &&& (255 : Int32)).toUInt32.toUInt16.toUInt32.toInt32))]) (rest := [(.ref b54), (.ref b54)]) (rm12 l Z a0 hw ((p5 &&& (255 : Int32)).toUInt32.toUInt16.toUInt32.toInt32) cs h54 n0 (SS.ext O54.2) hcs (own_ch p5) (Nat.le_trans (Nat.le_of_eq O54.1.symm) O54.2.1)) (g := (mkF m 214 #[.val (.int p0), .val (.int p1), .val (.int p2), .val (.int p3), .val (.int p4), .val (.int p5), .val (.int i1), .val (.int i2), .val (.int n1), .val (.int n1), .val (.ref b34), .val (.int (p4 &&& (3 : Int32))), .unset, .unset, .unset] [(.int ((p5 &&& (255 : Int32)).toUInt32.toUInt16.toUInt32.toInt32)), (.ref b54), (.ref b54)])) rfl rfl pd_pCr_Ljava_lang_String_ rfl rfl (W := 2) (by show 2 * 0 + _ ≤ _; exact Nat.le_of_eq rfl) at_214 (by decide) (by decide) (by decide) (by decide) ?_
          intro v55 T55 h55 X55 q55
          obtain ⟨tx, rfl, K55, Et55⟩ := q55
          show OFin _ _ _ _ _ _ _ _ T55 (mkF m 217 #[.val (.int p0), .val (.int p1), .val (.int p2), .val (.int p3), .val (.int p4), .val (.int p5), .val (.int i1), .val (.int i2), .val (.int n1), .val (.int n1), .val (.ref b34), .val (.int (p4 &&& (3 : Int32))), .unset, .unset, .unset] [(.ref tx), (.ref b54), (.ref b54)])
          have O55 := O54.keep K55 all0
          refine X55.step (fun hA hx hq t k => XS.iload hA hx rfl (hb hq at_217) rfl k) ?_
          show OFin _ _ _ _ _ _ _ _ T55 (mkF m 219 #[.val (.int p0), .val (.int p1), .val (.int p2), .val (.int p3), .val (.int p4), .val (.int p5), .val (.int i1), .val (.int i2), .val (.int n1), .val (.int n1), .val (.ref b34), .val (.int (p4 &&& (3 : Int32))), .unset, .unset, .unset] [(.int i2), (.ref tx), (.ref b54), (.ref b54)])
          refine X55.callS (y' := (⟨"com/example/replay_proof/replayproof/model/IntruderValueEqualsPinLaw", "kindOf", "(I)Lcom/example/replay_proof/replayproof/model/Name$Kind;"⟩ : MethodName)) (hw _ (List.mem_of_getElem? (i := 8) rfl)) (hw _ (List.mem_of_getElem? (i := 9) rfl)) (hw _ (List.mem_of_getElem? (i := 10) rfl)) (hw _ (List.mem_of_getElem? (i := 11) rfl)) (by decide) (argsL := [(.int i2)]) (rest := [(.ref tx), (.ref b54), (.ref b54)]) (rm2 l Z a0 hw i2 aT aN aK h55 n0 (ST.ext O55.2) (SN.ext O55.2) (SK.ext O55.2)) (g := (mkF m 219 #[.val (.int p0), .val (.int p1), .val (.int p2), .val (.int p3), .val (.int p4), .val (.int p5), .val (.int i1), .val (.int i2), .val (.int n1), .val (.int n1), .val (.ref b34), .val (.int (p4 &&& (3 : Int32))), .unset, .unset, .unset] [(.int i2), (.ref tx), (.ref b54), (.ref b54)])) rfl rfl pd_pIr_Lcom_example_replay_proof_replayproof_model_Name_Kind_ rfl rfl (W := 3) (by show 2 * 0 + _ ≤ _; exact Nat.le_of_eq rfl) at_219 (by decide) (by decide) (by decide) (by decide) ?_
          intro v56 T56 h56 X56 q56
          obtain ⟨rfl, rfl⟩ := q56
          show OFin _ _ _ _ _ _ _ _ T56 (mkF m 222 #[.val (.int p0), .val (.int p1), .val (.int p2), .val (.int p3), .val (.int p4), .val (.int p5), .val (.int i1), .val (.int i2), .val (.int n1), .val (.int n1), .val (.ref b34), .val (.int (p4 &&& (3 : Int32))), .unset, .unset, .unset] [(.ref (own_kind i2 aT aN aK)), (.ref tx), (.ref b54), (.ref b54)])
          refine X56.callI (y' := (⟨"com/example/replay_proof/replayproof/model/Name", "<init>", "(Ljava/lang/String;Lcom/example/replay_proof/replayproof/model/Name$Kind;)V"⟩ : MethodName)) rfl (hw _ (List.mem_of_getElem? (i := 75) rfl)) (hw _ (List.mem_of_getElem? (i := 76) rfl)) (hw _ (List.mem_of_getElem? (i := 50) rfl)) (hw _ (List.mem_of_getElem? (i := 77) rfl)) (by decide) (a := b54) (argsL := [(.ref tx), (.ref (own_kind i2 aT aN aK))]) (rest := [(.ref b54)]) (rm14 l Z a0 hw b54 tx (own_kind i2 aT aN aK) h55 n0 (Fa.keep K55 nin0) (Fb.keep K55 nin0) (A54.keep K55) hn54 Et55 (own_kp (P := fun a => Exa Z _ a _) i2 (ET.ext O55.2) (EN.ext O55.2) (EK.ext O55.2))) (g := (mkF m 222 #[.val (.int p0), .val (.int p1), .val (.int p2), .val (.int p3), .val (.int p4), .val (.int p5), .val (.int i1), .val (.int i2), .val (.int n1), .val (.int n1), .val (.ref b34), .val (.int (p4 &&& (3 : Int32))), .unset, .unset, .unset] [(.ref (own_kind i2 aT aN aK)), (.ref tx), (.ref b54), (.ref b54)])) rfl rfl pd_pLjava_lang_String_Lcom_example_replay_proof_replayproof_model_Name_Kind_r_V rfl rfl (W := 1) (by show 2 * 0 + _ ≤ _; exact Nat.le_of_eq rfl) at_222 (by decide) (by decide) (by decide) (by decide) ?_
          intro v57 T57 h57 X57 q57
          obtain ⟨rfl, K57, E57⟩ := q57
          show OFin _ _ _ _ _ _ _ _ T57 (mkF m 225 #[.val (.int p0), .val (.int p1), .val (.int p2), .val (.int p3), .val (.int p4), .val (.int p5), .val (.int i1), .val (.int i2), .val (.int n1), .val (.int n1), .val (.ref b34), .val (.int (p4 &&& (3 : Int32))), .unset, .unset, .unset] [(.ref b54)])
          refine X57.step (fun hA hx hq t k => XS.astore hA hx rfl (hb hq at_225) rfl rfl (l' := #[.val (.int p0), .val (.int p1), .val (.int p2), .val (.int p3), .val (.int p4), .val (.int p5), .val (.int i1), .val (.int i2), .val (.int n1), .val (.int n1), .val (.ref b34), .val (.int (p4 &&& (3 : Int32))), .val (.ref b54), .unset, .unset]) rfl k) ?_
          show OFin _ _ _ _ _ _ _ _ T57 (mkF m 227 #[.val (.int p0), .val (.int p1), .val (.int p2), .val (.int p3), .val (.int p4), .val (.int p5), .val (.int i1), .val (.int i2), .val (.int n1), .val (.int n1), .val (.ref b34), .val (.int (p4 &&& (3 : Int32))), .val (.ref b54), .unset, .unset] [])
          refine X57.step (fun hA hx hq t k => XS.aload hA hx rfl (hb hq at_227) rfl rfl k) ?_
          show OFin _ _ _ _ _ _ _ _ T57 (mkF m 229 #[.val (.int p0), .val (.int p1), .val (.int p2), .val (.int p3), .val (.int p4), .val (.int p5), .val (.int i1), .val (.int i2), .val (.int n1), .val (.int n1), .val (.ref b34), .val (.int (p4 &&& (3 : Int32))), .val (.ref b54), .unset, .unset] [(.ref b34)])
          refine X57.step (fun hA hx hq t k => XS.aload hA hx rfl (hb hq at_229) rfl rfl k) ?_
          show OFin _ _ _ _ _ _ _ _ T57 (mkF m 231 #[.val (.int p0), .val (.int p1), .val (.int p2), .val (.int p3), .val (.int p4), .val (.int p5), .val (.int i1), .val (.int i2), .val (.int n1), .val (.int n1), .val (.ref b34), .val (.int (p4 &&& (3 : Int32))), .val (.ref b54), .unset, .unset] [(.ref b54), (.ref b34)])
          refine X57.callV (y' := (⟨"com/example/replay_proof/replayproof/model/IntruderValue", "equals", "(Ljava/lang/Object;)Z"⟩ : MethodName)) (z' := (⟨"com/example/replay_proof/replayproof/model/IntruderValue", "equals", "(Ljava/lang/Object;)Z"⟩ : MethodName)) (hw _ (List.mem_of_getElem? (i := 39) rfl)) (hw _ (List.mem_of_getElem? (i := 40) rfl)) (X57.notFace (hw _ (List.mem_of_getElem? (i := 42) rfl)) rfl) (hw _ (List.mem_of_getElem? (i := 42) rfl)) (hw _ (List.mem_of_getElem? (i := 41) rfl)) (hw _ (List.mem_of_getElem? (i := 7) rfl)) (hw _ (List.mem_of_getElem? (i := 43) rfl)) (by decide) (E36.ext E54 |>.keep K55 |>.keep K57) (argsL := [(.ref b54)]) (rest := []) (rm8 l Z a0 hw b34 b54 h57 n0 E57) (g := (mkF m 231 #[.val (.int p0), .val (.int p1), .val (.int p2), .val (.int p3), .val (.int p4), .val (.int p5), .val (.int i1), .val (.int i2), .val (.int n1), .val (.int n1), .val (.ref b34), .val (.int (p4 &&& (3 : Int32))), .val (.ref b54), .unset, .unset] [(.ref b54), (.ref b34)])) rfl rfl pd_pLjava_lang_Object_r_Z rfl rfl (W := 0) (by show 2 * 0 + _ ≤ _; exact Nat.le_of_eq rfl) at_231 (by decide) (by decide) (by decide) (by decide) ?_
          intro v58 T58 h58 X58 q58
          obtain ⟨rfl, rfl⟩ := q58
          show OFin _ _ _ _ _ _ _ _ T58 (mkF m 234 #[.val (.int p0), .val (.int p1), .val (.int p2), .val (.int p3), .val (.int p4), .val (.int p5), .val (.int i1), .val (.int i2), .val (.int n1), .val (.int n1), .val (.ref b34), .val (.int (p4 &&& (3 : Int32))), .val (.ref b54), .unset, .unset] [(.int (0 : Int32))])
          refine X58.step (fun hA hx hq t k => XS.ifNo hA hx rfl (hb hq at_234) rfl ((if0 _ _).trans (teq ((by decide))).2) k) ?_
          show OFin _ _ _ _ _ _ _ _ T58 (mkF m 237 #[.val (.int p0), .val (.int p1), .val (.int p2), .val (.int p3), .val (.int p4), .val (.int p5), .val (.int i1), .val (.int i2), .val (.int n1), .val (.int n1), .val (.ref b34), .val (.int (p4 &&& (3 : Int32))), .val (.ref b54), .unset, .unset] [])
          refine X58.step (fun hA hx hq t k => XS.iconst hA hx rfl (hb hq at_237) k) ?_
          show OFin _ _ _ _ _ _ _ _ T58 (mkF m 238 #[.val (.int p0), .val (.int p1), .val (.int p2), .val (.int p3), .val (.int p4), .val (.int p5), .val (.int i1), .val (.int i2), .val (.int n1), .val (.int n1), .val (.ref b34), .val (.int (p4 &&& (3 : Int32))), .val (.ref b54), .unset, .unset] [(.int (1 : Int32))])
          refine X58.step (fun hA hx hq t k => XS.goto hA hx rfl (pc0 := 238) (pc' := 242) rfl (hb hq at_238) (by decide) (by decide) k) ?_
          show OFin _ _ _ _ _ _ _ _ T58 (mkF m 242 #[.val (.int p0), .val (.int p1), .val (.int p2), .val (.int p3), .val (.int p4), .val (.int p5), .val (.int i1), .val (.int i2), .val (.int n1), .val (.int n1), .val (.ref b34), .val (.int (p4 &&& (3 : Int32))), .val (.ref b54), .unset, .unset] [(.int (1 : Int32))])
          exact X58.retN (by simp) at_242 (by decide) (by decide) (rfl)
set_option maxRecDepth 65536 in
set_option maxHeartbeats 40000000 in
theorem comes_1 {Post : Tables → Env → Array Value → State → Outcome → State → Prop} (hpost : ∀ tb e args s v u, (limb_1_1.after args s (.returned v) u = true ∧ limb_1_2.after args s (.returned v) u = true ∧ True) → FrameEnd s (.returned v) u (Jvm.fieldLocs frame_1_writes args s ++ Jvm.arrayLocs frame_1_arrays args s ++ Jvm.staticLocs frame_1_statics s) 16 128 → Post tb e args s (.returned v) u) :
    ArmFor flags0 classFile x code maxLocals ret World_1 tables_1 room_1 Calls_1 rest_1 Pre_1 Post := by
  intro l hfl _ _ p e ha hc hk s m args below hf hA hF happ hP
  obtain ⟨hcalls, hrest, hpre⟩ := hP
  obtain ⟨-, -, -, hnamed, -, -, -, hat⟩ := (Spec.applies_iff hf).mp happ
  obtain ⟨hg, hn⟩ := and_e (Cond.before_iff.mp (show (Jvm.Cond.and given_1 narrow_1).before args s = true from hpre))
  obtain ⟨hcount, hg0⟩ := and_e hg
  obtain ⟨w0, w1, w2, w3, w4, w5, rfl⟩ : ∃ w0 w1 w2 w3 w4 w5 : Value, args = #[w0, w1, w2, w3, w4, w5] := by
    have hs : args.size = 6 := by simpa [Cond.value, given_1] using hcount
    obtain ⟨L⟩ := args
    match L, hs with
    | [w0, w1, w2, w3, w4, w5], _ => exact ⟨w0, w1, w2, w3, w4, w5, rfl⟩
  have hw := fun d (hd : d ∈ tables_1) => atoms_spec (ws := Jvm.Cond.code x code maxLocals ret :: tables_1) hat d (List.mem_cons_of_mem _ hd)
  have hfit : Fit s := fun {y c} hc i hi => by
    obtain ⟨ha, rfl⟩ := Array.getElem?_eq_some_iff.mp hc
    have q := List.all_eq_true.mp ((Array.all_eq_true_iff_forall_mem.mp hF) _ (Array.getElem_mem ha)) i (List.mem_range.mpr hi)
    simpa [Array.getElem?_eq_getElem hi] using q
  obtain ⟨ha0, hg1⟩ := and_e hg0
  obtain ⟨i0, ei0⟩ := is_v ha0
  obtain rfl : w0 = (.int i0) := Option.some.inj ei0
  obtain ⟨ha1, hg2⟩ := and_e hg1
  obtain ⟨i1, ei1⟩ := is_v ha1
  obtain rfl : w1 = (.int i1) := Option.some.inj ei1
  obtain ⟨ha2, hg3⟩ := and_e hg2
  obtain ⟨i2, ei2⟩ := is_v ha2
  obtain rfl : w2 = (.int i2) := Option.some.inj ei2
  obtain ⟨ha3, hg4⟩ := and_e hg3
  obtain ⟨i3, ei3⟩ := is_v ha3
  obtain rfl : w3 = (.int i3) := Option.some.inj ei3
  obtain ⟨ha4, hg5⟩ := and_e hg4
  obtain ⟨i4, ei4⟩ := is_v ha4
  obtain rfl : w4 = (.int i4) := Option.some.inj ei4
  obtain ⟨i5, ei5⟩ := is_v hg5
  obtain rfl : w5 = (.int i5) := Option.some.inj ei5
  obtain ⟨hsets, hown0⟩ := atoms_of _ (rest_1_c_eq ▸ (show rest_1_c.before _ s = true from hrest))
  obtain ⟨m0, hn0⟩ := and_e hn
  obtain ⟨m1, hn1⟩ := and_e hn0
  obtain ⟨m2, hn2⟩ := and_e hn1
  obtain ⟨m3, hn3⟩ := and_e hn2
  obtain ⟨m4, hn4⟩ := and_e hn3
  obtain ⟨m5, hn5⟩ := and_e hn4
  obtain ⟨m6, hn6⟩ := and_e hn5
  obtain ⟨m7, hn7⟩ := and_e hn6
  obtain ⟨aT, vT, ET, ST⟩ := o_static m0 (hw _ (List.mem_of_getElem? (i := 13) rfl)) (hw _ (List.mem_of_getElem? (i := 14) rfl))
  have fT := o_fieldI vT m4
  have FT := o_fieldI vT m1
  obtain ⟨aN, vN, EN, SN⟩ := o_static m6 (hw _ (List.mem_of_getElem? (i := 13) rfl)) (hw _ (List.mem_of_getElem? (i := 47) rfl))
  have fN := o_fieldI vN hn7
  have FN := o_fieldI vN m7
  obtain ⟨aK, vK, EK, SK⟩ := o_static m2 (hw _ (List.mem_of_getElem? (i := 13) rfl)) (hw _ (List.mem_of_getElem? (i := 38) rfl))
  have fK := o_fieldI vK m5
  have FK := o_fieldI vK m3
  have n5 := not_v (Cond.before_iff.mp (hsets _ (List.mem_of_getElem? (i := 2) rfl)))
  obtain ⟨cs, ecs⟩ := is_v (Cond.before_iff.mp (hsets _ (List.mem_of_getElem? (i := 1) rfl)))
  have SS : Sta s s.heap "java/lang/String" "COMPACT_STRINGS" "Z" (.int cs) := Sta.start ecs (Or.inl (hsets _ (List.mem_of_getElem? (i := 0) rfl)))
  have hcs : ¬ (cs = (0 : Int32)) := gotF (Cond.eq_ints ecs (Term.int_eval (0))) n5
  obtain ⟨n, o, h1, h2, h3, _, L, rfl, ⟨rfl, N⟩, hq⟩ := rm0 l s _ hw tables_1 i0 i1 i2 i3 i4 i5 cs aT aN aK s.heap s.heap.size (Old.start s) ST ET FT SN EN FN SK EK FK SS hcs (Fld.ne fT fN (by decide)) (Fld.ne fT fK (by decide)) (Fld.ne fN fK (by decide)) p e ha hc hk s m _ below hf ((Spec.applies_iff_loose hf).mp happ).1 ⟨rfl, State.Warmed39.refl s, rfl⟩ trivial
  refine ⟨n, _, h1, h2, h3, hpost _ _ _ _ _ _ ⟨Cond.after_iff.mpr rfl, Cond.after_iff.mpr (eq_i res_at (Term.int_eval (1)) rfl), trivial⟩ ⟨hq.1, hq.2.1, (hq.2.2.sift fun y hy => Or.inr (N y hy)).mono (by decide) (by decide)⟩⟩
theorem main_1_1 : Claimed_1_1 := comes_1 fun _ _ _ _ _ _ h hF => ⟨h.1, hF⟩
theorem main_1_2 : Claimed_1_2 := comes_1 fun _ _ _ _ _ _ h hF => ⟨h.2.1, hF⟩
end Jvm.Pilot.@@N@@
namespace Jvm.Pilot.@@N@@
open Jvm Jvm.ClassFile Sem Op Lib Jvm.Free Jvm.Stand Jvm.Pilot.@@N@@.Jvm.D
/-! MADE BY PROGRAM (witnessworld.py) out of the Statement's table words and the real class files: 23 classes; the members and pool entries that the words name. The judged class is class 1, her method 2. -/
namespace start1
open Jvm.ClassFile
def u (s : String) : CpInfo := .utf8 (stringToUtf16 s)
/-- a pool by its gaps: so many unusable entries, then the entry; so many at the end -/
def gap : Nat → List CpInfo → List CpInfo
  | 0, r => r
  | n + 1, r => .unusable :: gap n r
def poolList (es : List (Nat × CpInfo)) (last : Nat) : List CpInfo := es.foldr (fun e r => gap e.1 (e.2 :: r)) (gap last [])
def pool (es : List (Nat × CpInfo)) (last : Nat) : Array CpInfo := ⟨poolList es last⟩
def fileOf (pool : Array CpInfo) (this : Nat) (attrs : Array Attribute := #[]) (ms : Array MethodInfo := #[]) (fl : Nat := 33) (sup : Nat := 0) (ifs : Array Nat := #[]) (fds : Array FieldInfo := #[]) : ClassFile where
  minorVersion := 0
  majorVersion := 65
  constantPool := pool
  accessFlags := fl
  thisClass := this
  superClass := sup
  interfaces := ifs
  fields := fds
  methods := ms
  attributes := attrs
def plain (name : String) (sup : Option ClassId) : Class where
  name := name
  kind := .ordinary
  loader := none
  accessFlags := 33
  super := sup
  interfaces := #[]
  cf := none
  fields := #[]
  methods := #[]
  instanceTypes := #[]
  staticTypes := #[]
  resolved := #[]
  callSites := []
  init := .initialized
  statics := none
  mirror := none

def pool0 : Array CpInfo := pool [(5, u "<init>"), (0, u "()V"), (1, .class_ 10), (1, u "java/lang/Object")] 113

def k0c0 : Code := { maxStack := 0, maxLocals := 1, code := object_method_1_code, exceptionTable := #[], attributes := #[] }
def k0m0 : Method := { name := "<init>", desc := "()V", sig := { parameters := [], returnType := none }, accessFlags := 1, code := some k0c0 }
/-- java/lang/Object -/
def k0 : Class := { plain "java/lang/Object" none with
  accessFlags := 33
  interfaces := #[]
  cf := some (fileOf pool0 8 #[] #[{ accessFlags := 1, nameIndex := 5, descriptorIndex := 6, attributes := #[] }] 33 0 #[] #[])
  fields := #[]
  methods := #[k0m0]
  instanceTypes := #[]
  staticTypes := #[]
  resolved := Array.replicate 124 none
  statics := none }

def pool1 : Array CpInfo := pool [(2, .class_ 4), (1, u "java/lang/Object"), (0, u "<init>"), (0, u "()V"), (0, .fieldref 8 9), (0, .class_ 10), (0, .nameAndType 11 12), (0, u "com/example/replay_proof/replayproof/model/Name$Kind"), (0, u "TIMESTAMP"), (0, u "Lcom/example/replay_proof/replayproof/model/Name$Kind;"), (0, .fieldref 8 14), (0, .nameAndType 15 12), (0, u "NONCE"), (0, .fieldref 8 17), (0, .nameAndType 18 12), (0, u "KEY"), (0, .integer 2147483647), (0, .methodref 21 22), (0, .class_ 23), (0, .nameAndType 24 25), (0, u "java/lang/Math"), (0, u "max"), (0, u "(II)I"), (0, .class_ 27), (0, u "com/example/replay_proof/replayproof/model/IntruderValue"), (0, .methodref 29 30), (0, .class_ 31), (0, .nameAndType 32 33), (0, u "com/example/replay_proof/replayproof/model/IntruderValueEqualsPinLaw"), (0, u "kindOf"), (0, u "(I)Lcom/example/replay_proof/replayproof/model/Name$Kind;"), (0, .methodref 26 35), (0, .nameAndType 5 36), (0, u "(Lcom/example/replay_proof/replayproof/model/Name$Kind;I)V"), (0, .methodref 26 38), (0, .nameAndType 39 40), (0, u "equals"), (0, u "(Ljava/lang/Object;)Z"), (0, .class_ 42), (0, u "com/example/replay_proof/replayproof/model/Name"), (0, .methodref 44 45), (0, .class_ 46), (0, .nameAndType 47 48), (0, u "java/lang/String"), (0, u "valueOf"), (0, u "(C)Ljava/lang/String;"), (0, .methodref 41 50), (0, .nameAndType 5 51), (0, u "(Ljava/lang/String;Lcom/example/replay_proof/replayproof/model/Name$Kind;)V"), (3, u "law"), (0, u "(IIIIII)Z")] 4

def k1m0 : Method := { name := "<init>", desc := "()V", sig := { parameters := [], returnType := none }, accessFlags := 1, code := none }
def k1c1 : Code := { maxStack := 2, maxLocals := 1, code := method_2_code, exceptionTable := #[], attributes := #[] }
def k1m1 : Method := { name := "kindOf", desc := "(I)Lcom/example/replay_proof/replayproof/model/Name$Kind;", sig := { parameters := [.int], returnType := some (.object "com/example/replay_proof/replayproof/model/Name$Kind") }, accessFlags := 10, code := some k1c1 }
def k1c2 : Code := { maxStack := 4, maxLocals := 15, code := code, exceptionTable := #[], attributes := #[] }
def k1m2 : Method := { name := "law", desc := "(IIIIII)Z", sig := { parameters := [.int, .int, .int, .int, .int, .int], returnType := some .boolean }, accessFlags := 9, code := some k1c2 }
/-- com/example/replay_proof/replayproof/model/IntruderValueEqualsPinLaw -/
def k1 : Class := { plain "com/example/replay_proof/replayproof/model/IntruderValueEqualsPinLaw" (some 0) with
  accessFlags := 49
  interfaces := #[]
  cf := some (fileOf pool1 29 #[] #[{ accessFlags := 1, nameIndex := 5, descriptorIndex := 6, attributes := #[] }, { accessFlags := 10, nameIndex := 32, descriptorIndex := 33, attributes := #[] }, { accessFlags := 9, nameIndex := 55, descriptorIndex := 56, attributes := #[] }] 49 2 #[] #[])
  fields := #[]
  methods := #[k1m0, k1m1, k1m2]
  instanceTypes := #[]
  staticTypes := #[]
  resolved := Array.replicate 61 none
  statics := none }

def pool2 : Array CpInfo := pool [(1, .class_ 2), (0, u "java/lang/Math"), (1, .class_ 6), (1, u "java/lang/Object"), (0, u "<init>"), (0, u "()V"), (89, .class_ 100), (1, u "java/lang/Math$RandomNumberGeneratorHolder"), (71, u "negativeZeroFloatBits"), (0, u "J"), (2, u "negativeZeroDoubleBits"), (21, u "max"), (46, u "$assertionsDisabled"), (0, u "Z"), (88, u "(II)I"), (2, u "twoToTheDoubleScaleDown"), (0, u "D"), (4, u "twoToTheDoubleScaleUp"), (9, u "E"), (3, u "PI"), (2, u "TAU"), (2, u "DEGREES_TO_RADIANS"), (0, u "RADIANS_TO_DEGREES")] 94

def k2m0 : Method := { name := "<init>", desc := "()V", sig := { parameters := [], returnType := none }, accessFlags := 2, code := none }
def k2c1 : Code := { maxStack := 2, maxLocals := 2, code := jdk_29_method_65_code, exceptionTable := #[], attributes := #[] }
def k2m1 : Method := { name := "max", desc := "(II)I", sig := { parameters := [.int, .int], returnType := some .int }, accessFlags := 9, code := some k2c1 }
/-- java/lang/Math -/
def k2 : Class := { plain "java/lang/Math" (some 0) with
  accessFlags := 49
  interfaces := #[]
  cf := some (fileOf pool2 1 #[.nestMembers #[98]] #[{ accessFlags := 2, nameIndex := 7, descriptorIndex := 8, attributes := #[] }, { accessFlags := 9, nameIndex := 198, descriptorIndex := 335, attributes := #[] }] 49 4 #[] #[{ accessFlags := 25, nameIndex := 354, descriptorIndex := 339, attributes := #[] }, { accessFlags := 25, nameIndex := 358, descriptorIndex := 339, attributes := #[] }, { accessFlags := 25, nameIndex := 361, descriptorIndex := 339, attributes := #[] }, { accessFlags := 26, nameIndex := 364, descriptorIndex := 339, attributes := #[] }, { accessFlags := 26, nameIndex := 365, descriptorIndex := 339, attributes := #[] }, { accessFlags := 26, nameIndex := 172, descriptorIndex := 173, attributes := #[] }, { accessFlags := 26, nameIndex := 176, descriptorIndex := 173, attributes := #[] }, { accessFlags := 8, nameIndex := 344, descriptorIndex := 339, attributes := #[] }, { accessFlags := 8, nameIndex := 338, descriptorIndex := 339, attributes := #[] }, { accessFlags := 4120, nameIndex := 245, descriptorIndex := 246, attributes := #[] }])
  fields := #[{ name := "E", type := .double, accessFlags := 25, slot := 0, constantValue := 0 }, { name := "PI", type := .double, accessFlags := 25, slot := 1, constantValue := 0 }, { name := "TAU", type := .double, accessFlags := 25, slot := 2, constantValue := 0 }, { name := "DEGREES_TO_RADIANS", type := .double, accessFlags := 26, slot := 3, constantValue := 0 }, { name := "RADIANS_TO_DEGREES", type := .double, accessFlags := 26, slot := 4, constantValue := 0 }, { name := "negativeZeroFloatBits", type := .long, accessFlags := 26, slot := 5, constantValue := 0 }, { name := "negativeZeroDoubleBits", type := .long, accessFlags := 26, slot := 6, constantValue := 0 }, { name := "twoToTheDoubleScaleUp", type := .double, accessFlags := 8, slot := 7, constantValue := 0 }, { name := "twoToTheDoubleScaleDown", type := .double, accessFlags := 8, slot := 8, constantValue := 0 }, { name := "$assertionsDisabled", type := .boolean, accessFlags := 4120, slot := 9, constantValue := 0 }]
  methods := #[k2m0, k2m1]
  instanceTypes := #[]
  staticTypes := #[.double, .double, .double, .double, .double, .long, .long, .double, .double, .boolean]
  resolved := Array.replicate 460 none
  statics := none }

def pool3 : Array CpInfo := pool [(1, .methodref 2 3), (0, .class_ 4), (0, .nameAndType 5 6), (0, u "java/lang/Object"), (0, u "<init>"), (0, u "()V"), (6, .class_ 14), (0, u "com/example/replay_proof/replayproof/model/Message")] 17

def k3c0 : Code := { maxStack := 1, maxLocals := 1, code := prog_81_method_1_code, exceptionTable := #[], attributes := #[] }
def k3m0 : Method := { name := "<init>", desc := "()V", sig := { parameters := [], returnType := none }, accessFlags := 0, code := some k3c0 }
/-- com/example/replay_proof/replayproof/model/Message -/
def k3 : Class := { plain "com/example/replay_proof/replayproof/model/Message" (some 0) with
  accessFlags := 1057
  interfaces := #[]
  cf := some (fileOf pool3 13 #[] #[{ accessFlags := 0, nameIndex := 5, descriptorIndex := 6, attributes := #[] }] 1057 2 #[] #[])
  fields := #[]
  methods := #[k3m0]
  instanceTypes := #[]
  staticTypes := #[]
  resolved := Array.replicate 32 none
  statics := none }

def pool4 : Array CpInfo := pool [(2, .class_ 4), (1, u "com/example/replay_proof/replayproof/model/IntruderValue"), (0, u "<init>"), (0, u "(Lcom/example/replay_proof/replayproof/model/Name$Kind;I)V"), (0, .methodref 8 9), (0, .class_ 10), (0, .nameAndType 5 11), (0, u "com/example/replay_proof/replayproof/model/Message"), (0, u "()V"), (0, .methodref 13 14), (0, .class_ 15), (0, .nameAndType 16 17), (0, u "com/example/replay_proof/replayproof/model/Name$Kind"), (0, u "fresh"), (0, u "()Z"), (18, .fieldref 2 37), (0, .nameAndType 38 39), (0, u "kind"), (0, u "Lcom/example/replay_proof/replayproof/model/Name$Kind;"), (0, .fieldref 2 41), (0, .nameAndType 42 43), (0, u "number"), (0, u "I"), (8, u "equals"), (0, u "(Ljava/lang/Object;)Z")] 77

def k4c0 : Code := { maxStack := 3, maxLocals := 3, code := prog_76_method_2_code, exceptionTable := #[], attributes := #[] }
def k4m0 : Method := { name := "<init>", desc := "(Lcom/example/replay_proof/replayproof/model/Name$Kind;I)V", sig := { parameters := [(.object "com/example/replay_proof/replayproof/model/Name$Kind"), .int], returnType := none }, accessFlags := 1, code := some k4c0 }
def k4c1 : Code := { maxStack := 2, maxLocals := 3, code := prog_76_method_5_code, exceptionTable := #[], attributes := #[] }
def k4m1 : Method := { name := "equals", desc := "(Ljava/lang/Object;)Z", sig := { parameters := [(.object "java/lang/Object")], returnType := some .boolean }, accessFlags := 1, code := some k4c1 }
/-- com/example/replay_proof/replayproof/model/IntruderValue -/
def k4 : Class := { plain "com/example/replay_proof/replayproof/model/IntruderValue" (some 3) with
  accessFlags := 49
  interfaces := #[]
  cf := some (fileOf pool4 2 #[] #[{ accessFlags := 1, nameIndex := 5, descriptorIndex := 6, attributes := #[] }, { accessFlags := 1, nameIndex := 52, descriptorIndex := 53, attributes := #[] }] 49 8 #[] #[{ accessFlags := 18, nameIndex := 38, descriptorIndex := 39, attributes := #[] }, { accessFlags := 18, nameIndex := 42, descriptorIndex := 43, attributes := #[] }])
  fields := #[{ name := "kind", type := (.object "com/example/replay_proof/replayproof/model/Name$Kind"), accessFlags := 18, slot := 0, constantValue := 0 }, { name := "number", type := .int, accessFlags := 18, slot := 1, constantValue := 0 }]
  methods := #[k4m0, k4m1]
  instanceTypes := #[(.object "com/example/replay_proof/replayproof/model/Name$Kind"), .int]
  staticTypes := #[]
  resolved := Array.replicate 131 none
  statics := none }

def pool5 : Array CpInfo := pool [(1, .class_ 2), (0, u "java/lang/constant/Constable"), (0, .class_ 4), (0, u "java/lang/Object")] 6

/-- java/lang/constant/Constable -/
def k5 : Class := { plain "java/lang/constant/Constable" (some 0) with
  accessFlags := 1537
  interfaces := #[]
  cf := some (fileOf pool5 1 #[] #[] 1537 3 #[] #[])
  fields := #[]
  methods := #[]
  instanceTypes := #[]
  staticTypes := #[]
  resolved := Array.replicate 11 none
  statics := none }

def pool6 : Array CpInfo := pool [(1, .class_ 2), (0, u "java/lang/Comparable"), (0, .class_ 4), (0, u "java/lang/Object")] 7

/-- java/lang/Comparable -/
def k6 : Class := { plain "java/lang/Comparable" (some 0) with
  accessFlags := 1537
  interfaces := #[]
  cf := some (fileOf pool6 1 #[] #[] 1537 3 #[] #[])
  fields := #[]
  methods := #[]
  instanceTypes := #[]
  staticTypes := #[]
  resolved := Array.replicate 12 none
  statics := none }

def pool7 : Array CpInfo := pool [(1, .class_ 2), (0, u "java/io/Serializable"), (0, .class_ 4), (0, u "java/lang/Object")] 2

/-- java/io/Serializable -/
def k7 : Class := { plain "java/io/Serializable" (some 0) with
  accessFlags := 1537
  interfaces := #[]
  cf := some (fileOf pool7 1 #[] #[] 1537 3 #[] #[])
  fields := #[]
  methods := #[]
  instanceTypes := #[]
  staticTypes := #[]
  resolved := Array.replicate 7 none
  statics := none }

def pool8 : Array CpInfo := pool [(2, .class_ 4), (1, u "java/lang/Enum"), (0, u "name"), (0, u "Ljava/lang/String;"), (2, u "ordinal"), (0, u "I"), (1, .class_ 14), (1, u "java/lang/Object"), (4, u "hash"), (86, .class_ 108), (1, u "java/lang/Enum$EnumDesc"), (2, .class_ 112), (0, u "java/lang/constant/Constable"), (0, .class_ 114), (0, u "java/lang/Comparable"), (0, .class_ 116), (0, u "java/io/Serializable")] 87

/-- java/lang/Enum -/
def k8 : Class := { plain "java/lang/Enum" (some 0) with
  accessFlags := 1057
  interfaces := #[5, 6, 7]
  cf := some (fileOf pool8 2 #[.nestMembers #[106]] #[] 1057 12 #[111, 113, 115] #[{ accessFlags := 18, nameIndex := 5, descriptorIndex := 6, attributes := #[] }, { accessFlags := 18, nameIndex := 9, descriptorIndex := 10, attributes := #[] }, { accessFlags := 2, nameIndex := 19, descriptorIndex := 10, attributes := #[] }])
  fields := #[{ name := "name", type := (.object "java/lang/String"), accessFlags := 18, slot := 0, constantValue := 0 }, { name := "ordinal", type := .int, accessFlags := 18, slot := 1, constantValue := 0 }, { name := "hash", type := .int, accessFlags := 2, slot := 2, constantValue := 0 }]
  methods := #[]
  instanceTypes := #[(.object "java/lang/String"), .int, .int]
  staticTypes := #[]
  resolved := Array.replicate 204 none
  statics := none }

def pool9 : Array CpInfo := pool [(1, .class_ 2), (0, u "com/example/replay_proof/replayproof/model/Name$Kind"), (2, u "ROLE"), (0, u "Lcom/example/replay_proof/replayproof/model/Name$Kind;"), (2, u "CONSTANT"), (2, u "TIMESTAMP"), (2, u "NONCE"), (2, u "KEY"), (2, u "AGENT"), (2, u "$VALUES"), (0, u "[Lcom/example/replay_proof/replayproof/model/Name$Kind;"), (6, .class_ 34), (1, u "java/lang/Enum"), (6, .fieldref 1 42), (0, .nameAndType 43 44), (0, u "fresh"), (0, u "Z"), (20, u "()Z"), (6, .class_ 73), (0, u "com/example/replay_proof/replayproof/model/Name")] 2

def k9c0 : Code := { maxStack := 1, maxLocals := 1, code := prog_83_method_4_code, exceptionTable := #[], attributes := #[] }
def k9m0 : Method := { name := "fresh", desc := "()Z", sig := { parameters := [], returnType := some .boolean }, accessFlags := 1, code := some k9c0 }
/-- com/example/replay_proof/replayproof/model/Name$Kind -/
def k9 : Class := { plain "com/example/replay_proof/replayproof/model/Name$Kind" (some 8) with
  accessFlags := 16433
  interfaces := #[]
  cf := some (fileOf pool9 1 #[.nestHost 72] #[{ accessFlags := 1, nameIndex := 43, descriptorIndex := 65, attributes := #[] }] 16433 32 #[] #[{ accessFlags := 16409, nameIndex := 5, descriptorIndex := 6, attributes := #[] }, { accessFlags := 16409, nameIndex := 9, descriptorIndex := 6, attributes := #[] }, { accessFlags := 16409, nameIndex := 12, descriptorIndex := 6, attributes := #[] }, { accessFlags := 16409, nameIndex := 15, descriptorIndex := 6, attributes := #[] }, { accessFlags := 16409, nameIndex := 18, descriptorIndex := 6, attributes := #[] }, { accessFlags := 16409, nameIndex := 21, descriptorIndex := 6, attributes := #[] }, { accessFlags := 18, nameIndex := 43, descriptorIndex := 44, attributes := #[] }, { accessFlags := 4122, nameIndex := 24, descriptorIndex := 25, attributes := #[] }])
  fields := #[{ name := "ROLE", type := (.object "com/example/replay_proof/replayproof/model/Name$Kind"), accessFlags := 16409, slot := 0, constantValue := 0 }, { name := "CONSTANT", type := (.object "com/example/replay_proof/replayproof/model/Name$Kind"), accessFlags := 16409, slot := 1, constantValue := 0 }, { name := "TIMESTAMP", type := (.object "com/example/replay_proof/replayproof/model/Name$Kind"), accessFlags := 16409, slot := 2, constantValue := 0 }, { name := "NONCE", type := (.object "com/example/replay_proof/replayproof/model/Name$Kind"), accessFlags := 16409, slot := 3, constantValue := 0 }, { name := "KEY", type := (.object "com/example/replay_proof/replayproof/model/Name$Kind"), accessFlags := 16409, slot := 4, constantValue := 0 }, { name := "AGENT", type := (.object "com/example/replay_proof/replayproof/model/Name$Kind"), accessFlags := 16409, slot := 5, constantValue := 0 }, { name := "fresh", type := .boolean, accessFlags := 18, slot := 3, constantValue := 0 }, { name := "$VALUES", type := (.array (.object "com/example/replay_proof/replayproof/model/Name$Kind")), accessFlags := 4122, slot := 6, constantValue := 0 }]
  methods := #[k9m0]
  instanceTypes := #[(.object "java/lang/String"), .int, .int, .boolean]
  staticTypes := #[(.object "com/example/replay_proof/replayproof/model/Name$Kind"), (.object "com/example/replay_proof/replayproof/model/Name$Kind"), (.object "com/example/replay_proof/replayproof/model/Name$Kind"), (.object "com/example/replay_proof/replayproof/model/Name$Kind"), (.object "com/example/replay_proof/replayproof/model/Name$Kind"), (.object "com/example/replay_proof/replayproof/model/Name$Kind"), (.array (.object "com/example/replay_proof/replayproof/model/Name$Kind"))]
  resolved := Array.replicate 76 none
  statics := some 0 }

def pool10 : Array CpInfo := pool [(1, .methodref 2 3), (0, .class_ 4), (0, .nameAndType 5 6), (0, u "com/example/replay_proof/replayproof/model/Message"), (0, u "<init>"), (0, u "()V"), (0, .methodref 8 9), (0, .class_ 10), (0, .nameAndType 11 12), (0, u "java/util/Objects"), (0, u "requireNonNull"), (0, u "(Ljava/lang/Object;)Ljava/lang/Object;"), (0, .class_ 14), (0, u "java/lang/String"), (0, .fieldref 16 17), (0, .class_ 18), (0, .nameAndType 19 20), (0, u "com/example/replay_proof/replayproof/model/Name"), (0, u "text"), (0, u "Ljava/lang/String;"), (0, .class_ 22), (0, u "com/example/replay_proof/replayproof/model/Name$Kind"), (0, .fieldref 16 24), (0, .nameAndType 25 26), (0, u "kind"), (0, u "Lcom/example/replay_proof/replayproof/model/Name$Kind;"), (25, u "(Ljava/lang/String;Lcom/example/replay_proof/replayproof/model/Name$Kind;)V")] 40

def k10c0 : Code := { maxStack := 2, maxLocals := 3, code := prog_82_method_1_code, exceptionTable := #[], attributes := #[] }
def k10m0 : Method := { name := "<init>", desc := "(Ljava/lang/String;Lcom/example/replay_proof/replayproof/model/Name$Kind;)V", sig := { parameters := [(.object "java/lang/String"), (.object "com/example/replay_proof/replayproof/model/Name$Kind")], returnType := none }, accessFlags := 1, code := some k10c0 }
/-- com/example/replay_proof/replayproof/model/Name -/
def k10 : Class := { plain "com/example/replay_proof/replayproof/model/Name" (some 3) with
  accessFlags := 49
  interfaces := #[]
  cf := some (fileOf pool10 16 #[.nestMembers #[21]] #[{ accessFlags := 1, nameIndex := 5, descriptorIndex := 52, attributes := #[] }] 49 2 #[] #[{ accessFlags := 18, nameIndex := 19, descriptorIndex := 20, attributes := #[] }, { accessFlags := 18, nameIndex := 25, descriptorIndex := 26, attributes := #[] }])
  fields := #[{ name := "text", type := (.object "java/lang/String"), accessFlags := 18, slot := 0, constantValue := 0 }, { name := "kind", type := (.object "com/example/replay_proof/replayproof/model/Name$Kind"), accessFlags := 18, slot := 1, constantValue := 0 }]
  methods := #[k10m0]
  instanceTypes := #[(.object "java/lang/String"), (.object "com/example/replay_proof/replayproof/model/Name$Kind")]
  staticTypes := #[]
  resolved := Array.replicate 93 none
  statics := none }

def pool11 : Array CpInfo := pool [(2, .class_ 4), (1, u "java/lang/CharSequence"), (42, .class_ 48), (0, u "java/lang/CharSequence$1CodePointIterator"), (10, .class_ 60), (0, u "java/lang/CharSequence$1CharIterator"), (5, .class_ 67), (0, u "java/lang/Object")] 63

/-- java/lang/CharSequence -/
def k11 : Class := { plain "java/lang/CharSequence" (some 0) with
  accessFlags := 1537
  interfaces := #[]
  cf := some (fileOf pool11 2 #[.nestMembers #[47, 59]] #[] 1537 66 #[] #[])
  fields := #[]
  methods := #[]
  instanceTypes := #[]
  staticTypes := #[]
  resolved := Array.replicate 131 none
  statics := none }

def pool12 : Array CpInfo := pool [(1, .class_ 2), (0, u "java/lang/constant/ConstantDesc"), (0, .class_ 4), (0, u "java/lang/Object")] 32

/-- java/lang/constant/ConstantDesc -/
def k12 : Class := { plain "java/lang/constant/ConstantDesc" (some 0) with
  accessFlags := 1537
  interfaces := #[]
  cf := some (fileOf pool12 1 #[] #[] 1537 3 #[] #[])
  fields := #[]
  methods := #[]
  instanceTypes := #[]
  staticTypes := #[]
  resolved := Array.replicate 37 none
  statics := none }

def pool13 : Array CpInfo := pool [(1, .methodref 2 3), (0, .class_ 4), (0, .nameAndType 5 6), (0, u "java/lang/Object"), (0, u "<init>"), (0, u "()V"), (2, .fieldref 10 11), (0, .class_ 12), (0, .nameAndType 13 14), (0, u "java/lang/String"), (0, u "value"), (0, u "[B"), (0, .fieldref 10 16), (0, .nameAndType 17 18), (0, u "coder"), (0, u "B"), (2, u "hash"), (0, u "I"), (2, u "hashIsZero"), (0, u "Z"), (11, .fieldref 10 39), (0, .nameAndType 40 26), (0, u "COMPACT_STRINGS"), (12, u "toBytes"), (53, .class_ 109), (1, u "java/lang/StringLatin1"), (99, .methodref 10 210), (0, .nameAndType 5 211), (0, u "([BB)V"), (157, u "(C)Z"), (205, .class_ 576), (0, u "java/lang/CharSequence"), (22, u "CASE_INSENSITIVE_ORDER"), (0, u "Ljava/util/Comparator;"), (181, u "valueOf"), (0, u "(C)Ljava/lang/String;"), (231, .methodref 107 1016), (0, .nameAndType 1017 369), (0, u "canEncode"), (0, .methodref 107 1019), (0, .nameAndType 53 1020), (0, u "(C)[B"), (80, u "serialPersistentFields"), (0, u "[Ljava/io/ObjectStreamField;"), (0, .class_ 1104), (0, u "java/lang/String$CaseInsensitiveComparator"), (1, .class_ 1107), (0, u "java/io/Serializable"), (0, .class_ 1109), (0, u "java/lang/Comparable"), (0, .class_ 1111), (0, u "java/lang/constant/Constable"), (0, .class_ 1113), (0, u "java/lang/constant/ConstantDesc"), (2, u "serialVersionUID"), (0, u "J"), (3, u "REPL"), (0, u "C"), (2, u "LATIN1"), (1, u "UTF16")] 323

def k13m0 : Method := { name := "<init>", desc := "()V", sig := { parameters := [], returnType := none }, accessFlags := 1, code := none }
def k13c1 : Code := { maxStack := 4, maxLocals := 1, code := jdk_42_method_139_code, exceptionTable := #[], attributes := #[] }
def k13m1 : Method := { name := "valueOf", desc := "(C)Ljava/lang/String;", sig := { parameters := [.char], returnType := some (.object "java/lang/String") }, accessFlags := 9, code := some k13c1 }
def k13c2 : Code := { maxStack := 2, maxLocals := 3, code := jdk_42_method_151_code, exceptionTable := #[], attributes := #[] }
def k13m2 : Method := { name := "<init>", desc := "([BB)V", sig := { parameters := [(.array .byte), .byte], returnType := none }, accessFlags := 0, code := some k13c2 }
/-- java/lang/String -/
def k13 : Class := { plain "java/lang/String" (some 0) with
  accessFlags := 49
  interfaces := #[7, 6, 11, 5, 12]
  cf := some (fileOf pool13 10 #[.nestMembers #[1103]] #[{ accessFlags := 1, nameIndex := 5, descriptorIndex := 6, attributes := #[] }, { accessFlags := 9, nameIndex := 782, descriptorIndex := 783, attributes := #[] }, { accessFlags := 0, nameIndex := 5, descriptorIndex := 211, attributes := #[] }] 49 2 #[1106, 1108, 575, 1110, 1112] #[{ accessFlags := 18, nameIndex := 13, descriptorIndex := 14, attributes := #[] }, { accessFlags := 18, nameIndex := 17, descriptorIndex := 18, attributes := #[] }, { accessFlags := 2, nameIndex := 21, descriptorIndex := 22, attributes := #[] }, { accessFlags := 2, nameIndex := 25, descriptorIndex := 26, attributes := #[] }, { accessFlags := 26, nameIndex := 1116, descriptorIndex := 1117, attributes := #[] }, { accessFlags := 24, nameIndex := 40, descriptorIndex := 26, attributes := #[] }, { accessFlags := 26, nameIndex := 1101, descriptorIndex := 1102, attributes := #[] }, { accessFlags := 26, nameIndex := 1121, descriptorIndex := 1122, attributes := #[] }, { accessFlags := 25, nameIndex := 599, descriptorIndex := 600, attributes := #[] }, { accessFlags := 24, nameIndex := 1125, descriptorIndex := 18, attributes := #[] }, { accessFlags := 24, nameIndex := 1127, descriptorIndex := 18, attributes := #[] }])
  fields := #[{ name := "value", type := (.array .byte), accessFlags := 18, slot := 0, constantValue := 0 }, { name := "coder", type := .byte, accessFlags := 18, slot := 1, constantValue := 0 }, { name := "hash", type := .int, accessFlags := 2, slot := 2, constantValue := 0 }, { name := "hashIsZero", type := .boolean, accessFlags := 2, slot := 3, constantValue := 0 }, { name := "serialVersionUID", type := .long, accessFlags := 26, slot := 0, constantValue := 0 }, { name := "COMPACT_STRINGS", type := .boolean, accessFlags := 24, slot := 1, constantValue := 0 }, { name := "serialPersistentFields", type := (.array (.object "java/io/ObjectStreamField")), accessFlags := 26, slot := 2, constantValue := 0 }, { name := "REPL", type := .char, accessFlags := 26, slot := 3, constantValue := 0 }, { name := "CASE_INSENSITIVE_ORDER", type := (.object "java/util/Comparator"), accessFlags := 25, slot := 4, constantValue := 0 }, { name := "LATIN1", type := .byte, accessFlags := 24, slot := 5, constantValue := 0 }, { name := "UTF16", type := .byte, accessFlags := 24, slot := 6, constantValue := 0 }]
  methods := #[k13m0, k13m1, k13m2]
  instanceTypes := #[(.array .byte), .byte, .int, .boolean]
  staticTypes := #[.long, .boolean, (.array (.object "java/io/ObjectStreamField")), .char, (.object "java/util/Comparator"), .byte, .byte]
  resolved := Array.replicate 1451 none
  statics := some 1 }

def pool14 : Array CpInfo := pool [(4, .class_ 6), (1, u "java/lang/Object"), (0, u "<init>"), (0, u "()V"), (5, .class_ 16), (1, u "java/lang/StringLatin1"), (73, u "canEncode"), (14, u "(C)Z"), (15, u "$assertionsDisabled"), (0, u "Z"), (98, .class_ 223), (1, u "java/lang/StringLatin1$LinesSpliterator"), (156, u "toBytes"), (1, u "(C)[B"), (7, .class_ 391), (0, u "java/lang/StringLatin1$CharsSpliterator")] 3

def k14m0 : Method := { name := "<init>", desc := "()V", sig := { parameters := [], returnType := none }, accessFlags := 0, code := none }
def k14c1 : Code := { maxStack := 2, maxLocals := 1, code := jdk_43_method_3_code, exceptionTable := #[], attributes := #[] }
def k14m1 : Method := { name := "canEncode", desc := "(C)Z", sig := { parameters := [.char], returnType := some .boolean }, accessFlags := 9, code := some k14c1 }
def k14c2 : Code := { maxStack := 4, maxLocals := 1, code := jdk_43_method_46_code, exceptionTable := #[], attributes := #[] }
def k14m2 : Method := { name := "toBytes", desc := "(C)[B", sig := { parameters := [.char], returnType := some (.array .byte) }, accessFlags := 9, code := some k14c2 }
/-- java/lang/StringLatin1 -/
def k14 : Class := { plain "java/lang/StringLatin1" (some 0) with
  accessFlags := 48
  interfaces := #[]
  cf := some (fileOf pool14 14 #[.nestMembers #[390, 221]] #[{ accessFlags := 0, nameIndex := 7, descriptorIndex := 8, attributes := #[] }, { accessFlags := 9, nameIndex := 90, descriptorIndex := 105, attributes := #[] }, { accessFlags := 9, nameIndex := 380, descriptorIndex := 382, attributes := #[] }] 48 4 #[] #[{ accessFlags := 4120, nameIndex := 121, descriptorIndex := 122, attributes := #[] }])
  fields := #[{ name := "$assertionsDisabled", type := .boolean, accessFlags := 4120, slot := 0, constantValue := 0 }]
  methods := #[k14m0, k14m1, k14m2]
  instanceTypes := #[]
  staticTypes := #[.boolean]
  resolved := Array.replicate 395 none
  statics := none }

def pool15 : Array CpInfo := pool [(2, .class_ 4), (1, u "java/lang/Object"), (0, u "<init>"), (0, u "()V"), (35, .class_ 44), (1, u "java/util/Objects"), (0, u "requireNonNull"), (0, u "(Ljava/lang/Object;)Ljava/lang/Object;")] 137

def k15m0 : Method := { name := "<init>", desc := "()V", sig := { parameters := [], returnType := none }, accessFlags := 2, code := none }
def k15c1 : Code := { maxStack := 2, maxLocals := 1, code := jdk_31_method_10_code, exceptionTable := #[], attributes := #[] }
def k15m1 : Method := { name := "requireNonNull", desc := "(Ljava/lang/Object;)Ljava/lang/Object;", sig := { parameters := [(.object "java/lang/Object")], returnType := some (.object "java/lang/Object") }, accessFlags := 9, code := some k15c1 }
/-- java/util/Objects -/
def k15 : Class := { plain "java/util/Objects" (some 0) with
  accessFlags := 49
  interfaces := #[]
  cf := some (fileOf pool15 42 #[] #[{ accessFlags := 2, nameIndex := 5, descriptorIndex := 6, attributes := #[] }, { accessFlags := 9, nameIndex := 45, descriptorIndex := 46, attributes := #[] }] 49 2 #[] #[])
  fields := #[]
  methods := #[k15m0, k15m1]
  instanceTypes := #[]
  staticTypes := #[]
  resolved := Array.replicate 184 none
  statics := none }

def pool16 : Array CpInfo := pool [(2, .class_ 4), (1, u "java/lang/Object"), (0, u "<init>"), (0, u "()V"), (17, .class_ 26), (1, u "jdk/internal/util/Preconditions"), (28, .class_ 56), (0, u "jdk/internal/util/Preconditions$4"), (57, .class_ 115), (0, u "jdk/internal/util/Preconditions$1"), (7, u "SIOOBE_FORMATTER"), (0, u "Ljava/util/function/BiFunction;"), (0, .class_ 126), (0, u "jdk/internal/util/Preconditions$2"), (3, u "AIOOBE_FORMATTER"), (0, .class_ 132), (0, u "jdk/internal/util/Preconditions$3"), (3, u "IOOBE_FORMATTER")] 57

def k16m0 : Method := { name := "<init>", desc := "()V", sig := { parameters := [], returnType := none }, accessFlags := 1, code := none }
/-- jdk/internal/util/Preconditions -/
def k16 : Class := { plain "jdk/internal/util/Preconditions" (some 0) with
  accessFlags := 33
  interfaces := #[]
  cf := some (fileOf pool16 24 #[.nestMembers #[55, 131, 125, 114]] #[{ accessFlags := 1, nameIndex := 5, descriptorIndex := 6, attributes := #[] }] 33 2 #[] #[{ accessFlags := 25, nameIndex := 123, descriptorIndex := 124, attributes := #[] }, { accessFlags := 25, nameIndex := 130, descriptorIndex := 124, attributes := #[] }, { accessFlags := 25, nameIndex := 136, descriptorIndex := 124, attributes := #[] }])
  fields := #[{ name := "SIOOBE_FORMATTER", type := (.object "java/util/function/BiFunction"), accessFlags := 25, slot := 0, constantValue := 0 }, { name := "AIOOBE_FORMATTER", type := (.object "java/util/function/BiFunction"), accessFlags := 25, slot := 1, constantValue := 0 }, { name := "IOOBE_FORMATTER", type := (.object "java/util/function/BiFunction"), accessFlags := 25, slot := 2, constantValue := 0 }]
  methods := #[k16m0]
  instanceTypes := #[]
  staticTypes := #[(.object "java/util/function/BiFunction"), (.object "java/util/function/BiFunction"), (.object "java/util/function/BiFunction")]
  resolved := Array.replicate 194 none
  statics := some 2 }

def pool17 : Array CpInfo := pool [(9, u "<init>"), (6, .class_ 18), (1, u "java/lang/Object"), (0, u "()V"), (1, .class_ 23), (1, u "jdk/internal/util/ArraysSupport"), (0, u "LOG2_ARRAY_LONG_INDEX_SCALE"), (0, u "I"), (2, u "U"), (0, u "Ljdk/internal/misc/Unsafe;"), (8, u "BIG_ENDIAN"), (0, u "Z"), (8, u "LOG2_BYTE_BIT_SIZE"), (4, u "LOG2_ARRAY_INT_INDEX_SCALE"), (54, u "JLA"), (0, u "Ljdk/internal/access/JavaLangAccess;"), (11, u "LOG2_ARRAY_BOOLEAN_INDEX_SCALE"), (9, u "LOG2_ARRAY_BYTE_INDEX_SCALE"), (5, u "LOG2_ARRAY_CHAR_INDEX_SCALE"), (5, u "LOG2_ARRAY_SHORT_INDEX_SCALE"), (18, u "LOG2_ARRAY_FLOAT_INDEX_SCALE"), (24, u "LOG2_ARRAY_DOUBLE_INDEX_SCALE"), (89, u "T_BOOLEAN"), (2, u "T_CHAR"), (1, u "T_FLOAT"), (1, u "T_DOUBLE"), (1, u "T_BYTE"), (1, u "T_SHORT"), (1, u "T_INT"), (1, u "T_LONG"), (1, u "SOFT_MAX_ARRAY_LENGTH")] 83

def k17m0 : Method := { name := "<init>", desc := "()V", sig := { parameters := [], returnType := none }, accessFlags := 2, code := none }
/-- jdk/internal/util/ArraysSupport -/
def k17 : Class := { plain "jdk/internal/util/ArraysSupport" (some 0) with
  accessFlags := 33
  interfaces := #[]
  cf := some (fileOf pool17 21 #[] #[{ accessFlags := 2, nameIndex := 9, descriptorIndex := 19, attributes := #[] }] 33 16 #[] #[{ accessFlags := 24, nameIndex := 28, descriptorIndex := 29, attributes := #[] }, { accessFlags := 26, nameIndex := 38, descriptorIndex := 39, attributes := #[] }, { accessFlags := 25, nameIndex := 121, descriptorIndex := 25, attributes := #[] }, { accessFlags := 25, nameIndex := 131, descriptorIndex := 25, attributes := #[] }, { accessFlags := 25, nameIndex := 137, descriptorIndex := 25, attributes := #[] }, { accessFlags := 25, nameIndex := 143, descriptorIndex := 25, attributes := #[] }, { accessFlags := 25, nameIndex := 53, descriptorIndex := 25, attributes := #[] }, { accessFlags := 25, nameIndex := 24, descriptorIndex := 25, attributes := #[] }, { accessFlags := 25, nameIndex := 162, descriptorIndex := 25, attributes := #[] }, { accessFlags := 25, nameIndex := 187, descriptorIndex := 25, attributes := #[] }, { accessFlags := 26, nameIndex := 48, descriptorIndex := 25, attributes := #[] }, { accessFlags := 25, nameIndex := 277, descriptorIndex := 25, attributes := #[] }, { accessFlags := 25, nameIndex := 280, descriptorIndex := 25, attributes := #[] }, { accessFlags := 25, nameIndex := 282, descriptorIndex := 25, attributes := #[] }, { accessFlags := 25, nameIndex := 284, descriptorIndex := 25, attributes := #[] }, { accessFlags := 25, nameIndex := 286, descriptorIndex := 25, attributes := #[] }, { accessFlags := 25, nameIndex := 288, descriptorIndex := 25, attributes := #[] }, { accessFlags := 25, nameIndex := 290, descriptorIndex := 25, attributes := #[] }, { accessFlags := 25, nameIndex := 292, descriptorIndex := 25, attributes := #[] }, { accessFlags := 26, nameIndex := 108, descriptorIndex := 109, attributes := #[] }, { accessFlags := 25, nameIndex := 294, descriptorIndex := 25, attributes := #[] }])
  fields := #[{ name := "U", type := (.object "jdk/internal/misc/Unsafe"), accessFlags := 24, slot := 0, constantValue := 0 }, { name := "BIG_ENDIAN", type := .boolean, accessFlags := 26, slot := 1, constantValue := 0 }, { name := "LOG2_ARRAY_BOOLEAN_INDEX_SCALE", type := .int, accessFlags := 25, slot := 2, constantValue := 0 }, { name := "LOG2_ARRAY_BYTE_INDEX_SCALE", type := .int, accessFlags := 25, slot := 3, constantValue := 0 }, { name := "LOG2_ARRAY_CHAR_INDEX_SCALE", type := .int, accessFlags := 25, slot := 4, constantValue := 0 }, { name := "LOG2_ARRAY_SHORT_INDEX_SCALE", type := .int, accessFlags := 25, slot := 5, constantValue := 0 }, { name := "LOG2_ARRAY_INT_INDEX_SCALE", type := .int, accessFlags := 25, slot := 6, constantValue := 0 }, { name := "LOG2_ARRAY_LONG_INDEX_SCALE", type := .int, accessFlags := 25, slot := 7, constantValue := 0 }, { name := "LOG2_ARRAY_FLOAT_INDEX_SCALE", type := .int, accessFlags := 25, slot := 8, constantValue := 0 }, { name := "LOG2_ARRAY_DOUBLE_INDEX_SCALE", type := .int, accessFlags := 25, slot := 9, constantValue := 0 }, { name := "LOG2_BYTE_BIT_SIZE", type := .int, accessFlags := 26, slot := 10, constantValue := 0 }, { name := "T_BOOLEAN", type := .int, accessFlags := 25, slot := 11, constantValue := 0 }, { name := "T_CHAR", type := .int, accessFlags := 25, slot := 12, constantValue := 0 }, { name := "T_FLOAT", type := .int, accessFlags := 25, slot := 13, constantValue := 0 }, { name := "T_DOUBLE", type := .int, accessFlags := 25, slot := 14, constantValue := 0 }, { name := "T_BYTE", type := .int, accessFlags := 25, slot := 15, constantValue := 0 }, { name := "T_SHORT", type := .int, accessFlags := 25, slot := 16, constantValue := 0 }, { name := "T_INT", type := .int, accessFlags := 25, slot := 17, constantValue := 0 }, { name := "T_LONG", type := .int, accessFlags := 25, slot := 18, constantValue := 0 }, { name := "JLA", type := (.object "jdk/internal/access/JavaLangAccess"), accessFlags := 26, slot := 19, constantValue := 0 }, { name := "SOFT_MAX_ARRAY_LENGTH", type := .int, accessFlags := 25, slot := 20, constantValue := 0 }]
  methods := #[k17m0]
  instanceTypes := #[]
  staticTypes := #[(.object "jdk/internal/misc/Unsafe"), .boolean, .int, .int, .int, .int, .int, .int, .int, .int, .int, .int, .int, .int, .int, .int, .int, .int, .int, (.object "jdk/internal/access/JavaLangAccess"), .int]
  resolved := Array.replicate 378 none
  statics := none }

def pool18 : Array CpInfo := pool [(1, u "java/lang/Cloneable"), (0, .class_ 1), (0, u "java/lang/Object"), (0, .class_ 3)] 3

/-- java/lang/Cloneable -/
def k18 : Class := { plain "java/lang/Cloneable" (some 0) with
  accessFlags := 1537
  interfaces := #[]
  cf := some (fileOf pool18 2 #[] #[] 1537 4 #[] #[])
  fields := #[]
  methods := #[]
  instanceTypes := #[]
  staticTypes := #[]
  resolved := Array.replicate 8 none
  statics := none }

/-- the primitive byte -/
def k19 : Class := { plain "byte" none with kind := .primitive 'B', accessFlags := 0x411 }
/-- [B -/
def k20 : Class := { plain "[B" (some 0) with kind := .array 19 .byte, interfaces := #[18, 7], accessFlags := 1041 }

/-- the primitive int -/
def k21 : Class := { plain "int" none with kind := .primitive 'I', accessFlags := 0x411 }
/-- [I -/
def k22 : Class := { plain "[I" (some 0) with kind := .array 21 .int, interfaces := #[18, 7], accessFlags := 1041 }

def heap : Heap := #[{ cls := 9, slots := #[.null, .null, .ref 3, .ref 4, .ref 5, .null, .null], vm := .statics 9 },
  { cls := 13, slots := #[.long 0, .int 1, .null, .int 0, .null, .int 0, .int 0], vm := .statics 13 },
  { cls := 16, slots := #[.null, .null, .null], vm := .statics 16 },
  { cls := 9, slots := #[.null, .int 2, .int 0, .int 1], vm := .none },
  { cls := 9, slots := #[.null, .int 3, .int 0, .int 1], vm := .none },
  { cls := 9, slots := #[.null, .int 4, .int 0, .int 1], vm := .none }]
def classes : Array Class := #[k0, k1, k2, k3, k4, k5, k6, k7, k8, k9, k10, k11, k12, k13, k14, k15, k16, k17, k18, k19, k20, k21, k22]
def interned : List (Array UInt16 × Addr) := []
def slotsUsed : Nat := 29
def theMethod : MethodId := ⟨1, 2⟩
def args0 : Array Value := #[.int 0, .int 1, .int 2, .int 3, .int 4, .int 5]
def aboutOver (below : List Frame) : State where
  vm := { classes := classes, interned := interned.toArray }
  heap := heap
  slotsUsed := slotsUsed
  threads := #[{ frames := .invoking theMethod args0 :: below }]
def below0 : List Frame := [.native { method := ⟨0, 0⟩, args := #[] }]
def about1 : State := aboutOver below0
def p0 : Program := .bare "" "" ""
def e0 : Env := launch0.env 0 0 0
theorem w_frames : about1.frames = Frame.invoking theMethod args0 :: below0 := rfl
set_option maxRecDepth 65536 in
theorem w_args : argsFit about1.vm theMethod args0 = true := by decide +kernel
set_option maxRecDepth 65536 in
theorem w_heap : heapFits about1 = true := by decide +kernel
set_option maxRecDepth 65536 in
theorem w_runnable : about1.curStatus? = some .runnable := by decide +kernel
set_option maxRecDepth 65536 in
theorem w_alone : about1.alone = true := by decide +kernel
set_option maxRecDepth 65536 in
theorem w_named : about1.methodNamed? x = some theMethod := by decide +kernel
set_option maxRecDepth 65536 in
theorem w_hears : about1.hears theMethod below0 = true := by decide +kernel
set_option maxRecDepth 65536 in
theorem w_ripe : about1.ripe theMethod args0 below0 = true := by decide +kernel
theorem w_running : about1.status = .running := rfl
set_option maxRecDepth 65536 in
theorem w_room : about1.hasRoom e0.platform room_1 = true :=
  launch0.hasRoom_least _ room_1 (by decide +kernel) (by decide +kernel) (by decide +kernel) (by decide +kernel) (by decide +kernel) (by decide +kernel)
theorem allAtoms_all (ts : List Jvm.Cond) (a : Array Jvm.Value) (st : Jvm.State) : (allAtoms ts).before a st = ts.all (fun c => c.before a st) := by
  induction ts with
  | nil => rfl
  | cons c t ih =>
    show (Jvm.Cond.and c (allAtoms t)).before a st = _
    rw [Jvm.Cond.before_and, ih, List.all_cons]
def words1 : List Jvm.Cond := Jvm.Cond.code x code maxLocals ret :: tables_1
/-- a 'code' word, met by the world's own term for the bytes: nothing is compared byte by byte -/
theorem code_word {y : MethodName} {bytes : ByteArray} {mx : Nat} {rt : Option FieldType} {a : Array Value} {s : State} {m : MethodId} {meth : Method} {c : Code} (h1 : s.methodNamed? y = some m) (h2 : s.vm.method? m = some meth) (h3 : meth.code = some c) (h4 : c.code = bytes)
    (h5 : (c.maxLocals == mx && c.exceptionTable.isEmpty && decide (c.maxStack ≤ mostOperands) && decide (meth.sig.returnType = rt) && !meth.locks && decide (parseMethodDescriptor y.desc = some meth.sig)) = true) : (Jvm.Cond.code y bytes mx rt).before a s = true := by
  simp only [Bool.and_eq_true, beq_iff_eq, Bool.not_eq_true', decide_eq_true_eq] at h5
  obtain ⟨⟨⟨⟨⟨g1, g2⟩, g3⟩, g4⟩, g5⟩, g6⟩ := h5
  simp [Cond.before, Cond.holds, Cond.value, h1, h2, h3, h4, g1, g2, g3, g4, g5, g6]
def isCode : Jvm.Cond → Bool
  | .code _ _ _ _ => true
  | _ => false
theorem all_split {L : List Jvm.Cond} {P : Jvm.Cond → Bool} (h1 : L.all (fun c => isCode c || P c) = true) (h2 : ∀ c ∈ L.filter isCode, P c = true) : L.all P = true := by
  refine List.all_eq_true.mpr fun c hc => ?_
  have h := List.all_eq_true.mp h1 c hc
  rcases Bool.eq_false_or_eq_true (isCode c) with hi | hi
  · exact h2 c (List.mem_filter.mpr ⟨hc, hi⟩)
  · simpa [hi] using h
set_option maxRecDepth 65536 in
theorem w_c0 : (Jvm.Cond.code x code maxLocals ret).before args0 about1 = true := code_word (m := ⟨1, 2⟩) (meth := k1m2) (c := k1c2) (by decide +kernel) rfl rfl rfl (by decide +kernel)
set_option maxRecDepth 65536 in
theorem w_c1 : (Jvm.Cond.code ({ cls := "java/lang/Math", name := "max", desc := "(II)I" } : Jvm.MethodName) jdk_29_method_65_code (2 : Nat) (Option.some Jvm.ClassFile.FieldType.int)).before args0 about1 = true := code_word (m := ⟨2, 1⟩) (meth := k2m1) (c := k2c1) (by decide +kernel) rfl rfl rfl (by decide +kernel)
set_option maxRecDepth 65536 in
theorem w_c2 : (Jvm.Cond.code ({ cls := "com/example/replay_proof/replayproof/model/IntruderValueEqualsPinLaw", name := "kindOf", desc := "(I)Lcom/example/replay_proof/replayproof/model/Name$Kind;" } : Jvm.MethodName) method_2_code (1 : Nat) (Option.some (Jvm.ClassFile.FieldType.object "com/example/replay_proof/replayproof/model/Name$Kind"))).before args0 about1 = true := code_word (m := ⟨1, 1⟩) (meth := k1m1) (c := k1c1) (by decide +kernel) rfl rfl rfl (by decide +kernel)
set_option maxRecDepth 65536 in
theorem w_c3 : (Jvm.Cond.code ({ cls := "com/example/replay_proof/replayproof/model/IntruderValue", name := "<init>", desc := "(Lcom/example/replay_proof/replayproof/model/Name$Kind;I)V" } : Jvm.MethodName) prog_76_method_2_code (3 : Nat) (Option.none : Option Jvm.ClassFile.FieldType)).before args0 about1 = true := code_word (m := ⟨4, 0⟩) (meth := k4m0) (c := k4c0) (by decide +kernel) rfl rfl rfl (by decide +kernel)
set_option maxRecDepth 65536 in
theorem w_c4 : (Jvm.Cond.code ({ cls := "com/example/replay_proof/replayproof/model/Message", name := "<init>", desc := "()V" } : Jvm.MethodName) prog_81_method_1_code (1 : Nat) (Option.none : Option Jvm.ClassFile.FieldType)).before args0 about1 = true := code_word (m := ⟨3, 0⟩) (meth := k3m0) (c := k3c0) (by decide +kernel) rfl rfl rfl (by decide +kernel)
set_option maxRecDepth 65536 in
theorem w_c5 : (Jvm.Cond.code ({ cls := "java/lang/Object", name := "<init>", desc := "()V" } : Jvm.MethodName) object_method_1_code (1 : Nat) (Option.none : Option Jvm.ClassFile.FieldType)).before args0 about1 = true := code_word (m := ⟨0, 0⟩) (meth := k0m0) (c := k0c0) (by decide +kernel) rfl rfl rfl (by decide +kernel)
set_option maxRecDepth 65536 in
theorem w_c6 : (Jvm.Cond.code ({ cls := "com/example/replay_proof/replayproof/model/Name$Kind", name := "fresh", desc := "()Z" } : Jvm.MethodName) prog_83_method_4_code (1 : Nat) (Option.some Jvm.ClassFile.FieldType.boolean)).before args0 about1 = true := code_word (m := ⟨9, 0⟩) (meth := k9m0) (c := k9c0) (by decide +kernel) rfl rfl rfl (by decide +kernel)
set_option maxRecDepth 65536 in
theorem w_c7 : (Jvm.Cond.code ({ cls := "com/example/replay_proof/replayproof/model/IntruderValue", name := "equals", desc := "(Ljava/lang/Object;)Z" } : Jvm.MethodName) prog_76_method_5_code (3 : Nat) (Option.some Jvm.ClassFile.FieldType.boolean)).before args0 about1 = true := code_word (m := ⟨4, 1⟩) (meth := k4m1) (c := k4c1) (by decide +kernel) rfl rfl rfl (by decide +kernel)
set_option maxRecDepth 65536 in
theorem w_c8 : (Jvm.Cond.code ({ cls := "java/lang/String", name := "valueOf", desc := "(C)Ljava/lang/String;" } : Jvm.MethodName) jdk_42_method_139_code (1 : Nat) (Option.some (Jvm.ClassFile.FieldType.object "java/lang/String"))).before args0 about1 = true := code_word (m := ⟨13, 1⟩) (meth := k13m1) (c := k13c1) (by decide +kernel) rfl rfl rfl (by decide +kernel)
set_option maxRecDepth 65536 in
theorem w_c9 : (Jvm.Cond.code ({ cls := "java/lang/StringLatin1", name := "canEncode", desc := "(C)Z" } : Jvm.MethodName) jdk_43_method_3_code (1 : Nat) (Option.some Jvm.ClassFile.FieldType.boolean)).before args0 about1 = true := code_word (m := ⟨14, 1⟩) (meth := k14m1) (c := k14c1) (by decide +kernel) rfl rfl rfl (by decide +kernel)
set_option maxRecDepth 65536 in
theorem w_c10 : (Jvm.Cond.code ({ cls := "java/lang/StringLatin1", name := "toBytes", desc := "(C)[B" } : Jvm.MethodName) jdk_43_method_46_code (1 : Nat) (Option.some (Jvm.ClassFile.FieldType.array Jvm.ClassFile.FieldType.byte))).before args0 about1 = true := code_word (m := ⟨14, 2⟩) (meth := k14m2) (c := k14c2) (by decide +kernel) rfl rfl rfl (by decide +kernel)
set_option maxRecDepth 65536 in
theorem w_c11 : (Jvm.Cond.code ({ cls := "java/lang/String", name := "<init>", desc := "([BB)V" } : Jvm.MethodName) jdk_42_method_151_code (3 : Nat) (Option.none : Option Jvm.ClassFile.FieldType)).before args0 about1 = true := code_word (m := ⟨13, 2⟩) (meth := k13m2) (c := k13c2) (by decide +kernel) rfl rfl rfl (by decide +kernel)
set_option maxRecDepth 65536 in
theorem w_c12 : (Jvm.Cond.code ({ cls := "com/example/replay_proof/replayproof/model/Name", name := "<init>", desc := "(Ljava/lang/String;Lcom/example/replay_proof/replayproof/model/Name$Kind;)V" } : Jvm.MethodName) prog_82_method_1_code (3 : Nat) (Option.none : Option Jvm.ClassFile.FieldType)).before args0 about1 = true := code_word (m := ⟨10, 0⟩) (meth := k10m0) (c := k10c0) (by decide +kernel) rfl rfl rfl (by decide +kernel)
set_option maxRecDepth 65536 in
theorem w_c13 : (Jvm.Cond.code ({ cls := "java/util/Objects", name := "requireNonNull", desc := "(Ljava/lang/Object;)Ljava/lang/Object;" } : Jvm.MethodName) jdk_31_method_10_code (1 : Nat) (Option.some (Jvm.ClassFile.FieldType.object "java/lang/Object"))).before args0 about1 = true := code_word (m := ⟨15, 1⟩) (meth := k15m1) (c := k15c1) (by decide +kernel) rfl rfl rfl (by decide +kernel)
def codes1 : List Jvm.Cond := [Jvm.Cond.code x code maxLocals ret, Jvm.Cond.code ({ cls := "java/lang/Math", name := "max", desc := "(II)I" } : Jvm.MethodName) jdk_29_method_65_code (2 : Nat) (Option.some Jvm.ClassFile.FieldType.int), Jvm.Cond.code ({ cls := "com/example/replay_proof/replayproof/model/IntruderValueEqualsPinLaw", name := "kindOf", desc := "(I)Lcom/example/replay_proof/replayproof/model/Name$Kind;" } : Jvm.MethodName) method_2_code (1 : Nat) (Option.some (Jvm.ClassFile.FieldType.object "com/example/replay_proof/replayproof/model/Name$Kind")), Jvm.Cond.code ({ cls := "com/example/replay_proof/replayproof/model/IntruderValue", name := "<init>", desc := "(Lcom/example/replay_proof/replayproof/model/Name$Kind;I)V" } : Jvm.MethodName) prog_76_method_2_code (3 : Nat) (Option.none : Option Jvm.ClassFile.FieldType), Jvm.Cond.code ({ cls := "com/example/replay_proof/replayproof/model/Message", name := "<init>", desc := "()V" } : Jvm.MethodName) prog_81_method_1_code (1 : Nat) (Option.none : Option Jvm.ClassFile.FieldType), Jvm.Cond.code ({ cls := "java/lang/Object", name := "<init>", desc := "()V" } : Jvm.MethodName) object_method_1_code (1 : Nat) (Option.none : Option Jvm.ClassFile.FieldType), Jvm.Cond.code ({ cls := "com/example/replay_proof/replayproof/model/Name$Kind", name := "fresh", desc := "()Z" } : Jvm.MethodName) prog_83_method_4_code (1 : Nat) (Option.some Jvm.ClassFile.FieldType.boolean), Jvm.Cond.code ({ cls := "com/example/replay_proof/replayproof/model/IntruderValue", name := "equals", desc := "(Ljava/lang/Object;)Z" } : Jvm.MethodName) prog_76_method_5_code (3 : Nat) (Option.some Jvm.ClassFile.FieldType.boolean), Jvm.Cond.code ({ cls := "java/lang/String", name := "valueOf", desc := "(C)Ljava/lang/String;" } : Jvm.MethodName) jdk_42_method_139_code (1 : Nat) (Option.some (Jvm.ClassFile.FieldType.object "java/lang/String")), Jvm.Cond.code ({ cls := "java/lang/StringLatin1", name := "canEncode", desc := "(C)Z" } : Jvm.MethodName) jdk_43_method_3_code (1 : Nat) (Option.some Jvm.ClassFile.FieldType.boolean), Jvm.Cond.code ({ cls := "java/lang/StringLatin1", name := "toBytes", desc := "(C)[B" } : Jvm.MethodName) jdk_43_method_46_code (1 : Nat) (Option.some (Jvm.ClassFile.FieldType.array Jvm.ClassFile.FieldType.byte)), Jvm.Cond.code ({ cls := "java/lang/String", name := "<init>", desc := "([BB)V" } : Jvm.MethodName) jdk_42_method_151_code (3 : Nat) (Option.none : Option Jvm.ClassFile.FieldType), Jvm.Cond.code ({ cls := "com/example/replay_proof/replayproof/model/Name", name := "<init>", desc := "(Ljava/lang/String;Lcom/example/replay_proof/replayproof/model/Name$Kind;)V" } : Jvm.MethodName) prog_82_method_1_code (3 : Nat) (Option.none : Option Jvm.ClassFile.FieldType), Jvm.Cond.code ({ cls := "java/util/Objects", name := "requireNonNull", desc := "(Ljava/lang/Object;)Ljava/lang/Object;" } : Jvm.MethodName) jdk_31_method_10_code (1 : Nat) (Option.some (Jvm.ClassFile.FieldType.object "java/lang/Object"))]
set_option maxRecDepth 65536 in
theorem codes_eq : words1.filter isCode = codes1 := rfl
theorem w_codes : ∀ c ∈ words1.filter isCode, c.before args0 about1 = true := by
  rw [codes_eq]
  intro c hc
  simp only [codes1, List.mem_cons, List.not_mem_nil, or_false] at hc
  rcases hc with rfl | rfl | rfl | rfl | rfl | rfl | rfl | rfl | rfl | rfl | rfl | rfl | rfl | rfl
  · exact w_c0
  · exact w_c1
  · exact w_c2
  · exact w_c3
  · exact w_c4
  · exact w_c5
  · exact w_c6
  · exact w_c7
  · exact w_c8
  · exact w_c9
  · exact w_c10
  · exact w_c11
  · exact w_c12
  · exact w_c13
set_option maxRecDepth 65536 in
theorem w_t1 : (words1.take 24).all (fun c => isCode c || c.before args0 about1) = true := by decide +kernel
set_option maxRecDepth 65536 in
theorem w_t2 : ((words1.drop 24).take 24).all (fun c => isCode c || c.before args0 about1) = true := by decide +kernel
set_option maxRecDepth 65536 in
theorem w_t3 : (((words1.drop 24).drop 24).take 24).all (fun c => isCode c || c.before args0 about1) = true := by decide +kernel
set_option maxRecDepth 65536 in
theorem w_t4 : (((words1.drop 24).drop 24).drop 24).all (fun c => isCode c || c.before args0 about1) = true := by decide +kernel
theorem w_tables : (allAtoms (Jvm.Cond.code x code maxLocals ret :: tables_1)).before args0 about1 = true := by
  rw [allAtoms_all]
  show words1.all (fun c => c.before args0 about1) = true
  refine all_split ?_ w_codes
  rw [← List.take_append_drop 24 words1, List.all_append, w_t1, ← List.take_append_drop 24 (words1.drop 24), List.all_append, w_t2, ← List.take_append_drop 24 ((words1.drop 24).drop 24), List.all_append, w_t3, w_t4]
  rfl
set_option maxRecDepth 65536 in
theorem w_rest : rest_1_c.before args0 about1 = true := by decide +kernel
set_option maxRecDepth 65536 in
theorem w_case : (Jvm.Cond.and given_1 narrow_1).before args0 about1 = true := by decide +kernel
theorem w_applies : (headSpec (Jvm.Cond.code x code maxLocals ret :: tables_1) room_1).applies x e0.platform about1 = true :=
  (Spec.applies_iff w_frames).mpr ⟨w_running, w_runnable, w_alone, w_named, w_hears, w_ripe, w_room, w_tables⟩
theorem atStart : AtStart classFile x code maxLocals ret World_1 tables_1 room_1 Calls_1 rest_1 Pre_1 launch0 p0 e0 about1 theMethod args0 below0 :=
  ⟨lists_1, trivial, launch0.admits_env _ _ _, launch0.least_env, fairChoices_fair.cas, fairChoices_fair.clock, w_frames, w_args, w_heap, w_applies, trivial, w_rest, w_case⟩
end start1
theorem witness_1 : WitnessClaimed_1 := ⟨start1.p0, start1.e0, start1.about1, start1.theMethod, start1.args0, start1.below0, start1.atStart⟩
end Jvm.Pilot.@@N@@
