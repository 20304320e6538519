import JvmDerived
import JvmDerived.Pilot.@@N@@Statement
import JvmDerived.Pilot.@@N@@Code
set_option linter.unusedVariables false
set_option linter.unusedSimpArgs false
namespace Jvm.Pilot.@@N@@
open Jvm Jvm.ClassFile Sem Op Lib Jvm.Free Jvm.Stand Jvm.LawKit Jvm.RoadKit Bundle Jvm.Pilot.@@N@@.Jvm.D
section Kit
variable {p : Program} {l : Launch} {e : Env} {R : Room} {s : State} {m : MethodId} {args : Array Value} {below : List Frame} {meth : Method} {c : Code} {Z : State} {EL : List (String × Nat)} {own : String} {n0 : Nat} {bk : Addr → Prop} {h : Heap} {cells slots : Nat} {g g' : JFrame} {a0 : Array Value} {Q : Option Value → Heap → (Addr → Prop) → Prop}
/-- what a walk leaves: its answer, its heap, what may be booked -/
def EndW (s : State) (R : Room) (Z : State) (EL : List (String × Nat)) (n0 : Nat) (Q : Option Value → Heap → (Addr → Prop) → Prop) (o : Outcome) (U : State) : Prop :=
  ∃ v L bk', o = .returned v ∧ (Q v U.heap bk' ∧ Fr n0 L ∧ Old Z n0 U.heap ∧ CHv Z EL U.vm U.heap ∧ ∀ y, Bk Z EL U.vm U.heap y → bk' y) ∧ ReturnedEndW s o U L R.cells R.slots ∧ s.WarmedH U.vm
/-- where a walk stands -/
def Pos (p : Program) (l : Launch) (e : Env) (R : Room) (s : State) (m : MethodId) (args : Array Value) (below : List Frame) (meth : Method) (c : Code) (Z : State) (EL : List (String × Nat)) (own : String) (n0 : Nat) (bk : Addr → Prop) (h : Heap) (cells slots : Nat) (vm0 : Vm) (T : State) (locs : List Loc) : Prop :=
  Stand p l e R (s.setVm vm0) m args below meth c T locs cells slots ∧ T.heap = h ∧ (∃ k0, s.Since vm0 k0 ∧ k0 ≤ h.size ∧ s.WarmedH vm0) ∧ Z.Warmed39 vm0 ∧ vm0.findClass own = some m.cls ∧ Fr n0 locs ∧ Old Z n0 h ∧ CHv Z EL vm0 h ∧ (∀ y, Bk Z EL vm0 h y → bk y) ∧ ∃ a0, EW Z a0 EL
/-- from here the walk ends, and leaves Q -/
def Run (p : Program) (l : Launch) (e : Env) (R : Room) (s : State) (m : MethodId) (args : Array Value) (below : List Frame) (meth : Method) (c : Code) (Z : State) (EL : List (String × Nat)) (own : String) (n0 : Nat) (bk : Addr → Prop) (h : Heap) (cells slots : Nat) (g : JFrame) (Q : Option Value → Heap → (Addr → Prop) → Prop) : Prop :=
  ∀ vm0 T locs, Pos p l e R s m args below meth c Z EL own n0 bk h cells slots vm0 T locs → ∃ U o, Steps p.tables e below (T.setTop g) U ∧ U.status = .running ∧ Ended U below o ∧ EndW s R Z EL n0 Q o U
/-- a body's contract -/
def Met (l : Launch) (Z : State) (EL : List (String × Nat)) (n0 : Nat) (bk : Addr → Prop) (y : MethodName) (bytes : ByteArray) (maxL : Nat) (ret : Option FieldType) (rm : Room) (as' : Array Value) (h : Heap) (Q : Option Value → Heap → (Addr → Prop) → Prop) (ws : List Jvm.Cond) : Prop :=
  MetFree l y (head1 (Jvm.Cond.code y bytes maxL ret :: ws) rm) (fun a U => a = as' ∧ Z.Warmed39 U.vm ∧ U.heap = h ∧ CHv Z EL U.vm h ∧ ∀ x, Bk Z EL U.vm h x → bk x) (fun _ _ _ _ _ => True) (fun _ U o U' => EndW U rm Z EL n0 Q o U')
theorem end_mono {s t : State} {o : Outcome} {L : List Loc} {k n k' n' : Nat} (H : ReturnedEndW s o t L k n) (hk : k ≤ k') (hn : n ≤ n') : ReturnedEndW s o t L k' n' := ⟨H.1, H.2.1, H.2.2.1, H.2.2.2.mono hk hn⟩
theorem Met.of {y : MethodName} {bytes : ByteArray} {maxL : Nat} {ret : Option FieldType} {rm : Room} {as' : Array Value} {ws : List Jvm.Cond} (hp : plainFor y = true) (hO : Old Z n0 h) (hE : EW Z a0 EL)
    (H : ∀ p e s m below meth c, p.tables.exec = Jvm.exec → c.code = bytes → c.maxLocals = maxL → meth.sig.returnType = ret → meth.locks = false → meth.name = y.name → Run p l e rm s m as' below meth c Z EL y.cls n0 bk h 0 0 (entryFrame m as' maxL) Q) : Met l Z EL n0 bk y bytes maxL ret rm as' h Q ws := by
  refine MetFree.of_bodySF hp hisR ?_
  intro p e s m args below meth c s₁ Bd hml hP hK
  obtain ⟨rfl, hZ, hh, hC, hB⟩ := hP
  have e0 : s₁.heap = h := by rw [← hh, Bd.state]; rfl
  exact H p e s m below meth c Bd.exec Bd.bytes hml Bd.returns Bd.notSynchronized (name_of_methodNamed Bd.named Bd.method).1 s.vm s₁ [] ⟨Stand.of_body Bd, e0, ⟨0, (State.WarmedH.refl s).since _, Nat.zero_le _, State.WarmedH.refl s⟩, hZ, findClass_of_methodNamed Bd.named, Fr.nil _, hO, hC, hB, _, hE⟩
/-- one pure step -/
theorem k_pure (st : ∀ T, At T m c below → ∀ t, Steps p.tables e below (T.setTop g') t → Steps p.tables e below (T.setTop g) t)
    (k : Run p l e R s m args below meth c Z EL own n0 bk h cells slots g' Q) : Run p l e R s m args below meth c Z EL own n0 bk h cells slots g Q := fun vm0 T locs P => by
  obtain ⟨U, o, h1, r⟩ := k vm0 T locs P
  exact ⟨U, o, st T P.1.here _ h1, r⟩
theorem k_cast (q : g = g') (k : Run p l e R s m args below meth c Z EL own n0 bk h cells slots g' Q) : Run p l e R s m args below meth c Z EL own n0 bk h cells slots g Q := q ▸ k
theorem k_more {cells' slots' : Nat} (hc : cells ≤ cells') (hs : slots ≤ slots') (k : Run p l e R s m args below meth c Z EL own n0 bk h cells' slots' g Q) : Run p l e R s m args below meth c Z EL own n0 bk h cells slots g Q := fun vm0 T locs P => k vm0 T locs ⟨P.1.more hc hs, P.2⟩
/-- one step that looks at the tables or the heap and moves no cell -/
theorem k_still (st : ∀ s' T locs, Stand p l e R s' m args below meth c T locs cells slots → T.heap = h → Z.Warmed39 s'.vm → s'.vm.findClass own = some m.cls → ∃ T', Stand p l e R s' m args below meth c T' locs cells slots ∧ T'.heap = h ∧ ∀ t, Steps p.tables e below (T'.setTop g') t → Steps p.tables e below (T.setTop g) t)
    (k : Run p l e R s m args below meth c Z EL own n0 bk h cells slots g' Q) : Run p l e R s m args below meth c Z EL own n0 bk h cells slots g Q := fun vm0 T locs P => by
  obtain ⟨X, e1, hS, hZ, ho, N, O, C, B, hE⟩ := P
  obtain ⟨T', X', e2, st'⟩ := st _ T locs X e1 hZ ho
  obtain ⟨U, o, h1, r⟩ := k vm0 T' locs ⟨X', e2, hS, hZ, ho, N, O, C, B, hE⟩
  exact ⟨U, o, st' _ h1, r⟩
/-- one step that makes cells -/
theorem k_grow {kc ks : Nat} {F : Heap → JFrame → Prop} (st : ∀ s' T locs, Stand p l e R s' m args below meth c T locs cells slots → T.heap = h → Z.Warmed39 s'.vm → s'.vm.findClass own = some m.cls → ∃ T' h' g', Stand p l e R s' m args below meth c T' locs (cells + kc) (slots + ks) ∧ T'.heap = h' ∧ Ext h h' ∧ F h' g' ∧ ∀ t, Steps p.tables e below (T'.setTop g') t → Steps p.tables e below (T.setTop g) t)
    (k : ∀ h' g', Old Z n0 h' → Ext h h' → F h' g' → Run p l e R s m args below meth c Z EL own n0 bk h' (cells + kc) (slots + ks) g' Q) : Run p l e R s m args below meth c Z EL own n0 bk h cells slots g Q := fun vm0 T locs P => by
  obtain ⟨X, e1, ⟨k0, hS, hk, hN⟩, hZ, ho, N, O, C, B, hE⟩ := P
  obtain ⟨T', h', g', X', e2, E, hF, st'⟩ := st _ T locs X e1 hZ ho
  have hC := CHr.ext E C
  obtain ⟨U, o, h1, r⟩ := k h' g' (O.ext E) E hF vm0 T' locs ⟨X', e2, ⟨k0, hS, Nat.le_trans hk E.1, hN⟩, hZ, ho, N, O.ext E, hC.1, fun y q => B y ((C.step fun _ _ _ q => E.2 _ _ q).2 y q), hE⟩
  exact ⟨U, o, st' _ h1, r⟩
/-- one step that writes one place of a cell that is ours -/
theorem k_write {a : Addr} {sl : Nat} {v : Value} (ge : n0 ≤ a) (nb : ¬ bk a)
    (st : ∀ s' T locs, Stand p l e R s' m args below meth c T locs cells slots → T.heap = h → Z.Warmed39 s'.vm → s'.vm.findClass own = some m.cls → ∃ T' h', Stand p l e R s' m args below meth c T' (locs ++ [⟨a, sl⟩]) cells slots ∧ T'.heap = h' ∧ Wr h h' a sl v ∧ ∀ t, Steps p.tables e below (T'.setTop g') t → Steps p.tables e below (T.setTop g) t)
    (k : ∀ h', Old Z n0 h' → Wr h h' a sl v → Run p l e R s m args below meth c Z EL own n0 bk h' cells slots g' Q) : Run p l e R s m args below meth c Z EL own n0 bk h cells slots g Q := fun vm0 T locs P => by
  obtain ⟨X, e1, ⟨k0, hS, hk, hN⟩, hZ, ho, N, O, C, B, hE⟩ := P
  obtain ⟨T', h', X', e2, W, st'⟩ := st _ T locs X e1 hZ ho
  have sa : Safe Z EL vm0 h a := fun q => nb (B a q)
  have hC := C.wrStep W sa
  obtain ⟨U, o, h1, r⟩ := k h' (O.wr W ge) W vm0 T' _ ⟨X', e2, ⟨k0, hS, by rw [W.size]; exact hk, hN⟩, hZ, ho, Fr.snoc X' N ge, O.wr W ge, hC.1, fun y q => B y (hC.2 y q), hE⟩
  exact ⟨U, o, st' _ h1, r⟩
/-- the end of a walk -/
theorem k_end {v : Option Value} (hlk : meth.locks = false) (hv : meth.sig.returnType = none → v = none) (hc : cells ≤ R.cells) (hs : slots ≤ R.slots) (hQ : Q v h bk)
    (st : ∀ s' T locs fs, Stand p l e R s' m args below meth c T locs cells slots → (∀ (f : JFrame) (acts : List Action), f.method = m → f.locked = none → f.entered = [] → (doReturn e (T.setTop f) acts v).1 = T.setFrames fs) → Steps p.tables e below (T.setTop g) (T.setFrames fs)) :
    Run p l e R s m args below meth c Z EL own n0 bk h cells slots g Q := fun vm0 T locs P => by
  obtain ⟨X, e1, ⟨k0, hS, hk, hN⟩, hZ, ho, N, O, C, B, a0, hE⟩ := P
  obtain ⟨fs, hr, hrun, hended, hW⟩ := X.leaveW hS (by rw [e1]; exact hk) (v := v) hv hlk
  have A := CHv.at X hZ hE C
  have eh : (T.setFrames fs).heap = h := e1
  refine ⟨_, _, st _ T locs fs X hr, hrun, hended, v, locs, bk, rfl, ⟨?_, N, ?_, ?_, ?_⟩, end_mono hW hc hs, State.WarmedH.trans (t := s.setVm vm0) hN X.warmed⟩
  · rw [eh]; exact hQ
  · rw [eh]; exact O
  · rw [eh]; exact A.1
  · rw [eh]; exact fun y q => (A.2.2 y q).elim (B y) (fun z => absurd (Array.getElem?_eq_some_iff.mp (Bk.there q).choose_spec).1 (Nat.not_lt.mpr z))
/-! the steps -/
theorem k_getF (hx : p.tables.exec = Jvm.exec) {R0 O n d host : String} {index : Nat} (w : (Jvm.Cond.fieldLink own index R0 n d).before a0 Z = true ∨ (Jvm.Cond.fieldLinkNest own index R0 n d host).before a0 Z = true) (via : Via Z R0 O n d) {a : Addr} {v : Value} (F : Fld Z h a O n d v)
    (hg : g.method = m) {rest : List Value} (hs : g.stack = .ref a :: rest) (hd : decode c.code g.pc = .ok (.getfield index, 3)) (k : Run p l e R s m args below meth c Z EL own n0 bk h cells slots { g with pc := g.pc + 3, stack := v :: rest } Q) : Run p l e R s m args below meth c Z EL own n0 bk h cells slots g Q :=
  k_still (fun s' T locs X e1 hZ ho => getF X hx hZ ho w via e1 F hg hs hd) k
theorem k_getS (hx : p.tables.exec = Jvm.exec) {R0 O n d host : String} {index : Nat} (w : (Jvm.Cond.fieldLink own index R0 n d).before a0 Z = true ∨ (Jvm.Cond.fieldLinkNest own index R0 n d host).before a0 Z = true) (via : Via Z R0 O n d) {v : Value} (F : Sta Z h O n d v)
    (hg : g.method = m) (hd : decode c.code g.pc = .ok (.getstatic index, 3)) (k : Run p l e R s m args below meth c Z EL own n0 bk h cells slots { g with pc := g.pc + 3, stack := v :: g.stack } Q) : Run p l e R s m args below meth c Z EL own n0 bk h cells slots g Q :=
  k_still (fun s' T locs X e1 hZ ho => getS2 X hx hZ ho w via e1 F hg hd) k
theorem k_cast' (hx : p.tables.exec = Jvm.exec) {K : String} {index : Nat} (w : (Jvm.Cond.classLink own index K).before a0 Z = true) {a : Addr} (F : Ins Z h a K true) (hg : g.method = m) {rest : List Value} (hs : g.stack = .ref a :: rest) (hd : decode c.code g.pc = .ok (.checkcast index, 3))
    (k : Run p l e R s m args below meth c Z EL own n0 bk h cells slots { g with pc := g.pc + 3 } Q) : Run p l e R s m args below meth c Z EL own n0 bk h cells slots g Q :=
  k_still (fun s' T locs X e1 hZ ho => castY X hx hZ ho w e1 F hg hs hd) k
theorem k_instY (hx : p.tables.exec = Jvm.exec) {K : String} {index : Nat} (w : (Jvm.Cond.classLink own index K).before a0 Z = true) {a : Addr} (F : Ins Z h a K true) (hg : g.method = m) {rest : List Value} (hs : g.stack = .ref a :: rest) (hd : decode c.code g.pc = .ok (.instanceof index, 3))
    (k : Run p l e R s m args below meth c Z EL own n0 bk h cells slots { g with pc := g.pc + 3, stack := .int 1 :: rest } Q) : Run p l e R s m args below meth c Z EL own n0 bk h cells slots g Q :=
  k_still (fun s' T locs X e1 hZ ho => instY X hx hZ ho w e1 F hg hs hd) k
theorem k_instNo (hx : p.tables.exec = Jvm.exec) {K C : String} {index : Nat} (w : (Jvm.Cond.classLink own index K).before a0 Z = true) {a : Addr} (E : Exa Z h a C) (F : ∃ c t, Z.vm.findClass C = some c ∧ Z.vm.findClass K = some t ∧ Z.vm.assignable c t = false) (hg : g.method = m) {rest : List Value} (hs : g.stack = .ref a :: rest) (hd : decode c.code g.pc = .ok (.instanceof index, 3))
    (k : Run p l e R s m args below meth c Z EL own n0 bk h cells slots { g with pc := g.pc + 3, stack := .int 0 :: rest } Q) : Run p l e R s m args below meth c Z EL own n0 bk h cells slots g Q :=
  k_still (fun s' T locs X e1 hZ ho => instNo X hx hZ ho w e1 E F hg hs hd) k
theorem k_initO (hx : p.tables.exec = Jvm.exec) {idx : Nat} (w1 : (Jvm.Cond.methodLink own idx Lib.objectInit).before a0 Z = true) (w2 : (Jvm.Cond.instanceMethod Lib.objectInit).before a0 Z = true) (w3 : (Jvm.Cond.code Lib.objectInit ⟨#[0xb1]⟩ 1 none).before a0 Z = true)
    (hg : g.method = m) (hsize : g.locals.size = c.maxLocals) {a : Addr} {rest : List Value} (hs : g.stack = .ref a :: rest) (hd : decode c.code g.pc = .ok (.invokespecial idx, 3)) (hf : 1 ≤ R.frames) {W : Nat} (hW : 2 * g.monitorRoom + (rest.map fun v => v.category).sum ≤ W) (hl : W + 12 ≤ R.locals)
    (k : Run p l e R s m args below meth c Z EL own n0 bk h cells slots { g with pc := g.pc + 3, stack := rest } Q) : Run p l e R s m args below meth c Z EL own n0 bk h cells slots g Q :=
  k_still (fun s' T locs X e1 hZ ho => initO X hx hZ ho w1 w2 w3 e1 hg hsize hs hd hf hW hl) k
theorem k_ldcI (hx : p.tables.exec = Jvm.exec) {index : Nat} {v : Int32} (w : (Jvm.Cond.constant own index v).before a0 Z = true) (hg : g.method = m) (hd : decode c.code g.pc = .ok (.ldc index, 2))
    (k : Run p l e R s m args below meth c Z EL own n0 bk h cells slots { g with pc := g.pc + 2, stack := .int v :: g.stack } Q) : Run p l e R s m args below meth c Z EL own n0 bk h cells slots g Q :=
  k_still (fun s' T locs X e1 hZ ho => ⟨T, X, e1, fun t => X.ldcInt hx ho (mv hZ w) hg hd t⟩) k
theorem k_ldcWI (hx : p.tables.exec = Jvm.exec) {index : Nat} {v : Int32} (w : (Jvm.Cond.constant own index v).before a0 Z = true) (hg : g.method = m) (hd : decode c.code g.pc = .ok (.ldc_w index, 3))
    (k : Run p l e R s m args below meth c Z EL own n0 bk h cells slots { g with pc := g.pc + 3, stack := .int v :: g.stack } Q) : Run p l e R s m args below meth c Z EL own n0 bk h cells slots g Q :=
  k_still (fun s' T locs X e1 hZ ho => ⟨T, X, e1, fun t => X.ldcWInt hx ho (mv hZ w) hg hd t⟩) k
theorem k_ldc2J (hx : p.tables.exec = Jvm.exec) {index : Nat} {v : Int64} (w : (Jvm.Cond.constantLong own index v).before a0 Z = true) (hg : g.method = m) (hd : decode c.code g.pc = .ok (.ldc2_w index, 3))
    (k : Run p l e R s m args below meth c Z EL own n0 bk h cells slots { g with pc := g.pc + 3, stack := .long v :: g.stack } Q) : Run p l e R s m args below meth c Z EL own n0 bk h cells slots g Q :=
  k_still (fun s' T locs X e1 hZ ho => ⟨T, X, e1, fun t => X.ldc2Long hx ho (mv hZ w) hg hd t⟩) k
theorem k_instNull (hx : p.tables.exec = Jvm.exec) {K : String} {index : Nat} (w : (Jvm.Cond.classLink own index K).before a0 Z = true) (hg : g.method = m) {rest : List Value} (hs : g.stack = .null :: rest) (hd : decode c.code g.pc = .ok (.instanceof index, 3))
    (k : Run p l e R s m args below meth c Z EL own n0 bk h cells slots { g with pc := g.pc + 3, stack := .int 0 :: rest } Q) : Run p l e R s m args below meth c Z EL own n0 bk h cells slots g Q :=
  k_still (fun s' T locs X e1 hZ ho => ⟨T, X, e1, fun t => X.instanceofNull hx hg hs hd t⟩) k
theorem k_newO (hx : p.tables.exec = Jvm.exec) {C : String} {index n : Nat} (w : (Jvm.Cond.classLink own index C).before a0 Z = true) (wi : (Jvm.Cond.instantiable C n).before a0 Z = true) (wz : (Jvm.Cond.initialized C).before a0 Z = true)
    (hg : g.method = m) (hd : decode c.code g.pc = .ok (.new index, 3)) (hc : cells + 1 ≤ R.cells) (hl : slots + n ≤ R.slots)
    (k : ∀ h' a, a = h.size → Old Z n0 h' → Ext h h' → Exa Z h' a C → (∀ {O nm d : String} {ty : FieldType}, RoadKit.Laid Z a0 C O nm d → parseFieldDescriptor d = some ty → Fld Z h' a O nm d (defaultValue ty)) → (∃ cell : Cell, h'[a]? = some cell ∧ cell.vm = .none ∧ cell.monitor = {}) →
      Run p l e R s m args below meth c Z EL own n0 bk h' (cells + 1) (slots + n) { g with pc := g.pc + 3, stack := .ref a :: g.stack } Q) : Run p l e R s m args below meth c Z EL own n0 bk h cells slots g Q :=
  k_grow (F := fun h' g' => g' = { g with pc := g.pc + 3, stack := .ref h.size :: g.stack } ∧ Exa Z h' h.size C ∧ (∀ {O nm d : String} {ty : FieldType}, RoadKit.Laid Z a0 C O nm d → parseFieldDescriptor d = some ty → Fld Z h' h.size O nm d (defaultValue ty)) ∧ ∃ cell : Cell, h'[h.size]? = some cell ∧ cell.vm = .none ∧ cell.monitor = {})
    (fun s' T locs X e1 hZ ho => by
      obtain ⟨T', h', X', e2, E, A, D, N, st⟩ := newO X hx hZ ho w wi wz e1 hg hd hc hl
      exact ⟨T', h', _, X', e2, E, ⟨rfl, A, D, N⟩, st⟩)
    (fun h' g' O E ⟨q, A, D, N⟩ => by subst q; exact k h' _ rfl O E A D N)
theorem k_newP (hx : p.tables.exec = Jvm.exec) {aty : ArrayType} (w : (Jvm.Cond.arrayClass (newarray.typeOf aty)).before a0 Z = true) (hg : g.method = m) (hd : decode c.code g.pc = .ok (.newarray aty, 2)) {n : Int32} {rest : List Value} (hs : g.stack = .int n :: rest)
    (hn : ¬ n < 0) {cap : Nat} (hcap : n.toNatClampNeg ≤ cap) (hb : cap * 8 ≤ 536870912) (hc : cells + 1 ≤ R.cells) (hl : slots + cap ≤ R.slots) (ad : String) (had : "[" ++ (newarray.typeOf aty).toString = ad)
    (k : ∀ h' a kA, a = h.size → Old Z n0 h' → Ext h h' → Arv Z h' a kA (newarray.typeOf aty) n [] (defaultValue (newarray.typeOf aty)) → Exa Z h' a ad → Run p l e R s m args below meth c Z EL own n0 bk h' (cells + 1) (slots + cap) { g with pc := g.pc + 2, stack := .ref a :: rest } Q) : Run p l e R s m args below meth c Z EL own n0 bk h cells slots g Q :=
  k_grow (F := fun h' g' => g' = { g with pc := g.pc + 2, stack := .ref h.size :: rest } ∧ Exa Z h' h.size ad ∧ ∃ kA, Arv Z h' h.size kA (newarray.typeOf aty) n [] (defaultValue (newarray.typeOf aty)))
    (fun s' T locs X e1 hZ ho => by
      obtain ⟨T', h', cA, X', e2, E, A, D, st⟩ := newPE X hx hZ w e1 hg hd hs hn hcap hb hc hl had
      exact ⟨T', h', _, X', e2, E, ⟨rfl, D, cA, Arv.new A hn⟩, st⟩)
    (fun h' g' O E ⟨q, D, kA, A⟩ => by subst q; exact k h' _ kA rfl O E A D)
theorem k_newR (hx : p.tables.exec = Jvm.exec) {C : String} {index : Nat} (w1 : (Jvm.Cond.classLink own index C).before a0 Z = true) (w2 : (Jvm.Cond.arrayOver (.object C)).before a0 Z = true) (hg : g.method = m) (hd : decode c.code g.pc = .ok (.anewarray index, 3)) {n : Int32} {rest : List Value} (hs : g.stack = .int n :: rest)
    (hn : ¬ n < 0) {cap : Nat} (hcap : n.toNatClampNeg ≤ cap) (hb : cap * 8 ≤ 536870912) (hc : cells + 1 ≤ R.cells) (hl : slots + cap ≤ R.slots) (ad : String) (had : "[" ++ (FieldType.object C).toString = ad)
    (k : ∀ h' a kA, a = h.size → Old Z n0 h' → Ext h h' → Arv Z h' a kA (.object C) n [] .null → Exa Z h' a ad → Ovr Z kA C → Run p l e R s m args below meth c Z EL own n0 bk h' (cells + 1) (slots + cap) { g with pc := g.pc + 3, stack := .ref a :: rest } Q) : Run p l e R s m args below meth c Z EL own n0 bk h cells slots g Q :=
  k_grow (F := fun h' g' => g' = { g with pc := g.pc + 3, stack := .ref h.size :: rest } ∧ Exa Z h' h.size ad ∧ ∃ kA, Arv Z h' h.size kA (.object C) n [] .null ∧ Ovr Z kA C)
    (fun s' T locs X e1 hZ ho => by
      obtain ⟨T', h', cA, X', e2, E, A, D, Ov, st⟩ := newRE X hx hZ ho w1 w2 e1 hg hd hs hn hcap hb hc hl had
      exact ⟨T', h', _, X', e2, E, ⟨rfl, D, cA, Arv.new A hn, Ov⟩, st⟩)
    (fun h' g' O E ⟨q, D, kA, A, Ov⟩ => by subst q; exact k h' _ kA rfl O E A D Ov)
theorem k_putF (hx : p.tables.exec = Jvm.exec) {R0 O n d host C : String} {index kk : Nat} {ty : FieldType} (w : (Jvm.Cond.fieldLink own index R0 n d).before a0 Z = true ∨ (Jvm.Cond.fieldLinkNest own index R0 n d host).before a0 Z = true) (via : Via Z R0 O n d)
    {a : Addr} {v old : Value} (F : Fld Z h a O n d old) (E : Exa Z h a C) (L : (Jvm.Cond.lays C O n d).before a0 Z = true ∨ ((Jvm.Cond.laysFinal C O n d).before a0 Z = true ∧ own = O ∧ meth.name = "<init>")) (wi : (Jvm.Cond.instantiable C kk).before a0 Z = true)
    (hty : parseFieldDescriptor d = some ty) (hn : narrow ty v = v) (hf : fits ty v = true) (ge : n0 ≤ a) (nb : ¬ bk a) (hg : g.method = m) {rest : List Value} (hs : g.stack = v :: .ref a :: rest) (hd : decode c.code g.pc = .ok (.putfield index, 3))
    (k : ∀ h', Old Z n0 h' → Wr h h' a (RoadKit.slotOf Z O n d) v → Run p l e R s m args below meth c Z EL own n0 bk h' cells slots { g with pc := g.pc + 3, stack := rest } Q) : Run p l e R s m args below meth c Z EL own n0 bk h cells slots g Q :=
  k_write ge nb (fun s' T locs X e1 hZ ho => putF X hx hZ ho w via e1 F E L wi hty hn hf hg hs hd) k
theorem k_alen (hx : p.tables.exec = Jvm.exec) {a : Addr} {kA : ClassId} {ty : FieldType} {n : Int32} {vs : List Value} {d : Value} (V : Arv Z h a kA ty n vs d) (hg : g.method = m) {rest : List Value} (hs : g.stack = .ref a :: rest) (hd : decode c.code g.pc = .ok (.arraylength, 1))
    (k : Run p l e R s m args below meth c Z EL own n0 bk h cells slots { g with pc := g.pc + 1, stack := .int n :: rest } Q) : Run p l e R s m args below meth c Z EL own n0 bk h cells slots g Q :=
  k_still (fun s' T locs X e1 hZ ho => ⟨T, X, e1, fun t => by
    obtain ⟨cl, A, -, S, q, -⟩ := V
    have := X.arraylength hx (a := a) (cell := cl) (by rw [e1]; exact A.1) (State.isArrayOf_alike hZ.alike A.2.1) hg hs hd t
    rw [len_of S q] at this; exact this⟩) k
theorem k_aget (hx : p.tables.exec = Jvm.exec) {a : Addr} {kA : ClassId} {ty : FieldType} {n j : Int32} {vs : List Value} {d v : Value} {i : Instr} (V : Arv Z h a kA ty n vs d) (hj : ¬ j < 0 ∧ j < n) (hv : vs.getD j.toNatClampNeg d = v)
    (hi : (i = .iaload ∧ ty = .int) ∨ (i = .laload ∧ ty = .long) ∨ (i = .caload ∧ ty = .char) ∨ (i = .baload ∧ ty = .byte) ∨ (i = .aaload ∧ ty.isReference = true)) (hg : g.method = m) {rest : List Value} (hs : g.stack = .int j :: .ref a :: rest) (hd : decode c.code g.pc = .ok (i, 1))
    (k : Run p l e R s m args below meth c Z EL own n0 bk h cells slots { g with pc := g.pc + 1, stack := v :: rest } Q) : Run p l e R s m args below meth c Z EL own n0 bk h cells slots g Q :=
  k_still (fun s' T locs X e1 hZ ho => ⟨T, X, e1, fun t => by
    obtain ⟨cl, A, -, S, q, H, -⟩ := V
    have A1 : T.heap[a]? = some cl := by rw [e1]; exact A.1
    have A2 := State.isArrayOf_alike hZ.alike A.2.1
    have hin := inb_of S hj
    have hv' := Has.at H hin hv
    rcases hi with ⟨rfl, rfl⟩ | ⟨rfl, rfl⟩ | ⟨rfl, rfl⟩ | ⟨rfl, rfl⟩ | ⟨rfl, ht⟩
    · exact X.iaload hx A1 A2 A.2.2 hin hv' hg hs hd t
    · exact X.laload hx A1 A2 A.2.2 hin hv' hg hs hd t
    · exact X.caload hx A1 A2 A.2.2 hin hv' hg hs hd t
    · exact X.baloadBytes hx A1 A2 A.2.2 hin hv' hg hs hd t
    · exact X.aaload hx A1 A2 ht A.2.2 hin hv' hg hs hd t⟩) k
theorem k_stC (hx : p.tables.exec = Jvm.exec) {a : Addr} {kA : ClassId} {n j x : Int32} {vs : List Value} {d : Value} (V : Arv Z h a kA .char n vs d) (hj : ¬ j < 0 ∧ j < n) (i : Nat) (hi : j.toNatClampNeg = i) (hl : i < vs.length) (ge : n0 ≤ a) (nb : ¬ bk a) (hg : g.method = m) {rest : List Value} (hs : g.stack = .int x :: .int j :: .ref a :: rest) (hd : decode c.code g.pc = .ok (.castore, 1))
    (k : ∀ h', Old Z n0 h' → Wr h h' a j.toNatClampNeg (.int (nar .char x)) → Arv Z h' a kA .char n (vs.set i (.int (nar .char x))) d → Run p l e R s m args below meth c Z EL own n0 bk h' cells slots { g with pc := g.pc + 1, stack := rest } Q) : Run p l e R s m args below meth c Z EL own n0 bk h cells slots g Q := by
  obtain ⟨cl, A, q1, S, q3, H, G⟩ := V
  exact k_write ge nb (fun s' T locs X e1 hZ ho => stC X hx hZ e1 A (inb_of S hj) hg hs hd) fun h' O W => k h' O W (Arv.set A q1 S q3 H G (fits_nar_char _) W i hi hl)
theorem k_stB (hx : p.tables.exec = Jvm.exec) {a : Addr} {kA : ClassId} {n j x : Int32} {vs : List Value} {d : Value} (V : Arv Z h a kA .byte n vs d) (hj : ¬ j < 0 ∧ j < n) (i : Nat) (hi : j.toNatClampNeg = i) (hl : i < vs.length) (ge : n0 ≤ a) (nb : ¬ bk a) (hg : g.method = m) {rest : List Value} (hs : g.stack = .int x :: .int j :: .ref a :: rest) (hd : decode c.code g.pc = .ok (.bastore, 1))
    (k : ∀ h', Old Z n0 h' → Wr h h' a j.toNatClampNeg (.int (nar .byte x)) → Arv Z h' a kA .byte n (vs.set i (.int (nar .byte x))) d → Run p l e R s m args below meth c Z EL own n0 bk h' cells slots { g with pc := g.pc + 1, stack := rest } Q) : Run p l e R s m args below meth c Z EL own n0 bk h cells slots g Q := by
  obtain ⟨cl, A, q1, S, q3, H, G⟩ := V
  exact k_write ge nb (fun s' T locs X e1 hZ ho => stB X hx hZ e1 A (inb_of S hj) hg hs hd) fun h' O W => k h' O W (Arv.set A q1 S q3 H G (fits_nar_byte _) W i hi hl)
theorem k_stR (hx : p.tables.exec = Jvm.exec) {a : Addr} {kA : ClassId} {ty : FieldType} {n j : Int32} {v : Value} {vs : List Value} {d : Value} (V : Arv Z h a kA ty n vs d) (hty : ty.isReference = true) (hfv : fits ty v = true) (F : Sto Z h a v) (hj : ¬ j < 0 ∧ j < n) (i : Nat) (hi : j.toNatClampNeg = i) (hl : i < vs.length) (ge : n0 ≤ a) (nb : ¬ bk a) (hg : g.method = m) {rest : List Value} (hs : g.stack = v :: .int j :: .ref a :: rest) (hd : decode c.code g.pc = .ok (.aastore, 1))
    (k : ∀ h', Old Z n0 h' → Wr h h' a j.toNatClampNeg v → Arv Z h' a kA ty n (vs.set i v) d → Run p l e R s m args below meth c Z EL own n0 bk h' cells slots { g with pc := g.pc + 1, stack := rest } Q) : Run p l e R s m args below meth c Z EL own n0 bk h cells slots g Q := by
  obtain ⟨cl, A, q1, S, q3, H, G⟩ := V
  exact k_write ge nb (fun s' T locs X e1 hZ ho => stR X hx hZ e1 A (inb_of S hj) hty F hg hs hd) fun h' O W => k h' O W (Arv.set A q1 S q3 H G hfv W i hi hl)
/-! the ends -/
theorem k_ret0 (hx : p.tables.exec = Jvm.exec) (hlk : meth.locks = false) (hret : meth.sig.returnType = none) {pc : Nat} {Ls : Array Slot} (hd : decode c.code pc = .ok (.return_, 1)) (hc : cells ≤ R.cells) (hs : slots ≤ R.slots) (hQ : Q none h bk) : Run p l e R s m args below meth c Z EL own n0 bk h cells slots (mkF m pc Ls []) Q :=
  k_end hlk (fun _ => rfl) hc hs hQ fun s' T locs fs X hr => X.returnOut hx hret hd hr
theorem k_retN (hx : p.tables.exec = Jvm.exec) (hlk : meth.locks = false) {t : FieldType} (hret : meth.sig.returnType = some t) (ht : t = .boolean ∨ t = .byte ∨ t = .char ∨ t = .short) {pc : Nat} {Ls : Array Slot} {z : Int32} {rest : List Value} (hd : decode c.code pc = .ok (.ireturn, 1)) (hc : cells ≤ R.cells) (hs : slots ≤ R.slots) (hQ : Q (some (.int (nar t z))) h bk) : Run p l e R s m args below meth c Z EL own n0 bk h cells slots (mkF m pc Ls (.int z :: rest)) Q :=
  k_end hlk (fun q => by rw [hret] at q; cases q) hc hs hQ fun s' T locs fs X hr => retN X hx hret ht hd hr
theorem k_ret (hx : p.tables.exec = Jvm.exec) (hlk : meth.locks = false) {t : FieldType} {w : Value} {i : Instr} (hret : meth.sig.returnType = some t) (hn : narrow t w = w)
    (hi : (i = .ireturn ∧ (t = .int ∨ t = .boolean ∨ t = .byte ∨ t = .char ∨ t = .short) ∧ ∃ z, w = .int z) ∨ (i = .lreturn ∧ t = .long ∧ ∃ z, w = .long z) ∨ (i = .dreturn ∧ t = .double ∧ ∃ z, w = .double z) ∨ (i = .freturn ∧ t = .float ∧ ∃ z, w = .float z) ∨ (i = .areturn ∧ t.isReference = true ∧ w.isRef = true)) {pc : Nat} {Ls : Array Slot} {rest : List Value} (hd : decode c.code pc = .ok (i, 1)) (hc : cells ≤ R.cells) (hs : slots ≤ R.slots) (hQ : Q (some w) h bk) : Run p l e R s m args below meth c Z EL own n0 bk h cells slots (mkF m pc Ls (w :: rest)) Q :=
  k_end hlk (fun q => by rw [hret] at q; cases q) hc hs hQ fun s' T locs fs X hr => retOut X hx hret hn hi hd hr
theorem k_retI (hx : p.tables.exec = Jvm.exec) (hlk : meth.locks = false) (hret : meth.sig.returnType = some .int) {pc : Nat} {Ls : Array Slot} {z : Int32} {rest : List Value} (hd : decode c.code pc = .ok (.ireturn, 1)) (hc : cells ≤ R.cells) (hs : slots ≤ R.slots) (hQ : Q (some (.int z)) h bk) : Run p l e R s m args below meth c Z EL own n0 bk h cells slots (mkF m pc Ls (.int z :: rest)) Q :=
  k_ret hx hlk hret rfl (Or.inl ⟨rfl, Or.inl rfl, z, rfl⟩) hd hc hs hQ
theorem k_retL (hx : p.tables.exec = Jvm.exec) (hlk : meth.locks = false) (hret : meth.sig.returnType = some .long) {pc : Nat} {Ls : Array Slot} {z : Int64} {rest : List Value} (hd : decode c.code pc = .ok (.lreturn, 1)) (hc : cells ≤ R.cells) (hs : slots ≤ R.slots) (hQ : Q (some (.long z)) h bk) : Run p l e R s m args below meth c Z EL own n0 bk h cells slots (mkF m pc Ls (.long z :: rest)) Q :=
  k_ret hx hlk hret rfl (Or.inr (Or.inl ⟨rfl, rfl, z, rfl⟩)) hd hc hs hQ
theorem k_retA (hx : p.tables.exec = Jvm.exec) (hlk : meth.locks = false) {t : FieldType} {w : Value} (hret : meth.sig.returnType = some t) (hn : narrow t w = w) (ht : t.isReference = true) (hw : w.isRef = true) {pc : Nat} {Ls : Array Slot} {rest : List Value} (hd : decode c.code pc = .ok (.areturn, 1)) (hc : cells ≤ R.cells) (hs : slots ≤ R.slots) (hQ : Q (some w) h bk) : Run p l e R s m args below meth c Z EL own n0 bk h cells slots (mkF m pc Ls (w :: rest)) Q :=
  k_ret hx hlk hret hn (Or.inr (Or.inr (Or.inr (Or.inr ⟨rfl, ht, hw⟩)))) hd hc hs hQ
/-! the calls -/
/-- what a callee's law gives to a walk that stands at h -/
def Pays (l : Launch) (R : Room) (p : Program) (e : Env) (below : List Frame) (s : State) (args : Array Value) (Z : State) (EL : List (String × Nat)) (n0 : Nat) (bk : Addr → Prop) (h : Heap) (y : MethodName) (len W kc ks : Nat) (as' : Array Value) (Q : Option Value → Heap → (Addr → Prop) → Prop) : Prop :=
  ∀ vm0, Z.Warmed39 vm0 → (∃ a0, EW Z a0 EL) → Old Z n0 h → CHv Z EL vm0 h → (∀ y, Bk Z EL vm0 h y → bk y) →
    BackS l R p e below (s.setVm vm0) args y len W (fun A a => a = as' ∧ A.U.heap = h ∧ A.cells + kc ≤ R.cells ∧ A.slots + ks ≤ R.slots)
      (fun A _ v B => ∃ L bk', Q v B.U.heap bk' ∧ Fr n0 L ∧ Old Z n0 B.U.heap ∧ CHv Z EL B.U.vm B.U.heap ∧ (∀ y, Bk Z EL B.U.vm B.U.heap y → bk' y) ∧ B.locs = A.locs ++ L ∧ B.cells = A.cells + kc ∧ B.slots = A.slots + ks ∧ (s.setVm vm0).WarmedH B.U.vm)
theorem at_bk {T : State} {locs : List Loc} {vm0 : Vm} (X : Stand p l e R (s.setVm vm0) m args below meth c T locs cells slots) (hZ : Z.Warmed39 vm0) (w : EW Z a0 EL) (C : CHv Z EL vm0 h) (B : ∀ y, Bk Z EL vm0 h y → bk y) : CHv Z EL T.vm h ∧ ∀ y, Bk Z EL T.vm h y → bk y := by
  have A := CHv.at X hZ w C
  exact ⟨A.1, fun y q => (A.2.2 y q).elim (B y) (fun z => absurd (Array.getElem?_eq_some_iff.mp (Bk.there q).choose_spec).1 (Nat.not_lt.mpr z))⟩
theorem Pays.of_met {y : MethodName} {bytes : ByteArray} {maxL : Nat} {ret : Option FieldType} {rm : Room} {len W : Nat} {as' : Array Value} {Qc : Option Value → Heap → (Addr → Prop) → Prop} (hM : Met l Z EL n0 bk y bytes maxL ret rm as' h Qc [])
    (wc : (Jvm.Cond.code y bytes maxL ret).before a0 Z = true) (wz : (Jvm.Cond.initialized y.cls).before a0 Z = true) (hf : rm.frames + 1 ≤ R.frames) (hl : W + (maxL + 11) + rm.locals ≤ R.locals) :
    Pays l R p e below s args Z EL n0 bk h y len W rm.cells rm.slots as' Qc := fun vm0 hZ ⟨a1, hEL⟩ hO H hB =>
  BackS.of_freeW (bytes := bytes) (maxL := maxL) (ret := ret) (E := fun _ first o t L k n => k = rm.cells ∧ n = rm.slots ∧ first.WarmedH t.vm ∧ ∃ v bk', o = .returned v ∧ Qc v t.heap bk' ∧ Fr n0 L ∧ Old Z n0 t.heap ∧ CHv Z EL t.vm t.heap ∧ ∀ y, Bk Z EL t.vm t.heap y → bk' y) hM hf hl
    (fun m meth c A a Y hp => have hU : Z.Warmed39 A.U.vm := wtrans (s := s.setVm vm0) hZ Y.warmed
      ⟨by show (Jvm.Cond.and _ .tt).before a A.U = true; rw [Jvm.Cond.before_and, mv hU wc]; rfl, mv hU wc, mv hU wz, hp.2.2.1, hp.2.2.2⟩)
    (fun m meth c A a g mk Y hp => have r := at_bk Y hZ hEL H hB; ⟨hp.1, wtrans (s := s.setVm vm0) hZ Y.warmed, hp.2.1, r.1, r.2⟩) (fun _ _ _ _ _ _ _ _ _ => trivial)
    (fun _ _ _ _ ⟨v, L, bk', h1, h2, h3⟩ => ⟨L, _, _, h3.1, rfl, rfl, h3.2, v, bk', h1, h2⟩)
    (fun m meth c A a g mk v t L k n Y hp _ _ ⟨e1, e2, hw, v', bk', e3, r1, r2, r3, r4, r5⟩ => by
      cases e3; subst e1 e2
      exact ⟨L, bk', r1, r2, r3, r4, r5, rfl, rfl, rfl, State.WarmedH.trans (t := A.U) Y.warmed hw⟩)
/-- a library law that moves nothing -/
theorem Pays.of_same {y : MethodName} {len W : Nat} {as' : Array Value} {v0 : Option Value} (hK : ∀ s' : State, Z.Warmed39 s'.vm → Back l R p e below s' args y len W (fun P a => a = as' ∧ P.U.heap = h ∧ P.cells + 0 ≤ R.cells ∧ P.slots + 0 ≤ R.slots) (fun P _ v B => ∃ L, (v = v0 ∧ L = [] ∧ B.U.heap = h) ∧ B.locs = P.locs ++ L ∧ B.cells = P.cells + 0 ∧ B.slots = P.slots + 0)) :
    Pays l R p e below s args Z EL n0 bk h y len W 0 0 as' (fun v h' bk' => v = v0 ∧ h = h' ∧ bk = bk') := fun vm0 hZ ⟨a1, hEL⟩ hO H hB => by
  intro m meth c A g ig mk a X hg hsize hdg hW hn hp
  obtain ⟨v, B, X', ⟨L, ⟨q1, q2, q3⟩, q4, q5, q6⟩, hsteps⟩ := hK (s.setVm vm0) hZ m meth c A g ig mk a X hg hsize hdg hW hn hp
  have r := at_bk X' hZ hEL H hB
  refine ⟨v, B, X'.retabled X'.warmed.wide, X'.warmed.since _, by rw [hp.2.1, q3]; exact Nat.le_refl _, ⟨L, bk, ⟨q1, q3.symm, rfl⟩, by rw [q2]; exact Fr.nil _, by rw [q3]; exact hO, by rw [q3]; exact r.1, by rw [q3]; exact r.2, q4, q5, q6, X'.warmed⟩, hsteps⟩
theorem ne_of_keep {Z : State} {EL : List (String × Nat)} {vm : Vm} {h h' : Heap} {x : Addr} (K : Keep h h' [x]) (C : CHv Z EL vm h) (nb : ¬ Bk Z EL vm h x) : CHv Z EL vm h' ∧ ∀ y, Bk Z EL vm h' y → Bk Z EL vm h y := C.keepStep K (sfS nb sf0)
/-- a library law that writes one object of ours -/
theorem Pays.of_keep {y : MethodName} {len W kc ks : Nat} {as' : Array Value} {x : Addr} {Qk : Option Value → Heap → List Loc → Prop} (nb : ¬ bk x) (ge : n0 ≤ x) (hq : ∀ v h' L, Qk v h' L → Fr n0 L ∧ Keep h h' [x])
    (hK : ∀ s' : State, Z.Warmed39 s'.vm → Back l R p e below s' args y len W (fun P a => a = as' ∧ P.U.heap = h ∧ P.cells + kc ≤ R.cells ∧ P.slots + ks ≤ R.slots) (fun P _ v B => ∃ L, Qk v B.U.heap L ∧ B.locs = P.locs ++ L ∧ B.cells = P.cells + kc ∧ B.slots = P.slots + ks)) :
    Pays l R p e below s args Z EL n0 bk h y len W kc ks as' (fun v h' bk' => (∃ L, Qk v h' L) ∧ bk = bk') := fun vm0 hZ ⟨a1, hEL⟩ hO H hB => by
  intro m meth c A g ig mk a X hg hsize hdg hW hn hp
  obtain ⟨v, B, X', ⟨L, q1, q4, q5, q6⟩, hsteps⟩ := hK (s.setVm vm0) hZ m meth c A g ig mk a X hg hsize hdg hW hn hp
  obtain ⟨N, K⟩ := hq _ _ _ q1
  have r := at_bk X' hZ hEL H hB
  have r' := ne_of_keep K r.1 (fun q => nb (r.2 x q))
  refine ⟨v, B, X'.retabled X'.warmed.wide, X'.warmed.since _, by rw [hp.2.1]; exact K.1, ⟨L, bk, ⟨⟨L, q1⟩, rfl⟩, N, hO.keep K (allS ge all0), r'.1, fun z q => r.2 z (r'.2 z q), q4, q5, q6, X'.warmed⟩, hsteps⟩
/-- behind a call -/
theorem k_back {vm0 : Vm} {T : State} {locs : List Loc} {len kc ks : Nat} {rest : List Value} {Qc : Option Value → Heap → (Addr → Prop) → Prop} (P : Pos p l e R s m args below meth c Z EL own n0 bk h cells slots vm0 T locs)
    (H : ∃ (v : Option Value) (vm₁ : Vm) (B : Pt), (s.setVm vm0).WarmedH vm₁ ∧ Stand p l e R ((s.setVm vm0).setVm B.U.vm) m args below meth c B.U B.locs B.cells B.slots ∧ (s.setVm vm0).Since B.U.vm B.U.heap.size ∧ T.heap.size ≤ B.U.heap.size ∧
      (∃ L bk', Qc v B.U.heap bk' ∧ Fr n0 L ∧ Old Z n0 B.U.heap ∧ CHv Z EL B.U.vm B.U.heap ∧ (∀ y, Bk Z EL B.U.vm B.U.heap y → bk' y) ∧ B.locs = locs ++ L ∧ B.cells = cells + kc ∧ B.slots = slots + ks ∧ (s.setVm vm0).WarmedH B.U.vm) ∧ Steps p.tables e below (T.setTop g) (B.U.setTop { g with pc := g.pc + len, stack := v.toList ++ rest }))
    (k : ∀ v h' bk', Old Z n0 h' → h.size ≤ h'.size → Qc v h' bk' → Run p l e R s m args below meth c Z EL own n0 bk' h' (cells + kc) (slots + ks) { g with pc := g.pc + len, stack := v.toList ++ rest } Q) :
    ∃ U o, Steps p.tables e below (T.setTop g) U ∧ U.status = .running ∧ Ended U below o ∧ EndW s R Z EL n0 Q o U := by
  obtain ⟨X, e1, ⟨k0, hS, hk, hN⟩, hZ, ho, N, O, C, B, hE⟩ := P
  obtain ⟨v, vm1, ⟨TB, LB, cB, sB⟩, -, X', hS', hgr, ⟨L, bk', q1, q2, q3, q4, q5, q6, q7, q8, q9⟩, st⟩ := H
  dsimp only [Pt.U, Pt.locs, Pt.cells, Pt.slots] at X' hS' hgr q1 q3 q4 q5 q6 q7 q8 q9 st
  subst q6 q7 q8
  obtain ⟨r1, r2, r3, r4⟩ := rebS hS (by rw [← e1] at hk; exact hk) X' hS' hgr hZ ho
  obtain ⟨U, o, h1, r⟩ := k v TB.heap bk' q3 (by rw [← e1]; exact hgr) q1 TB.vm TB _ ⟨r1, rfl, ⟨_, r2, Nat.le_refl _, State.WarmedH.trans (t := s.setVm vm0) hN q9⟩, r3, r4, Fr.app N q2, q3, q4, q5, hE⟩
  exact ⟨U, o, st.trans h1, r⟩
theorem k_callS (hx : p.tables.exec = Jvm.exec) {index : Nat} {y : MethodName} {bytes : ByteArray} {maxL : Nat} {ret : Option FieldType} (w1 : (Jvm.Cond.methodLink own index y).before a0 Z = true) (w2 : (Jvm.Cond.static y).before a0 Z = true) (w3 : (Jvm.Cond.initialized y.cls).before a0 Z = true) (w4 : (Jvm.Cond.code y bytes maxL ret).before a0 Z = true)
    (hy : y.cls ≠ "java/lang/invoke/MethodHandle" ∧ y.cls ≠ "java/lang/invoke/VarHandle") {W kc ks : Nat} {Qc : Option Value → Heap → (Addr → Prop) → Prop} {argsL rest : List Value} (hK : Pays l R p e below s args Z EL n0 bk h y 3 W kc ks argsL.toArray Qc)
    (hg : g.method = m) (hsize : g.locals.size = c.maxLocals) (hlen : ∀ sig, parseMethodDescriptor y.desc = some sig → argsL.length = sig.parameters.length) (hstack : g.stack = argsL.reverse ++ rest) (hW : 2 * g.monitorRoom + (rest.map fun v => v.category).sum ≤ W) (hd : decode c.code g.pc = .ok (.invokestatic index, 3)) (hc : cells + kc ≤ R.cells) (hs : slots + ks ≤ R.slots)
    (k : ∀ v h' bk', Old Z n0 h' → h.size ≤ h'.size → Qc v h' bk' → Run p l e R s m args below meth c Z EL own n0 bk' h' (cells + kc) (slots + ks) { g with pc := g.pc + 3, stack := v.toList ++ rest } Q) : Run p l e R s m args below meth c Z EL own n0 bk h cells slots g Q := fun vm0 T locs P => by
  have P' := P
  obtain ⟨X, e1, hS, hZ, ho, N, O, C, B, hE⟩ := P'
  exact k_back P (callSS X hx ho (mv hZ w1) (mv hZ w2) (mv hZ w3) (mv hZ w4) hy (hK vm0 hZ hE O C B) hg hsize hlen hstack hW hd fun _ _ => ⟨rfl, e1, hc, hs⟩) k
theorem k_callI (hx : p.tables.exec = Jvm.exec) {index : Nat} {y : MethodName} {bytes : ByteArray} {maxL : Nat} (hy1 : y.name = "<init>") (w1 : (Jvm.Cond.methodLink own index y).before a0 Z = true) (w2 : (Jvm.Cond.instanceMethod y).before a0 Z = true) (w4 : (Jvm.Cond.code y bytes maxL none).before a0 Z = true)
    (hy : y.cls ≠ "java/lang/invoke/MethodHandle" ∧ y.cls ≠ "java/lang/invoke/VarHandle") {W kc ks : Nat} {Qc : Option Value → Heap → (Addr → Prop) → Prop} {a : Addr} {argsL rest : List Value} (hK : Pays l R p e below s args Z EL n0 bk h y 3 W kc ks (.ref a :: argsL).toArray Qc)
    (hg : g.method = m) (hsize : g.locals.size = c.maxLocals) (hlen : ∀ sig, parseMethodDescriptor y.desc = some sig → argsL.length = sig.parameters.length) (hstack : g.stack = argsL.reverse ++ .ref a :: rest) (hW : 2 * g.monitorRoom + (rest.map fun v => v.category).sum ≤ W) (hd : decode c.code g.pc = .ok (.invokespecial index, 3)) (hc : cells + kc ≤ R.cells) (hs : slots + ks ≤ R.slots)
    (k : ∀ v h' bk', Old Z n0 h' → h.size ≤ h'.size → Qc v h' bk' → Run p l e R s m args below meth c Z EL own n0 bk' h' (cells + kc) (slots + ks) { g with pc := g.pc + 3, stack := v.toList ++ rest } Q) : Run p l e R s m args below meth c Z EL own n0 bk h cells slots g Q := fun vm0 T locs P => by
  have P' := P
  obtain ⟨X, e1, hS, hZ, ho, N, O, C, B, hE⟩ := P'
  exact k_back P (X.specialBackS hx hy1 ho (mv hZ w1) (mv hZ w2) (mv hZ w4) hy (hK vm0 hZ hE O C B) hg hsize (Steps.refl _) hlen hstack hW hd fun _ _ => ⟨rfl, e1, hc, hs⟩) k
theorem k_callV (hx : p.tables.exec = Jvm.exec) {index : Nat} {C : String} {y z : MethodName} (w1 : (Jvm.Cond.methodLink own index y).before a0 Z = true) (w2 : (Jvm.Cond.declares y).before a0 Z = true) (nf : ∀ s' : State, Z.Warmed39 s'.vm → NotFace s' y) (w3 : (Jvm.Cond.selects C y z).before a0 Z = true) (w4 : (Jvm.Cond.instanceMethod z).before a0 Z = true)
    (hy : y.cls ≠ "java/lang/invoke/MethodHandle" ∧ y.cls ≠ "java/lang/invoke/VarHandle") {W kc ks : Nat} {Qc : Option Value → Heap → (Addr → Prop) → Prop} {a : Addr} {argsL rest : List Value} (hK : Pays l R p e below s args Z EL n0 bk h z 3 W kc ks (.ref a :: argsL).toArray Qc) (E : Exa Z h a C)
    (hg : g.method = m) (hsize : g.locals.size = c.maxLocals) (hlen : ∀ sig, parseMethodDescriptor y.desc = some sig → argsL.length = sig.parameters.length) (hstack : g.stack = argsL.reverse ++ .ref a :: rest) (hW : 2 * g.monitorRoom + (rest.map fun v => v.category).sum ≤ W) (hd : decode c.code g.pc = .ok (.invokevirtual index, 3)) (hc : cells + kc ≤ R.cells) (hs : slots + ks ≤ R.slots)
    (k : ∀ v h' bk', Old Z n0 h' → h.size ≤ h'.size → Qc v h' bk' → Run p l e R s m args below meth c Z EL own n0 bk' h' (cells + kc) (slots + ks) { g with pc := g.pc + 3, stack := v.toList ++ rest } Q) : Run p l e R s m args below meth c Z EL own n0 bk h cells slots g Q := fun vm0 T locs P => by
  have P' := P
  obtain ⟨X, e1, hS, hZ, ho, N, O, C, B, hE⟩ := P'
  obtain ⟨cq, kq, qa, qb, qc⟩ := isOf (s := s.setVm vm0) hZ e1 E
  exact k_back P (X.virtualBackS hx ho (mv hZ w1) (mv hZ w2) (nf _ hZ) (mv hZ w3) (mv hZ w4) hy (hK vm0 hZ hE O C B) qa qc hg hsize (Steps.refl _) hlen hstack hW hd fun _ _ => ⟨rfl, e1, hc, hs⟩) k
/-- invokevirtual of a method that a class above the named one declares -/
theorem k_callU (hx : p.tables.exec = Jvm.exec) {index : Nat} {C owner : String} {y z : MethodName} (w1 : (Jvm.Cond.methodLink own index y).before a0 Z = true) (w2 : (Jvm.Cond.sameMethod y.cls owner y.name y.desc).before a0 Z = true) (w5 : (Jvm.Cond.declares ⟨owner, y.name, y.desc⟩).before a0 Z = true) (how : owner ≠ "java/lang/invoke/MethodHandle" ∧ owner ≠ "java/lang/invoke/VarHandle") (w3 : (Jvm.Cond.selects C y z).before a0 Z = true) (w4 : (Jvm.Cond.instanceMethod z).before a0 Z = true)
    {W kc ks : Nat} {Qc : Option Value → Heap → (Addr → Prop) → Prop} {a : Addr} {argsL rest : List Value} (hK : Pays l R p e below s args Z EL n0 bk h z 3 W kc ks (.ref a :: argsL).toArray Qc) (E : Exa Z h a C)
    (hg : g.method = m) (hsize : g.locals.size = c.maxLocals) (hlen : ∀ sig, parseMethodDescriptor y.desc = some sig → argsL.length = sig.parameters.length) (hstack : g.stack = argsL.reverse ++ .ref a :: rest) (hW : 2 * g.monitorRoom + (rest.map fun v => v.category).sum ≤ W) (hd : decode c.code g.pc = .ok (.invokevirtual index, 3)) (hc : cells + kc ≤ R.cells) (hs : slots + ks ≤ R.slots)
    (k : ∀ v h' bk', Old Z n0 h' → h.size ≤ h'.size → Qc v h' bk' → Run p l e R s m args below meth c Z EL own n0 bk' h' (cells + kc) (slots + ks) { g with pc := g.pc + 3, stack := v.toList ++ rest } Q) : Run p l e R s m args below meth c Z EL own n0 bk h cells slots g Q := fun vm0 T locs P => by
  have P' := P
  obtain ⟨X, e1, hS, hZ, ho, N, O, C, B, hE⟩ := P'
  obtain ⟨cq, kq, qa, qb, qc⟩ := isOf (s := s.setVm vm0) hZ e1 E
  exact k_back P (X.virtualBackUpS hx ho (mv hZ w1) (mv hZ w2) (mv hZ w5) how (mv hZ w3) (mv hZ w4) (hK vm0 hZ hE O C B) qa qc hg hsize (Steps.refl _) hlen hstack hW hd fun _ _ => ⟨rfl, e1, hc, hs⟩) k
theorem decl_of {y : MethodName} {bytes : ByteArray} {maxL : Nat} {ret : Option FieldType} (w2 : (Jvm.Cond.instanceMethod y).before a0 Z = true) (w4 : (Jvm.Cond.code y bytes maxL ret).before a0 Z = true) : (Jvm.Cond.declares y).before a0 Z = true := by
  obtain ⟨mk, methM, hnamed, hmethM, hst, -⟩ := Jvm.Cond.instanceMethod_spec w2
  obtain ⟨m2, cM, q1, -, -, -, -, -, -, hsig⟩ := Jvm.Cond.code_spec hnamed w4
  cases hmethM.symm.trans q1
  simp [Jvm.Cond.before, Jvm.Cond.holds, Jvm.Cond.value, hnamed, hmethM, hst, hsig]
theorem nf_of' {s' : State} {C : String} {y y' : MethodName} (q : y'.cls = y.cls) (hZ : Z.Warmed39 s'.vm) (w : (Jvm.Cond.selects C y' y').before a0 Z = true) : NotFace s' y := fun r0 h0 => by
  obtain ⟨c2, r2, m2, q1, q2, q3, q4, kP, hkP, hkPi⟩ := Jvm.Cond.selects_spec (mv (args := #[]) hZ w)
  have e1 := findClass_of_methodNamed h0
  have e2 := findClass_of_methodNamed q3
  rw [q] at e2
  rw [show r0.cls = m2.cls from Option.some.inj (e1.symm.trans e2)]
  exact ⟨kP, hkP, hkPi⟩
theorem nf_of {C : String} {y y' : MethodName} (q : y'.cls = y.cls) (w : (Jvm.Cond.selects C y' y').before a0 Z = true) : NotFace Z y := nf_of' q (State.Warmed39.refl Z) w
theorem same_of {y : MethodName} (hy : y.cls ≠ "java/lang/invoke/MethodHandle" ∧ y.cls ≠ "java/lang/invoke/VarHandle") (w : (Jvm.Cond.declares y).before a0 Z = true) (nf : NotFace Z y) : (Jvm.Cond.sameMethod y.cls y.cls y.name y.desc).before a0 Z = true := by
  obtain ⟨mk, methM, hnamed, hmethM, -, -⟩ := Jvm.Cond.declares_spec w
  obtain ⟨kr, hk, hi⟩ := nf mk hnamed
  have e1 := State.methodFound?_of_named hnamed hy
  have e2 := findClass_of_methodNamed hnamed
  have e3 : Z.methodNamed? ⟨y.cls, y.name, y.desc⟩ = some mk := hnamed
  simp [Jvm.Cond.before, Jvm.Cond.holds, Jvm.Cond.value, e1, e2, e3, hk, hi]
/-- invokespecial of a method of the class above -/
theorem k_callX (hx : p.tables.exec = Jvm.exec) {index : Nat} {K : String} {y : MethodName} {bytes : ByteArray} {maxL : Nat} {ret : Option FieldType} (w1 : (Jvm.Cond.methodLink own index y).before a0 Z = true) (w2 : (Jvm.Cond.sameMethod y.cls y.cls y.name y.desc).before a0 Z = true) (w3 : (Jvm.Cond.instanceMethod y).before a0 Z = true) (w4 : (Jvm.Cond.superclass own y.cls).before a0 Z = true) (hn : y.name ≠ "<init>") (wc : (Jvm.Cond.code y bytes maxL ret).before a0 Z = true)
    {W kc ks : Nat} {Qc : Option Value → Heap → (Addr → Prop) → Prop} {a : Addr} {argsL rest : List Value} (hK : Pays l R p e below s args Z EL n0 bk h y 3 W kc ks (.ref a :: argsL).toArray Qc) (E : Ins Z h a K true)
    (hg : g.method = m) (hsize : g.locals.size = c.maxLocals) (hlen : ∀ sig, parseMethodDescriptor y.desc = some sig → argsL.length = sig.parameters.length) (hstack : g.stack = argsL.reverse ++ .ref a :: rest) (hW : 2 * g.monitorRoom + (rest.map fun v => v.category).sum ≤ W) (hd : decode c.code g.pc = .ok (.invokespecial index, 3)) (hc : cells + kc ≤ R.cells) (hs : slots + ks ≤ R.slots)
    (k : ∀ v h' bk', Old Z n0 h' → h.size ≤ h'.size → Qc v h' bk' → Run p l e R s m args below meth c Z EL own n0 bk' h' (cells + kc) (slots + ks) { g with pc := g.pc + 3, stack := v.toList ++ rest } Q) : Run p l e R s m args below meth c Z EL own n0 bk h cells slots g Q := fun vm0 T locs P => by
  have P' := P
  obtain ⟨X, e1, hS, hZ, ho, N, O, C, B, hE⟩ := P'
  exact k_back P (superBackS X hx hZ ho w1 w2 w3 w4 hn (hK vm0 hZ hE O C B) e1 E hg hsize wc hlen hstack hW hd fun _ _ => ⟨rfl, e1, hc, hs⟩) k
/-- invokeinterface -/
theorem k_face (hx : p.tables.exec = Jvm.exec) {index count : Nat} {C : String} {y z : MethodName} (w1 : (Jvm.Cond.methodLink own index y).before a0 Z = true) (w2 : (Jvm.Cond.declares y).before a0 Z = true) (w3 : (Jvm.Cond.interfaceMethod y.cls y.cls y.name y.desc).before a0 Z = true) (w4 : (Jvm.Cond.selects C y z).before a0 Z = true) (w5 : (Jvm.Cond.instanceMethod z).before a0 Z = true) (w6 : (Jvm.Cond.publicMethod z).before a0 Z = true) (w7 : (Jvm.Cond.unhidden C y.name y.desc).before a0 Z = true) (w8 : (Jvm.Cond.castable C y.cls).before a0 Z = true)
    (hfa : ((Jvm.Cond.interfaceMethod y.cls y.cls y.name y.desc).onTables && (Jvm.Cond.interfaceMethod y.cls y.cls y.name y.desc).keepsFace) = true) (hy : y.cls ≠ "java/lang/invoke/MethodHandle" ∧ y.cls ≠ "java/lang/invoke/VarHandle") {W kc ks : Nat} {Qc : Option Value → Heap → (Addr → Prop) → Prop} {a : Addr} {argsL rest : List Value} (hK : Pays l R p e below s args Z EL n0 bk h z 5 W kc ks (.ref a :: argsL).toArray Qc) (E : Exa Z h a C)
    (hg : g.method = m) (hsize : g.locals.size = c.maxLocals) (hlen : ∀ sig, parseMethodDescriptor y.desc = some sig → argsL.length = sig.parameters.length) (hstack : g.stack = argsL.reverse ++ .ref a :: rest) (hW : 2 * g.monitorRoom + (rest.map fun v => v.category).sum ≤ W) (hd : decode c.code g.pc = .ok (.invokeinterface index count, 5)) (hc : cells + kc ≤ R.cells) (hs : slots + ks ≤ R.slots)
    (k : ∀ v h' bk', Old Z n0 h' → h.size ≤ h'.size → Qc v h' bk' → Run p l e R s m args below meth c Z EL own n0 bk' h' (cells + kc) (slots + ks) { g with pc := g.pc + 5, stack := v.toList ++ rest } Q) : Run p l e R s m args below meth c Z EL own n0 bk h cells slots g Q := fun vm0 T locs P => by
  have P' := P
  obtain ⟨X, e1, hS, hZ, ho, N, O, C, B, hE⟩ := P'
  obtain ⟨cq, kq, qa, qb, qc⟩ := isOf (s := s.setVm vm0) hZ e1 E
  exact k_back P (X.interfaceBackS hx ho (mv hZ w1) (mv hZ w2) (mv hZ w3 hfa) (mv hZ w4) (mv hZ w5) (mv hZ w6) (mv hZ w7) (mv hZ w8) hy (hK vm0 hZ hE O C B) qa qb qc hg hsize (Steps.refl _) hlen hstack hW hd fun _ _ => ⟨rfl, e1, hc, hs⟩) k
/-! String constants -/
theorem k_cpA (hx : p.tables.exec = Jvm.exec) {index : Nat} (w1 : (Jvm.Cond.methodLink own index Jvm.Stand.acN).before a0 Z = true) (w2 : (Jvm.Cond.native Jvm.Stand.acN).before a0 Z = true) (w3 : (Jvm.Cond.static Jvm.Stand.acN).before a0 Z = true) (w4 : (Jvm.Cond.initialized "java/lang/System").before a0 Z = true)
    {a b : Addr} {ka kb : ClassId} {ty ty' : FieldType} {z z' sp dp nn : Int32} {vs vd us : List Value} {dv dd : Value} (A : Arv Z h a ka ty z vs dv) (B : Arv Z h b kb ty' z' vd dd) (hty : (ty = ty' ∧ refKind ty = false) ∨ (refKind ty = true ∧ refKind ty' = true ∧ StoL Z h b us))
    (h1 : ¬ sp < 0) (h2 : ¬ dp < 0) (h3 : ¬ nn < 0) (h4 : sp.toNatClampNeg + nn.toNatClampNeg ≤ z.toNatClampNeg) (h5 : dp.toNatClampNeg + nn.toNatClampNeg ≤ z'.toNatClampNeg) (hus : us = (List.range nn.toNatClampNeg).map fun i => vs.getD (sp.toNatClampNeg + i) dv) (hvl : dp.toNatClampNeg + nn.toNatClampNeg ≤ vd.length) (ge : n0 ≤ b) (nb : ¬ bk b)
    (hg : g.method = m) (hsize : g.locals.size = c.maxLocals) {rest : List Value} (hs : g.stack = .int nn :: .int dp :: .ref b :: .int sp :: .ref a :: rest) (hd : decode c.code g.pc = .ok (.invokestatic index, 3)) (hf : 1 ≤ R.frames) {W : Nat} (hW : 2 * g.monitorRoom + (rest.map fun v => v.category).sum ≤ W) (hlo : W + (nativeFrameWords "java/lang/System" "arraycopy" 5 + 11) ≤ R.locals)
    (k : ∀ h', Old Z n0 h' → Keep h h' [b] → Arv Z h' b kb ty' z' (vd.take dp.toNatClampNeg ++ us ++ vd.drop (dp.toNatClampNeg + nn.toNatClampNeg)) dd → Run p l e R s m args below meth c Z EL own n0 bk h' cells slots { g with pc := g.pc + 3, stack := rest } Q) : Run p l e R s m args below meth c Z EL own n0 bk h cells slots g Q := fun vm0 T locs P => by
  obtain ⟨X, e1, ⟨k0, hS, hk, hN⟩, hZ, ho, N, O, C, Bb, hE⟩ := P
  obtain ⟨T', h', L, X', e2, N', K, V, st⟩ := cpA X hx hZ ho w1 w2 w3 w4 e1 A B hty h1 h2 h3 h4 h5 hus hvl N ge hg hsize hs hd hf hW hlo
  have r' := ne_of_keep K C (fun q => nb (Bb b q))
  obtain ⟨U, o, q1, r⟩ := k h' (O.keep K (allS ge all0)) K V vm0 T' L ⟨X', e2, ⟨k0, hS, Nat.le_trans hk K.1, hN⟩, hZ, ho, N', O.keep K (allS ge all0), r'.1, fun y q => Bb y (r'.2 y q), hE⟩
  exact ⟨U, o, st _ q1, r⟩
theorem k_clone (hx : p.tables.exec = Jvm.exec) {ad : String} {index : Nat} (w1 : (Jvm.Cond.methodLink own index ⟨ad, "clone", "()Ljava/lang/Object;"⟩).before a0 Z = true) (w2 : (Jvm.Cond.sameMethod ad "java/lang/Object" "clone" "()Ljava/lang/Object;").before a0 Z = true) (w3 : (Jvm.Cond.native ⟨"java/lang/Object", "clone", "()Ljava/lang/Object;"⟩).before a0 Z = true)
    (w4 : (Jvm.Cond.instanceMethod ⟨"java/lang/Object", "clone", "()Ljava/lang/Object;"⟩).before a0 Z = true) (w5 : (Jvm.Cond.selects ad ⟨ad, "clone", "()Ljava/lang/Object;"⟩ ⟨"java/lang/Object", "clone", "()Ljava/lang/Object;"⟩).before a0 Z = true) (w6 : (Jvm.Cond.castable ad "java/lang/Cloneable").before a0 Z = true)
    {a : Addr} {kA : ClassId} {ty : FieldType} {z : Int32} {vs : List Value} {dv : Value} (F : Arv Z h a kA ty z vs dv) (E : Exa Z h a ad) (hg : g.method = m) (hsize : g.locals.size = c.maxLocals) {rest : List Value} (hst : g.stack = .ref a :: rest) (hd : decode c.code g.pc = .ok (.invokevirtual index, 3)) (hf : 1 ≤ R.frames) {W cap : Nat} (hW : 2 * g.monitorRoom + (rest.map fun v => v.category).sum ≤ W) (hl : W + 14 ≤ R.locals) (hcap : z.toNatClampNeg ≤ cap) (hc : cells + 1 ≤ R.cells) (hsl : slots + cap ≤ R.slots)
    (k : ∀ h' a, a = h.size → Old Z n0 h' → Ext h h' → Arv Z h' a kA ty z vs dv → Exa Z h' a ad → Run p l e R s m args below meth c Z EL own n0 bk h' (cells + 1) (slots + cap) { g with pc := g.pc + 3, stack := .ref a :: rest } Q) : Run p l e R s m args below meth c Z EL own n0 bk h cells slots g Q :=
  k_grow (F := fun h' g' => g' = { g with pc := g.pc + 3, stack := .ref h.size :: rest } ∧ Arv Z h' h.size kA ty z vs dv ∧ Exa Z h' h.size ad)
    (fun s' T locs X e1 hZ ho => by
      obtain ⟨T', h', X', e2, E', A, D, st⟩ := cloneH X hx hZ ho w1 w2 w3 w4 w5 w6 e1 (Arv.arh F) E hg hsize hst hd hf hW hl hcap hc hsl
      exact ⟨T', h', _, X', e2, E', ⟨rfl, A, D⟩, st⟩)
    (fun h' g' O E ⟨q, A, D⟩ => by subst q; exact k h' _ rfl O E A D)
end Kit

theorem s_irem {tb : Tables} [Ours tb] {e : Env} {below : List Frame} {T target : State} {m : MethodId} {c : Code} {g : JFrame} (h : At T m c below) (hx : tb.exec = Jvm.exec) (hg : g.method = m) {x y : Int32} {rest : List Value} (hd : decode c.code g.pc = .ok (.irem, 1)) (hs : g.stack = .int y :: .int x :: rest) (hy : y ≠ 0)
    (hr : Steps tb e below (T.setTop { g with pc := g.pc + 1, stack := .int (x % y) :: rest }) target) : Steps tb e below (T.setTop g) target := by
  have q : x - x / y * y = x % y := irem_eq_mod x y
  exact XS.irem h hx hg hd hs hy (by rw [q]; exact hr)
theorem kk0 {ws : List Addr} {n : Nat} : ∀ x ∈ ([] : List Addr), x ∈ ws ∨ n ≤ x := fun _ q => nomatch q
theorem kkS {ws L : List Addr} {n : Nat} {y : Addr} (q : y ∈ ws ∨ n ≤ y) (r : ∀ x ∈ L, x ∈ ws ∨ n ≤ x) : ∀ x ∈ y :: L, x ∈ ws ∨ n ≤ x := fun x z => (List.mem_cons.mp z).elim (fun u => u ▸ q) (r x)
theorem no_asg {Z : State} {a0 : Array Value} {C O K : String} {n : Nat} (w : (Jvm.Cond.superclass C O).before a0 Z = true) (wo : (Jvm.Cond.noSuperclass O).before a0 Z = true) (wk : (Jvm.Cond.instantiable K n).before a0 Z = true) (h1 : C ≠ K) (h2 : O ≠ K) : ∃ c t, Z.vm.findClass C = some c ∧ Z.vm.findClass K = some t ∧ Z.vm.assignable c t = false := by
  obtain ⟨c, hc⟩ := found_sup w
  obtain ⟨cO, k, kO, q1, q2, q3, q4, q5, -⟩ := Jvm.Cond.superclass_spec hc w
  obtain ⟨cO', kO', r1, r2, r3, -⟩ := Jvm.Cond.noSuperclass_spec wo
  cases q1.symm.trans r1
  obtain ⟨t, kt, t1, t2, t3, t4, -⟩ := Jvm.Cond.instantiable_spec wk
  have n1 := ids_ne hc t1 h1
  have n2 := ids_ne q1 t1 h2
  have sub2 : ∀ f, Z.vm.isSubclassAux f cO t = false := fun f => by cases f <;> simp [Vm.isSubclassAux, n2, r2, r3]
  have sub1 : ∀ f, Z.vm.isSubclassAux f c t = false := fun f => by cases f <;> simp [Vm.isSubclassAux, n1, q2, q4, sub2]
  have ti : kt.isInterface = false := by simp only [Bool.or_eq_false_iff] at t4; exact t4.1
  refine ⟨c, t, hc, t1, ?_⟩
  show Z.vm.assignableAux (255 + 1) c t = false
  simp [Vm.assignableAux, n1, q2, t2, q5, t3, ti, Vm.isSubclass, sub1]
/-! from the words of a start to facts on its heap -/
theorem ev_int {args : Array Value} {s : State} {t : Term} {k : Int32} (h : (Jvm.Cond.eq t (.int k)).before args s = true) : t.eval args s none [] s = some (.int k) := by
  obtain ⟨x, y, e1, e2, k1, -⟩ := cmp_v (Or.inl (Cond.before_iff.mp h))
  rw [Term.int_eval] at e2
  cases e2
  cases x with
  | int z => have := gotT (Cond.eq_ints e1 (Term.int_eval k)) (Cond.before_iff.mp h); rw [e1, this]
  | _ => exact absurd k1 (by simp [Kin, Value.isRef])
theorem ev_long {args : Array Value} {s : State} {t : Term} {k : Int64} (h : (Jvm.Cond.eq t (.long k)).before args s = true) : t.eval args s none [] s = some (.long k) := by
  obtain ⟨x, y, e1, e2, k1, -⟩ := cmp_v (Or.inl (Cond.before_iff.mp h))
  rw [long_at] at e2
  cases e2
  cases x with
  | long z => have := gotT (eq_L e1 (long_at k)) (Cond.before_iff.mp h); rw [e1, this]
  | _ => exact absurd k1 (by simp [Kin, Value.isRef])
theorem exa_start {args : Array Value} {s : State} {t : Term} {C : String} (h : (Jvm.Cond.exactly t C).before args s = true) : ∃ a, t.eval args s none [] s = some (.ref a) ∧ Exa s s.heap a C := by
  obtain ⟨a, e⟩ := exa_v (Cond.before_iff.mp h)
  exact ⟨a, e, Exa.start e (Cond.before_iff.mp h)⟩
theorem fld_start {args : Array Value} {s : State} {t : Term} {a : Addr} {C n d : String} {v : Value} (ht : t.eval args s none [] s = some (.ref a)) (hv : (Term.field t C n d).eval args s none [] s = some v) : Fld s s.heap a C n d v := Fld.start (by rw [← fld_at ht]; exact hv)
theorem s_pop2L {tb : Tables} [Ours tb] {e : Env} {below : List Frame} {T target : State} {m : MethodId} {c : Code} {g : JFrame} (h : At T m c below) (hx : tb.exec = Jvm.exec) (hg : g.method = m) {x : Int64} {rest : List Value} (hd : decode c.code g.pc = .ok (.pop2, 1)) (hs : g.stack = .long x :: rest)
    (hr : Steps tb e below (T.setTop { g with pc := g.pc + 1, stack := rest }) target) : Steps tb e below (T.setTop g) target := by
  subst hg
  jvm_step h [h.top, hx, hd, hs, pop2.wp_sem, Value.category]
  exact hr
theorem ne_ad {a b : Addr} (h : @Ne Nat a b) : a ≠ b := h

/-! naturals as ints -/
theorem lt_nat {i n : Nat} (h : i < n) (hn : n ≤ 4000) : Int32.ofNat i < Int32.ofNat n := by
  rw [Int32.lt_iff_toInt_lt, toInt_of rfl (by omega), toInt_of rfl (by omega)]; omega
theorem not_lt_nat {i n : Nat} (h : n ≤ i) (hn : i ≤ 4000) : ¬ Int32.ofNat i < Int32.ofNat n := by
  rw [Int32.lt_iff_toInt_lt, toInt_of rfl (by omega), toInt_of rfl (by omega)]; omega
theorem idx_ok {i n : Nat} (h : i < n) (hn : n ≤ 4000) : ¬ Int32.ofNat i < 0 ∧ Int32.ofNat i < Int32.ofNat n := ⟨not_lt_nat (n := 0) (Nat.zero_le _) (by omega), lt_nat h hn⟩
theorem clampN {i : Nat} (h : i ≤ 4000) : (Int32.ofNat i).toNatClampNeg = i := clamp_of rfl (by omega)
theorem getD_mem (cs : List Int32) (i : Nat) (h : i < cs.length) : cs.getD i 0 ∈ cs := by
  rw [List.getD_eq_getElem?_getD, List.getElem?_eq_getElem h]; exact List.getElem_mem h
theorem getD_int (bs : List Int32) {i : Nat} (h : i ≤ 4000) : (bs.map Value.int).getD (Int32.ofNat i).toNatClampNeg (.int 0) = .int (bs.getD i 0) := by
  rw [clampN h, List.getD_eq_getElem?_getD, List.getD_eq_getElem?_getD, List.getElem?_map]
  cases bs[i]? <;> rfl
theorem take_succ_eq {as bs : List Int32} {i : Nat} (h : as.take i = bs.take i) (ha : i < as.length) (hb : i < bs.length) (e : as.getD i 0 = bs.getD i 0) : as.take (i + 1) = bs.take (i + 1) := by
  rw [List.take_add_one, List.take_add_one, h, List.getElem?_eq_getElem ha, List.getElem?_eq_getElem hb]
  rw [List.getD_eq_getElem?_getD, List.getD_eq_getElem?_getD, List.getElem?_eq_getElem ha, List.getElem?_eq_getElem hb, Option.getD_some, Option.getD_some] at e
  rw [e]
theorem take_ne {as bs : List Int32} {i : Nat} (hi : i < bs.length) (e : ¬ as.getD i 0 = bs.getD i 0) : ¬ as.take bs.length = bs := fun q => e (by
  rw [List.getD_eq_getElem?_getD, List.getD_eq_getElem?_getD]
  have r := congrArg (fun l => l[i]?) q
  simp only [List.getElem?_take, if_pos hi] at r
  rw [r])
/-! words on arrays of the start -/
theorem fit_of {s : State} (hF : (s.heap.all fun c => (List.range c.slots.size).all fun i => match c.slots[i]? with | some v => s.fitsSlot c.cls c.vm i v | none => true) = true) : Fit s := by
  intro x c hc i hi
  obtain ⟨ha, rfl⟩ := Array.getElem?_eq_some_iff.mp hc
  have q := List.all_eq_true.mp ((Array.all_eq_true_iff_forall_mem.mp hF) _ (Array.getElem_mem ha)) i (List.mem_range.mpr hi)
  simpa [Array.getElem?_eq_getElem hi] using q
theorem ev_ref {args : Array Value} {s : State} {t u : Term} {a : Addr} (h : (Jvm.Cond.eq t u).value args s none s [] = some true) (hu : u.eval args s none [] s = some (.ref a)) : t.eval args s none [] s = some (.ref a) := by
  obtain ⟨x, y, e1, e2, k1, k2⟩ := cmp_v (Or.inl h)
  cases hu.symm.trans e2
  have hx : x.isRef = true := by cases x <;> simp_all [Kin, Value.isRef]
  have := gotT (eq_R e1 hu hx rfl) h
  rw [e1, this]
theorem arv_start {args : Array Value} {s : State} {t : Term} {a : Addr} {ty : FieldType} {z : Int32} {vs : List Value} {dv : Value} (hf : Fit s) (ht : t.eval args s none [] s = some (.ref a)) (hx : (Jvm.Cond.arrayOf t ty).value args s none s [] = some true) (hl : (Term.length t).eval args s none [] s = some (.int z)) (hz : ¬ z < 0) (hn : z.toNatClampNeg = vs.length) (H : ∀ cl : Cell, s.heap[a]? = some cl → HasL cl 0 vs) : ∃ k, Arv s s.heap a k ty z vs dv := by
  obtain ⟨cl, A⟩ := Arr.start ht hx
  obtain ⟨b, cell, e1, e2, e3, e4⟩ := Jvm.Lib.length_spec hl
  have eb : a = b := Value.ref.inj (Option.some.inj (ht.symm.trans e1))
  have ec : cell = cl := Option.some.inj (e2.symm.trans (eb ▸ Arr.fin (Vm.Alike.refl _) A))
  have ez : z = cell.slots.size.toInt32 := Value.int.inj e4
  rw [ec] at ez e3
  exact ⟨_, Arv.start hf A e3 ez.symm hz hn (H _ A.1)⟩

/-- a local that holds nothing yet, or an int -/
def SlI (s : Slot) : Prop := s = .unset ∨ ∃ u : Int32, s = .val (.int u)

def EL1 : List (String × Nat) := []
def NoB : Addr → Prop := fun _ => False
def Ctx (Z : State) (a0 : Array Value) (G1 : Int32) (G3 : Value) : Prop := (∀ d ∈ tables_1, d.before a0 Z = true) ∧ EW Z a0 EL1 ∧ Sta Z Z.heap "java/lang/String" "COMPACT_STRINGS" "Z" (.int G1) ∧ ¬ (G1 = (0 : Int32)) ∧ Sta Z Z.heap "jdk/internal/util/Preconditions" "SIOOBE_FORMATTER" "Ljava/util/function/BiFunction;" G3 ∧ G3.isRef = true
section StrKit
def StrL (Z : State) (h : Heap) (a t : Addr) (kb : ClassId) (cs : List Int32) : Prop := Exa Z h a "java/lang/String" ∧ Fld Z h a "java/lang/String" "coder" "B" (.int 0) ∧ Fld Z h a "java/lang/String" "value" "[B" (.ref t) ∧ Arv Z h t kb .byte (Int32.ofNat cs.length) ((cs.map (fun c => c.toInt8.toInt32)).map Value.int) (.int 0) ∧ (∀ c ∈ cs, ¬ c < 0 ∧ ¬ (255 : Int32) < c) ∧ cs.length ≤ 4000
variable {Z : State} {h h' : Heap} {a t b : Addr} {kb : ClassId} {cs ds : List Int32} {ws : List Addr} {sl : Nat} {v : Value}
theorem StrL.ext (S : StrL Z h a t kb cs) (E : Ext h h') : StrL Z h' a t kb cs := ⟨S.1.ext E, S.2.1.ext E, S.2.2.1.ext E, S.2.2.2.1.ext E, S.2.2.2.2⟩
theorem StrL.other (S : StrL Z h a t kb cs) (W : Wr h h' b sl v) (q1 : a ≠ b) (q2 : t ≠ b) : StrL Z h' a t kb cs := ⟨S.1.wr W, S.2.1.other W (Or.inl q1), S.2.2.1.other W (Or.inl q1), S.2.2.2.1.other W q2, S.2.2.2.2⟩
theorem StrL.keep (S : StrL Z h a t kb cs) (K : Keep h h' ws) (q1 : a ∉ ws) (q2 : t ∉ ws) : StrL Z h' a t kb cs := ⟨S.1.keep K, S.2.1.keep K q1, S.2.2.1.keep K q1, S.2.2.2.1.keep K q2, S.2.2.2.2⟩
theorem StrL.lt1 (S : StrL Z h a t kb cs) : a < h.size := S.1.lt
theorem StrL.lt2 (S : StrL Z h a t kb cs) : t < h.size := S.2.2.2.1.lt
theorem up_ch {cs : List Int32} (h : ∀ c ∈ cs, ¬ c < 0 ∧ ¬ (255 : Int32) < c) : ∀ c ∈ cs, ¬ c < 0 ∧ ¬ (65535 : Int32) < c := fun c hc => ⟨(h c hc).1, fun q => (h c hc).2 (by rw [Int32.lt_iff_toInt_lt] at q ⊢; have e1 : (65535 : Int32).toInt = 65535 := rfl; have e2 : (255 : Int32).toInt = 255 := rfl; omega)⟩
variable {p : Program} {l : Launch} {e : Env} {R : Room} {s : State} {args : Array Value} {below : List Frame} {n0 W : Nat} {bk : Addr → Prop} {a0 : Array Value}
theorem Pays.mono {EL : List (String × Nat)} {y : MethodName} {len kc ks : Nat} {as' : Array Value} {Q Q' : Option Value → Heap → (Addr → Prop) → Prop} (hP : Pays l R p e below s args Z EL n0 bk h y len W kc ks as' Q) (hq : ∀ v h' bk', Q v h' bk' → Q' v h' bk') : Pays l R p e below s args Z EL n0 bk h y len W kc ks as' Q' := fun vm0 hZ hE hO hC hB m meth c A g ig mk a X hg hsize hdg hW hn hp => by
  obtain ⟨v, B, X', r1, r2, ⟨L, bk', q1, q2⟩, st⟩ := hP vm0 hZ hE hO hC hB m meth c A g ig mk a X hg hsize hdg hW hn hp
  exact ⟨v, B, X', r1, r2, ⟨L, bk', hq _ _ _ q1, q2⟩, st⟩
end StrKit

section HKit
variable {p : Program} {l : Launch} {e : Env} {R : Room} {s : State} {m : MethodId} {args : Array Value} {below : List Frame} {meth : Method} {c : Code} {Z : State} {EL : List (String × Nat)} {own : String} {n0 : Nat} {bk : Addr → Prop} {h : Heap} {cells slots : Nat} {g g' : JFrame} {a0 : Array Value} {Q : Option Value → Heap → (Addr → Prop) → Prop}
/-- a contract of a body with an exception table, whose walk throws nothing -/
def MetH (l : Launch) (Z : State) (EL : List (String × Nat)) (n0 : Nat) (bk : Addr → Prop) (y : MethodName) (bytes : ByteArray) (maxL : Nat) (ret : Option FieldType) (hs : List (Nat × Nat × Nat × Nat)) (rm : Room) (as' : Array Value) (h : Heap) (Q : Option Value → Heap → (Addr → Prop) → Prop) (ws : List Jvm.Cond) : Prop :=
  MetFree l y (head1 (Jvm.Cond.codeWith y bytes maxL ret hs :: ws) rm) (fun a U => a = as' ∧ Z.Warmed39 U.vm ∧ U.heap = h ∧ CHv Z EL U.vm h ∧ ∀ x, Bk Z EL U.vm h x → bk x) (fun _ _ _ _ _ => True) (fun _ U o U' => EndW U rm Z EL n0 Q o U')
theorem MetH.of {y : MethodName} {bytes : ByteArray} {maxL : Nat} {ret : Option FieldType} {hs : List (Nat × Nat × Nat × Nat)} {rm : Room} {as' : Array Value} {ws : List Jvm.Cond} (hp : plainFor y = true) (hO : Old Z n0 h) (hE : EW Z a0 EL)
    (H : ∀ p e s m below meth c, p.tables.exec = Jvm.exec → c.code = bytes → c.maxLocals = maxL → meth.sig.returnType = ret → meth.locks = false → meth.name = y.name → Run p l e rm s m as' below meth c Z EL y.cls n0 bk h 0 0 (entryFrame m as' maxL) Q) : MetH l Z EL n0 bk y bytes maxL ret hs rm as' h Q ws := by
  refine MetFree.of_bodySF hp hisWith ?_
  intro p e s m args below meth c s₁ Bd hml hP hK
  obtain ⟨rfl, hZ, hh, hC, hB⟩ := hP
  have e0 : s₁.heap = h := by rw [← hh, Bd.state]; rfl
  exact H p e s m below meth c Bd.exec Bd.bytes hml Bd.returns Bd.notSynchronized (name_of_methodNamed Bd.named Bd.method).1 s.vm s₁ [] ⟨Stand.of_body Bd, e0, ⟨0, (State.WarmedH.refl s).since _, Nat.zero_le _, State.WarmedH.refl s⟩, hZ, findClass_of_methodNamed Bd.named, Fr.nil _, hO, hC, hB, _, hE⟩
theorem Pays.of_metH {y : MethodName} {bytes : ByteArray} {maxL : Nat} {ret : Option FieldType} {hs : List (Nat × Nat × Nat × Nat)} {rm : Room} {len W : Nat} {as' : Array Value} {Qc : Option Value → Heap → (Addr → Prop) → Prop} (hM : MetH l Z EL n0 bk y bytes maxL ret hs rm as' h Qc [])
    (wc : (Jvm.Cond.codeWith y bytes maxL ret hs).before a0 Z = true) (wz : (Jvm.Cond.initialized y.cls).before a0 Z = true) (hf : rm.frames + 1 ≤ R.frames) (hl : W + (maxL + 11) + rm.locals ≤ R.locals) (hq : ∀ v h' bk', Qc v h' bk' → h.size ≤ h'.size) :
    Pays l R p e below s args Z EL n0 bk h y len W rm.cells rm.slots as' Qc := fun vm0 hZ ⟨a1, hEL⟩ hO H hB => by
  have K : Back l R p e below (s.setVm vm0) args y len W (fun A a => a = as' ∧ A.U.heap = h ∧ A.cells + rm.cells ≤ R.cells ∧ A.slots + rm.slots ≤ R.slots)
      (fun A _ v B => ∃ L bk', Qc v B.U.heap bk' ∧ Fr n0 L ∧ Old Z n0 B.U.heap ∧ CHv Z EL B.U.vm B.U.heap ∧ (∀ y, Bk Z EL B.U.vm B.U.heap y → bk' y) ∧ B.locs = A.locs ++ L ∧ B.cells = A.cells + rm.cells ∧ B.slots = A.slots + rm.slots ∧ (s.setVm vm0).WarmedH B.U.vm) :=
    Back.of_freeWith (bytes := bytes) (maxL := maxL) (ret := ret) (handlers := hs) (E := fun _ first o t L k n => k = rm.cells ∧ n = rm.slots ∧ first.WarmedH t.vm ∧ ∃ v bk', o = .returned v ∧ Qc v t.heap bk' ∧ Fr n0 L ∧ Old Z n0 t.heap ∧ CHv Z EL t.vm t.heap ∧ ∀ y, Bk Z EL t.vm t.heap y → bk' y) hM hf hl
      (fun m meth c A a Y hp => have hU : Z.Warmed39 A.U.vm := wtrans (s := s.setVm vm0) hZ Y.warmed
        ⟨by show (Jvm.Cond.and _ .tt).before a A.U = true; rw [Jvm.Cond.before_and, mv hU wc]; rfl, mv hU wc, mv hU wz, hp.2.2.1, hp.2.2.2⟩)
      (fun m meth c A a g mk Y hp => have r := at_bk Y hZ hEL H hB; ⟨hp.1, wtrans (s := s.setVm vm0) hZ Y.warmed, hp.2.1, r.1, r.2⟩) (fun _ _ _ _ _ _ _ _ _ => trivial)
      (fun _ _ _ _ ⟨v, L, bk', h1, h2, h3⟩ => ⟨L, _, _, ⟨⟨v, h1⟩, h3.2, h3.1.2.2.2⟩, rfl, rfl, h3.2, v, bk', h1, h2⟩)
      (fun m meth c A a g mk v t L k n Y hp _ _ ⟨e1, e2, hw, v', bk', e3, r1, r2, r3, r4, r5⟩ => by
        cases e3; subst e1 e2
        exact ⟨L, bk', r1, r2, r3, r4, r5, rfl, rfl, rfl, State.WarmedH.trans (t := A.U) Y.warmed hw⟩)
  intro m meth c A g ig mk a X hg hsize hdg hW hn hp
  obtain ⟨v, B, X', q, hsteps⟩ := K m meth c A g ig mk a X hg hsize hdg hW hn hp
  have q' := q
  obtain ⟨L, bk', q1, -⟩ := q'
  exact ⟨v, B, X'.retabled X'.warmed.wide, X'.warmed.since _, by rw [hp.2.1]; exact hq _ _ _ q1, q, hsteps⟩
theorem decl_ofH {y : MethodName} {bytes : ByteArray} {maxL : Nat} {ret : Option FieldType} {hs : List (Nat × Nat × Nat × Nat)} (w2 : (Jvm.Cond.instanceMethod y).before a0 Z = true) (w4 : (Jvm.Cond.codeWith y bytes maxL ret hs).before a0 Z = true) : (Jvm.Cond.declares y).before a0 Z = true := by
  obtain ⟨mk, methM, hnamed, hmethM, hst, -⟩ := Jvm.Cond.instanceMethod_spec w2
  obtain ⟨m2, meth2, cM, q0, q1, -, -, -, -, -, -, hsig⟩ := Jvm.Cond.codeWith_spec w4
  cases hnamed.symm.trans q0
  cases hmethM.symm.trans q1
  simp [Jvm.Cond.before, Jvm.Cond.holds, Jvm.Cond.value, hnamed, hmethM, hst, hsig]
end HKit

section ULem
/-! chars and bytes -/
theorem u_toI {n : Nat} (h : n ≤ 100000) : (Int32.ofNat n).toInt = n := toInt_of rfl (by omega)
theorem u_shl1 {i : Nat} (h : i ≤ 2000) : (Int32.ofNat i) <<< ((1 : Int32) &&& 31) = Int32.ofNat (2 * i) := by
  apply Int32.toInt_inj.mp
  have r : (((Int32.ofNat i) <<< ((1 : Int32) &&& 31)).toInt - (Int32.ofNat i).toInt * 2) % 4294967296 = 0 := c_ishl (Int32.ofNat i) 1 1 (by decide)
  have q := rng32 ((Int32.ofNat i) <<< ((1 : Int32) &&& 31))
  rw [u_toI (by omega)] at r ⊢
  omega
theorem u_shr1 {n : Nat} (h : n ≤ 2000) : (Int32.ofNat (2 * n)) >>> ((1 : Int32) &&& 31) = Int32.ofNat n := by
  apply Int32.toInt_inj.mp
  have r : ((Int32.ofNat (2 * n)) >>> ((1 : Int32) &&& 31)).toInt = (Int32.ofNat (2 * n)).toInt / 2 := c_ishr (Int32.ofNat (2 * n)) 1 1 (by decide)
  rw [r, u_toI (by omega), u_toI (by omega)]
  omega
theorem u_shr0 (d : Int32) : d >>> ((0 : Int32) &&& 31) = d := by rw [show ((0 : Int32) &&& 31) = 0 from rfl]; simp
theorem u_narb (x : Int32) : nar .byte (x.toInt8.toInt32) = x.toInt8.toInt32 := by
  apply Int32.toInt_inj.mp
  have r : ((nar .byte (x.toInt8.toInt32)).toInt - (x.toInt8.toInt32).toInt) % 256 = 0 ∧ -128 ≤ (nar .byte (x.toInt8.toInt32)).toInt ∧ (nar .byte (x.toInt8.toInt32)).toInt < 128 := c_i2b (x.toInt8.toInt32)
  have q := c_i2b x
  omega
theorem u_pair {c : Int32} (h0 : ¬ c < 0) (h1 : ¬ (65535 : Int32) < c) : nar .char ((((c.toInt8.toInt32) &&& (255 : Int32)) <<< ((0 : Int32) &&& 31)) ||| ((((c >>> ((8 : Int32) &&& 31)).toInt8.toInt32) &&& (255 : Int32)) <<< ((8 : Int32) &&& 31))).toUInt32.toUInt16.toUInt32.toInt32 = c := by
  rw [Int32.lt_iff_toInt_lt] at h0 h1
  have e0 : (0 : Int32).toInt = 0 := rfl
  have e1 : (65535 : Int32).toInt = 65535 := rfl
  have a1 := c_i2b c
  have a2 : ((c.toInt8.toInt32) &&& (255 : Int32)).toInt = (c.toInt8.toInt32).toInt % 256 := c_mask _ 255 8 (by decide) (by decide)
  have b0 : (c >>> ((8 : Int32) &&& 31)).toInt = c.toInt / 256 := c_ishr c 8 8 (by decide)
  have b1 := c_i2b (c >>> ((8 : Int32) &&& 31))
  have b2 : (((c >>> ((8 : Int32) &&& 31)).toInt8.toInt32) &&& (255 : Int32)).toInt = ((c >>> ((8 : Int32) &&& 31)).toInt8.toInt32).toInt % 256 := c_mask _ 255 8 (by decide) (by decide)
  have a3 : ((((c.toInt8.toInt32) &&& (255 : Int32)) <<< ((0 : Int32) &&& 31)).toInt - ((c.toInt8.toInt32) &&& (255 : Int32)).toInt * 1) % 4294967296 = 0 := c_ishl _ 0 0 (by decide)
  have b3 : (((((c >>> ((8 : Int32) &&& 31)).toInt8.toInt32) &&& (255 : Int32)) <<< ((8 : Int32) &&& 31)).toInt - (((c >>> ((8 : Int32) &&& 31)).toInt8.toInt32) &&& (255 : Int32)).toInt * 256) % 4294967296 = 0 := c_ishl _ 8 8 (by decide)
  generalize ((c.toInt8.toInt32) &&& (255 : Int32)) <<< ((0 : Int32) &&& 31) = x at a3 ⊢
  generalize (((c >>> ((8 : Int32) &&& 31)).toInt8.toInt32) &&& (255 : Int32)) <<< ((8 : Int32) &&& 31) = y at b3 ⊢
  have rx := rng32 x
  have ry := rng32 y
  have o := c_or' x y 8 (by decide) 256 (by decide) (by omega) (by omega) (by omega)
  have ro := rng32 (x ||| y)
  have k1 := c_i2c (x ||| y)
  have k2 : ((nar .char (x ||| y).toUInt32.toUInt16.toUInt32.toInt32).toInt - ((x ||| y).toUInt32.toUInt16.toUInt32.toInt32).toInt) % 65536 = 0 ∧ 0 ≤ (nar .char (x ||| y).toUInt32.toUInt16.toUInt32.toInt32).toInt ∧ (nar .char (x ||| y).toUInt32.toUInt16.toUInt32.toInt32).toInt < 65536 := c_i2c _
  apply Int32.toInt_inj.mp
  omega
theorem u_nrc {c : Int32} (h0 : ¬ c < 0) (h1 : ¬ (65535 : Int32) < c) : nar .char c = c := by
  rw [Int32.lt_iff_toInt_lt] at h0 h1
  have e0 : (0 : Int32).toInt = 0 := rfl
  have e1 : (65535 : Int32).toInt = 65535 := rfl
  have q : ((nar .char c).toInt - c.toInt) % 65536 = 0 ∧ 0 ≤ (nar .char c).toInt ∧ (nar .char c).toInt < 65536 := c_i2c c
  apply Int32.toInt_inj.mp
  omega
theorem u_ne0 {n : Nat} (h : 0 < n) (h2 : n ≤ 4000) : ¬ Int32.ofNat n = (0 : Int32) := fun q => by
  have := congrArg Int32.toInt q
  rw [u_toI (by omega)] at this
  have e0 : (0 : Int32).toInt = 0 := rfl
  omega
theorem u_ne {a b : Nat} (h : a < b) (hb : b ≤ 4000) : ¬ Int32.ofNat a = Int32.ofNat b := fun q => by
  have := congrArg Int32.toInt q
  rw [u_toI (by omega), u_toI (by omega)] at this
  omega
end ULem
theorem isref {g : Value} (h : g.isRef = true) : g = .null ∨ ∃ a, g = .ref a := by cases g <;> simp_all [Value.isRef]


theorem lat_ch {c : Int32} (g : ¬ c < 0 ∧ ¬ (255 : Int32) < c) : nar .char ((c.toInt8.toInt32) &&& (255 : Int32)).toUInt32.toUInt16.toUInt32.toInt32 = c := by
  rw [Int32.lt_iff_toInt_lt, Int32.lt_iff_toInt_lt] at g
  have e0 : (0 : Int32).toInt = 0 := rfl
  have e1 : (255 : Int32).toInt = 255 := rfl
  have a1 := c_i2b c
  have a2 : ((c.toInt8.toInt32) &&& (255 : Int32)).toInt = (c.toInt8.toInt32).toInt % 256 := c_mask _ 255 8 (by decide) (by decide)
  have k1 := c_i2c ((c.toInt8.toInt32) &&& (255 : Int32))
  have k2 : ((nar .char ((c.toInt8.toInt32) &&& (255 : Int32)).toUInt32.toUInt16.toUInt32.toInt32).toInt - (((c.toInt8.toInt32) &&& (255 : Int32)).toUInt32.toUInt16.toUInt32.toInt32).toInt) % 65536 = 0 ∧ 0 ≤ (nar .char ((c.toInt8.toInt32) &&& (255 : Int32)).toUInt32.toUInt16.toUInt32.toInt32).toInt ∧ (nar .char ((c.toInt8.toInt32) &&& (255 : Int32)).toUInt32.toUInt16.toUInt32.toInt32).toInt < 65536 := c_i2c _
  apply Int32.toInt_inj.mp
  omega
theorem lat_at {cs : List Int32} {j : Nat} (h : j ≤ 4000) : (((cs).map (fun c => c.toInt8.toInt32)).map Value.int).getD (Int32.ofNat j).toNatClampNeg (.int 0) = .int (((cs).getD j 0).toInt8.toInt32) := by
  rw [clampN h, List.getD_eq_getElem?_getD, List.getD_eq_getElem?_getD, List.getElem?_map, List.getElem?_map]
  cases cs[j]? <;> rfl
def T64 : List Int32 := [65, 66, 67, 68, 69, 70, 71, 72, 73, 74, 75, 76, 77, 78, 79, 80, 81, 82, 83, 84, 85, 86, 87, 88, 89, 90, 97, 98, 99, 100, 101, 102, 103, 104, 105, 106, 107, 108, 109, 110, 111, 112, 113, 114, 115, 116, 117, 118, 119, 120, 121, 122, 48, 49, 50, 51, 52, 53, 54, 55, 56, 57, 45, 95]

def en (i : Int32) : Int32 := T64.getD i.toNatClampNeg 0
theorem en_at {i k : Int32} (e : i = k) : (T64.map Value.int).getD i.toNatClampNeg (.int (0 : Int32)) = .int (en k) := by
  subst e
  unfold en
  rw [List.getD_eq_getElem?_getD, List.getD_eq_getElem?_getD, List.getElem?_map]
  cases T64[i.toNatClampNeg]? <;> rfl
theorem en_mem (i : Int32) : en i ∈ (0 : Int32) :: T64 := by
  unfold en
  rw [List.getD_eq_getElem?_getD]
  cases h : T64[i.toNatClampNeg]? with
  | none => exact List.mem_cons_self ..
  | some x => exact List.mem_cons_of_mem _ (List.mem_of_getElem? h)
theorem en_b (i : Int32) : ¬ en i < 0 ∧ ¬ (255 : Int32) < en i := (by decide +kernel : ∀ x ∈ (0 : Int32) :: T64, ¬ x < 0 ∧ ¬ (255 : Int32) < x) _ (en_mem i)
theorem eb0 : ∀ c ∈ ([] : List Int32), ¬ c < 0 ∧ ¬ (255 : Int32) < c := fun _ q => nomatch q
theorem ebS {i : Int32} {L : List Int32} (r : ∀ c ∈ L, ¬ c < 0 ∧ ¬ (255 : Int32) < c) : ∀ c ∈ en i :: L, ¬ c < 0 ∧ ¬ (255 : Int32) < c := fun c hc => (List.mem_cons.mp hc).elim (fun z => z ▸ en_b i) (r c)
theorem en_all : ∀ k, k < 64 → (k < 26 ∧ (en (Int32.ofNat k)).toInt = 65 + k) ∨ (26 ≤ k ∧ k < 52 ∧ (en (Int32.ofNat k)).toInt = 71 + k) ∨ (52 ≤ k ∧ k < 62 ∧ (en (Int32.ofNat k)).toInt = (k : Int) - 4) ∨ (k = 62 ∧ (en (Int32.ofNat k)).toInt = 45) ∨ (k = 63 ∧ (en (Int32.ofNat k)).toInt = 95) := by decide +kernel
theorem en_toInt {i : Int32} (h : 0 ≤ i.toInt ∧ i.toInt ≤ 63) : (i.toInt < 26 ∧ (en i).toInt = 65 + i.toInt) ∨ (26 ≤ i.toInt ∧ i.toInt < 52 ∧ (en i).toInt = 71 + i.toInt) ∨ (52 ≤ i.toInt ∧ i.toInt < 62 ∧ (en i).toInt = i.toInt - 4) ∨ (i.toInt = 62 ∧ (en i).toInt = 45) ∨ (i.toInt = 63 ∧ (en i).toInt = 95) := by
  have e : i = Int32.ofNat i.toInt.toNat := by
    apply Int32.toInt_inj.mp
    rw [u_toI (by omega)]
    omega
  have q := en_all i.toInt.toNat (by omega)
  rw [← e] at q
  omega
theorem m8 {z : Int32} (h : 0 ≤ z.toInt ∧ z.toInt ≤ 255) : (z.toInt8.toInt32) &&& (255 : Int32) = z := by
  have a1 := c_i2b z
  have a2 : ((z.toInt8.toInt32) &&& (255 : Int32)).toInt = (z.toInt8.toInt32).toInt % 256 := c_mask _ 255 8 (by decide) (by decide)
  apply Int32.toInt_inj.mp
  omega
theorem t1 {a : Int32} (h : 0 ≤ a.toInt ∧ a.toInt ≤ 255) : ((16 : Int32) ||| (a >>> ((4 : Int32) &&& 31))).toInt = 16 + a.toInt / 16 := by
  have q : (a >>> ((4 : Int32) &&& 31)).toInt = a.toInt / 16 := c_ishr a 4 4 (by decide)
  have e : (16 : Int32).toInt = 16 := rfl
  have r := c_or (16 : Int32) (a >>> ((4 : Int32) &&& 31)) 4 (by decide) 16 (by decide) (by decide) (by omega) (by omega)
  have z := rng32 ((16 : Int32) ||| (a >>> ((4 : Int32) &&& 31)))
  omega
theorem t2a {a : Int32} (h : 0 ≤ a.toInt ∧ a.toInt ≤ 255) : ((a &&& (15 : Int32)) <<< ((2 : Int32) &&& 31)).toInt = a.toInt % 16 * 4 := by
  have q : (a &&& (15 : Int32)).toInt = a.toInt % 16 := c_mask a 15 4 (by decide) (by decide)
  have r : (((a &&& (15 : Int32)) <<< ((2 : Int32) &&& 31)).toInt - (a &&& (15 : Int32)).toInt * 4) % 4294967296 = 0 := c_ishl _ 2 2 (by decide)
  have z := rng32 ((a &&& (15 : Int32)) <<< ((2 : Int32) &&& 31))
  omega
theorem t2 {a b : Int32} (h : 0 ≤ a.toInt ∧ a.toInt ≤ 255) (h2 : 0 ≤ b.toInt ∧ b.toInt ≤ 255) : (((a &&& (15 : Int32)) <<< ((2 : Int32) &&& 31)) ||| (b >>> ((6 : Int32) &&& 31))).toInt = a.toInt % 16 * 4 + b.toInt / 64 := by
  have q := t2a h
  have r : (b >>> ((6 : Int32) &&& 31)).toInt = b.toInt / 64 := c_ishr b 6 6 (by decide)
  generalize (a &&& (15 : Int32)) <<< ((2 : Int32) &&& 31) = x at q ⊢
  generalize b >>> ((6 : Int32) &&& 31) = y at r ⊢
  have o := c_or x y 2 (by decide) 4 (by decide) (by omega) (by omega) (by omega)
  have z := rng32 (x ||| y)
  omega
theorem t2z {a : Int32} (h : 0 ≤ a.toInt ∧ a.toInt ≤ 255) : (((a &&& (15 : Int32)) <<< ((2 : Int32) &&& 31)) ||| (0 : Int32)).toInt = a.toInt % 16 * 4 := by
  have q := t2a h
  have e : (0 : Int32).toInt = 0 := rfl
  generalize (a &&& (15 : Int32)) <<< ((2 : Int32) &&& 31) = x at q ⊢
  have o := c_or x (0 : Int32) 2 (by decide) 4 (by decide) (by omega) (by omega) (by omega)
  have z := rng32 (x ||| (0 : Int32))
  omega
theorem t5 {c : Int32} (h : 0 ≤ c.toInt ∧ c.toInt ≤ 255) : ((c &&& (3 : Int32)) <<< ((4 : Int32) &&& 31)).toInt = c.toInt % 4 * 16 := by
  have q : (c &&& (3 : Int32)).toInt = c.toInt % 4 := c_mask c 3 2 (by decide) (by decide)
  have r : (((c &&& (3 : Int32)) <<< ((4 : Int32) &&& 31)).toInt - (c &&& (3 : Int32)).toInt * 16) % 4294967296 = 0 := c_ishl _ 4 4 (by decide)
  have z := rng32 ((c &&& (3 : Int32)) <<< ((4 : Int32) &&& 31))
  omega
theorem t_bits {a b : Int32} (h : 0 ≤ a.toInt ∧ a.toInt ≤ 255) (h2 : 0 ≤ b.toInt ∧ b.toInt ≤ 255) : (((65536 : Int32) ||| (a <<< ((8 : Int32) &&& 31))) ||| b).toInt = 65536 + 256 * a.toInt + b.toInt := by
  have q : ((a <<< ((8 : Int32) &&& 31)).toInt - a.toInt * 256) % 4294967296 = 0 := c_ishl a 8 8 (by decide)
  have q2 := rng32 (a <<< ((8 : Int32) &&& 31))
  generalize a <<< ((8 : Int32) &&& 31) = x at q q2 ⊢
  have e : (65536 : Int32).toInt = 65536 := rfl
  have o := c_or (65536 : Int32) x 16 (by decide) 65536 (by decide) (by decide) (by omega) (by omega)
  have z := rng32 ((65536 : Int32) ||| x)
  generalize (65536 : Int32) ||| x = y at o z ⊢
  have o2 := c_or y b 8 (by decide) 256 (by decide) (by omega) (by omega) (by omega)
  have z2 := rng32 (y ||| b)
  omega
theorem el {cl : Cell} {i : Int32} {j : Nat} {v : Value} (h : cl.slots[i.toNatClampNeg]? = some v) (e : i.toNatClampNeg = j) : cl.slots[j]? = some v := e ▸ h
theorem ev_null {args : Array Value} {s : State} {t : Term} (h : (Jvm.Cond.eq t .null).value args s none s [] = some true) : t.eval args s none [] s = some .null := by
  obtain ⟨x, y, e1, e2, k1, k2⟩ := cmp_v (Or.inl h)
  have e3 : (Term.null).eval args s none [] s = some .null := rfl
  cases e3.symm.trans e2
  have hx : x.isRef = true := by cases x <;> simp_all [Kin, Value.isRef]
  have := gotT (eq_R e1 e3 hx rfl) h
  rw [e1, this]
def More (Z : State) (e0 tb : Addr) (kt : ClassId) : Prop := (Sta Z Z.heap "java/util/Base64$Encoder" "RFC4648_URLSAFE" "Ljava/util/Base64$Encoder;" (.ref e0)) ∧ (Exa Z Z.heap e0 "java/util/Base64$Encoder") ∧ (Fld Z Z.heap e0 "java/util/Base64$Encoder" "isURL" "Z" (.int (1 : Int32))) ∧ (Fld Z Z.heap e0 "java/util/Base64$Encoder" "newline" "[B" .null) ∧ (Fld Z Z.heap e0 "java/util/Base64$Encoder" "linemax" "I" (.int ((-1) : Int32))) ∧ (Fld Z Z.heap e0 "java/util/Base64$Encoder" "doPadding" "Z" (.int (1 : Int32))) ∧ (Sta Z Z.heap "java/util/Base64$Encoder" "toBase64URL" "[C" (.ref tb)) ∧ (Arv Z Z.heap tb kt .char (64 : Int32) (T64.map Value.int) (.int (0 : Int32)))
theorem four {n : Int32} (h1 : 0 ≤ n.toInt) (h2 : n.toInt ≤ 3) : n = 0 ∨ n = 1 ∨ n = 2 ∨ n = 3 := by
  rcases (by omega : n.toInt = 0 ∨ n.toInt = 1 ∨ n.toInt = 2 ∨ n.toInt = 3) with h | h | h | h
  · exact Or.inl (Int32.toInt_inj.mp h)
  · exact Or.inr (Or.inl (Int32.toInt_inj.mp h))
  · exact Or.inr (Or.inr (Or.inl (Int32.toInt_inj.mp h)))
  · exact Or.inr (Or.inr (Or.inr (Int32.toInt_inj.mp h)))

def Q_coder (Z : State) (G1 : Int32) (G3 : Value) (e0 tb : Addr) (kt : ClassId) (a : Addr) (t : Addr) (kb : ClassId) (cs : List Int32) (h0 : Heap) (n0 : Nat) (bk : Addr → Prop) (v : Option Value) (h : Heap) (bk' : Addr → Prop) : Prop := v = some (.int (0 : Int32)) ∧ h0 = h ∧ NoB = bk'
theorem d0 : decode jdk_42_method_152_code 0 = .ok (.getstatic 38, 3) := by decide +kernel
theorem d1 : decode jdk_42_method_152_code 3 = .ok (.ifCond .eq 10, 3) := by decide +kernel
theorem d2 : decode jdk_42_method_152_code 6 = .ok (.aload_n 0, 1) := by decide +kernel
theorem d3 : decode jdk_42_method_152_code 7 = .ok (.getfield 15, 3) := by decide +kernel
theorem d4 : decode jdk_42_method_152_code 10 = .ok (.goto 4, 3) := by decide +kernel
theorem d5 : decode jdk_42_method_152_code 14 = .ok (.ireturn, 1) := by decide +kernel
abbrev RM_coder : Room := { frames := 0, cells := 0, slots := 0, locals := 0 }
theorem ef_coder (m : MethodId) (x0 : Addr) : entryFrame m #[(.ref x0)] 1 = mkF m 0 #[.val (.ref x0)] [] := by first | (simp [entryFrame, mkF, argsToLocals, Value.category]; done) | rfl
set_option maxRecDepth 65536 in
set_option maxHeartbeats 40000000 in
theorem rm_coder (l : Launch) (Z : State) (a0 : Array Value) (G1 : Int32) (G3 : Value) (e0 tb : Addr) (kt : ClassId) (hX : Ctx Z a0 G1 G3) (hY : More Z e0 tb kt) (n0 : Nat) (h0 : Heap) (O0 : Old Z n0 h0) (a : Addr) (t : Addr) (kb : ClassId) (cs : List Int32) (pf_0 : StrL Z h0 a t kb cs) (ws : List Jvm.Cond) : Met l Z EL1 n0 NoB (⟨"java/lang/String", "coder", "()B"⟩ : MethodName) jdk_42_method_152_code 1 (Option.some FieldType.byte) RM_coder #[(.ref a)] h0 (Q_coder Z G1 G3 e0 tb kt a t kb cs h0 n0 NoB) ws := by
  have hX' := hX
  obtain ⟨hw, hE, S1, P1, S3, P3⟩ := hX'
  have hY' := hY
  obtain ⟨s_e, x_e, f_u, f_n, f_l, f_p, s_t, a_t⟩ := hY'
  have wT : ∀ (i : Nat) {d : Jvm.Cond}, tables_1[i]? = some d → d.before a0 Z = true := fun i d h => hw d (List.mem_of_getElem? h)
  have z0 : n0 ≤ h0.size := by rw [← O0.1]; exact O0.2.1
  refine Met.of (by decide +kernel) O0 hE ?_
  intro p e s m below meth c hx hby hml hret hlk hnm
  refine k_cast (ef_coder m a) ?_
  show Run p l e _ s m _ below meth c Z EL1 _ n0 NoB h0 0 0 (mkF m 0 #[.val (.ref a)] []) _
  have lt_1 : @LT.lt Nat _ a (Array.size h0) := pf_0.lt1
  have lt_2 : @LT.lt Nat _ t (Array.size h0) := pf_0.lt2
  refine k_getS hx (host := "") (Or.inl (wT 100 rfl)) Via.refl (S1.ext O0.2) rfl (hb hby d0) ?_
  refine k_pure (g' := (mkF m 7 #[.val (.ref a)] [(.ref a)])) (fun TT HH tt kk => XS.ifNo HH hx rfl (hb hby d1) rfl ((if0 _ _).trans (feq P1).1) (XS.aloadN HH hx rfl (hb hby d2) rfl rfl kk)) ?_
  refine k_getF hx (host := "") (Or.inl (wT 109 rfl)) Via.refl pf_0.2.1 rfl rfl (hb hby d3) ?_
  refine k_pure (g' := (mkF m 14 #[.val (.ref a)] [(.int (0 : Int32))])) (fun _ J _ j => XS.goto J hx rfl (pc0 := 10) (pc' := 14) rfl (hb hby d4) (by decide) (by decide) j) ?_
  exact k_retN hx hlk hret (by simp) (hb hby d5) (by decide) (by decide) ⟨rfl, rfl, rfl⟩
def Q_pci0 (Z : State) (G1 : Int32) (G3 : Value) (e0 tb : Addr) (kt : ClassId) (j : Nat) (nn : Nat) (h0 : Heap) (n0 : Nat) (bk : Addr → Prop) (v : Option Value) (h : Heap) (bk' : Addr → Prop) : Prop := v = some (.int (Int32.ofNat j)) ∧ h0 = h ∧ NoB = bk'
theorem d6 : decode jdk_41_method_11_code 0 = .ok (.iload_n 0, 1) := by decide +kernel
theorem d7 : decode jdk_41_method_11_code 1 = .ok (.ifCond .lt 8, 3) := by decide +kernel
theorem d8 : decode jdk_41_method_11_code 4 = .ok (.iload_n 0, 1) := by decide +kernel
theorem d9 : decode jdk_41_method_11_code 5 = .ok (.iload_n 1, 1) := by decide +kernel
theorem d10 : decode jdk_41_method_11_code 6 = .ok (.if_icmp .lt 10, 3) := by decide +kernel
theorem d11 : decode jdk_41_method_11_code 16 = .ok (.iload_n 0, 1) := by decide +kernel
theorem d12 : decode jdk_41_method_11_code 17 = .ok (.ireturn, 1) := by decide +kernel
abbrev RM_pci0 : Room := { frames := 0, cells := 0, slots := 0, locals := 0 }
theorem ef_pci0 (m : MethodId) (x0 : Int32) (x1 : Int32) : entryFrame m #[(.int x0), (.int x1), .null] 3 = mkF m 0 #[.val (.int x0), .val (.int x1), .val .null] [] := by first | (simp [entryFrame, mkF, argsToLocals, Value.category]; done) | rfl
set_option maxRecDepth 65536 in
set_option maxHeartbeats 40000000 in
theorem rm_pci0 (l : Launch) (Z : State) (a0 : Array Value) (G1 : Int32) (G3 : Value) (e0 tb : Addr) (kt : ClassId) (hX : Ctx Z a0 G1 G3) (hY : More Z e0 tb kt) (n0 : Nat) (h0 : Heap) (O0 : Old Z n0 h0) (j : Nat) (nn : Nat) (hj : j < nn) (hn : nn ≤ 4000) (ws : List Jvm.Cond) : Met l Z EL1 n0 NoB (⟨"jdk/internal/util/Preconditions", "checkIndex", "(IILjava/util/function/BiFunction;)I"⟩ : MethodName) jdk_41_method_11_code 3 (Option.some FieldType.int) RM_pci0 #[(.int (Int32.ofNat j)), (.int (Int32.ofNat nn)), .null] h0 (Q_pci0 Z G1 G3 e0 tb kt j nn h0 n0 NoB) ws := by
  have hX' := hX
  obtain ⟨hw, hE, S1, P1, S3, P3⟩ := hX'
  have hY' := hY
  obtain ⟨s_e, x_e, f_u, f_n, f_l, f_p, s_t, a_t⟩ := hY'
  have wT : ∀ (i : Nat) {d : Jvm.Cond}, tables_1[i]? = some d → d.before a0 Z = true := fun i d h => hw d (List.mem_of_getElem? h)
  have z0 : n0 ≤ h0.size := by rw [← O0.1]; exact O0.2.1
  refine Met.of (by decide +kernel) O0 hE ?_
  intro p e s m below meth c hx hby hml hret hlk hnm
  refine k_cast (ef_pci0 m (Int32.ofNat j) (Int32.ofNat nn)) ?_
  refine k_pure (g' := (mkF m 6 #[.val (.int (Int32.ofNat j)), .val (.int (Int32.ofNat nn)), .val .null] [(.int (Int32.ofNat nn)), (.int (Int32.ofNat j))])) (fun TT HH tt kk => XS.iloadN HH hx rfl (hb hby d6) rfl (XS.ifNo HH hx rfl (hb hby d7) rfl ((if0 _ _).trans (flt (not_lt_nat (n := 0) (Nat.zero_le _) (by omega))).1) (XS.iloadN HH hx rfl (hb hby d8) rfl (XS.iloadN HH hx rfl (hb hby d9) rfl kk)))) ?_
  refine k_pure (g' := (mkF m 17 #[.val (.int (Int32.ofNat j)), .val (.int (Int32.ofNat nn)), .val .null] [(.int (Int32.ofNat j))])) (fun TT HH tt kk => XS.icmpYes HH hx rfl (pc0 := 6) (pc' := 16) rfl (hb hby d10) rfl (tlt (lt_nat hj (by omega))).1 (by decide) (by decide) (XS.iloadN HH hx rfl (hb hby d11) rfl kk)) ?_
  exact k_retI hx hlk hret (hb hby d12) (by decide) (by decide) ⟨rfl, rfl, rfl⟩
def Q_pci1 (Z : State) (G1 : Int32) (G3 : Value) (e0 tb : Addr) (kt : ClassId) (j : Nat) (nn : Nat) (gf : Addr) (h0 : Heap) (n0 : Nat) (bk : Addr → Prop) (v : Option Value) (h : Heap) (bk' : Addr → Prop) : Prop := v = some (.int (Int32.ofNat j)) ∧ h0 = h ∧ NoB = bk'
abbrev RM_pci1 : Room := { frames := 0, cells := 0, slots := 0, locals := 0 }
theorem ef_pci1 (m : MethodId) (x0 : Int32) (x1 : Int32) (x2 : Addr) : entryFrame m #[(.int x0), (.int x1), (.ref x2)] 3 = mkF m 0 #[.val (.int x0), .val (.int x1), .val (.ref x2)] [] := by first | (simp [entryFrame, mkF, argsToLocals, Value.category]; done) | rfl
set_option maxRecDepth 65536 in
set_option maxHeartbeats 40000000 in
theorem rm_pci1 (l : Launch) (Z : State) (a0 : Array Value) (G1 : Int32) (G3 : Value) (e0 tb : Addr) (kt : ClassId) (hX : Ctx Z a0 G1 G3) (hY : More Z e0 tb kt) (n0 : Nat) (h0 : Heap) (O0 : Old Z n0 h0) (j : Nat) (nn : Nat) (gf : Addr) (hj : j < nn) (hn : nn ≤ 4000) (ws : List Jvm.Cond) : Met l Z EL1 n0 NoB (⟨"jdk/internal/util/Preconditions", "checkIndex", "(IILjava/util/function/BiFunction;)I"⟩ : MethodName) jdk_41_method_11_code 3 (Option.some FieldType.int) RM_pci1 #[(.int (Int32.ofNat j)), (.int (Int32.ofNat nn)), (.ref gf)] h0 (Q_pci1 Z G1 G3 e0 tb kt j nn gf h0 n0 NoB) ws := by
  have hX' := hX
  obtain ⟨hw, hE, S1, P1, S3, P3⟩ := hX'
  have hY' := hY
  obtain ⟨s_e, x_e, f_u, f_n, f_l, f_p, s_t, a_t⟩ := hY'
  have wT : ∀ (i : Nat) {d : Jvm.Cond}, tables_1[i]? = some d → d.before a0 Z = true := fun i d h => hw d (List.mem_of_getElem? h)
  have z0 : n0 ≤ h0.size := by rw [← O0.1]; exact O0.2.1
  refine Met.of (by decide +kernel) O0 hE ?_
  intro p e s m below meth c hx hby hml hret hlk hnm
  refine k_cast (ef_pci1 m (Int32.ofNat j) (Int32.ofNat nn) gf) ?_
  refine k_pure (g' := (mkF m 6 #[.val (.int (Int32.ofNat j)), .val (.int (Int32.ofNat nn)), .val (.ref gf)] [(.int (Int32.ofNat nn)), (.int (Int32.ofNat j))])) (fun TT HH tt kk => XS.iloadN HH hx rfl (hb hby d6) rfl (XS.ifNo HH hx rfl (hb hby d7) rfl ((if0 _ _).trans (flt (not_lt_nat (n := 0) (Nat.zero_le _) (by omega))).1) (XS.iloadN HH hx rfl (hb hby d8) rfl (XS.iloadN HH hx rfl (hb hby d9) rfl kk)))) ?_
  refine k_pure (g' := (mkF m 17 #[.val (.int (Int32.ofNat j)), .val (.int (Int32.ofNat nn)), .val (.ref gf)] [(.int (Int32.ofNat j))])) (fun TT HH tt kk => XS.icmpYes HH hx rfl (pc0 := 6) (pc' := 16) rfl (hb hby d10) rfl (tlt (lt_nat hj (by omega))).1 (by decide) (by decide) (XS.iloadN HH hx rfl (hb hby d11) rfl kk)) ?_
  exact k_retI hx hlk hret (hb hby d12) (by decide) (by decide) ⟨rfl, rfl, rfl⟩
def Q_sci (Z : State) (G1 : Int32) (G3 : Value) (e0 tb : Addr) (kt : ClassId) (j : Nat) (nn : Nat) (h0 : Heap) (n0 : Nat) (bk : Addr → Prop) (v : Option Value) (h : Heap) (bk' : Addr → Prop) : Prop := v = none ∧ h0 = h ∧ NoB = bk'
theorem d13 : decode jdk_42_method_155_code 0 = .ok (.iload_n 0, 1) := by decide +kernel
theorem d14 : decode jdk_42_method_155_code 1 = .ok (.iload_n 1, 1) := by decide +kernel
theorem d15 : decode jdk_42_method_155_code 2 = .ok (.getstatic 1053, 3) := by decide +kernel
theorem d16 : decode jdk_42_method_155_code 5 = .ok (.invokestatic 1059, 3) := by decide +kernel
theorem pd__28_IILjava_2f_util_2f_function_2f_BiFunction_3b__29_I : parseMethodDescriptor "(IILjava/util/function/BiFunction;)I" = some ⟨[.int, .int, (.object "java/util/function/BiFunction")], some .int⟩ := by decide +kernel
theorem d17 : decode jdk_42_method_155_code 8 = .ok (.pop, 1) := by decide +kernel
theorem d18 : decode jdk_42_method_155_code 9 = .ok (.return_, 1) := by decide +kernel
abbrev RM_sci : Room := { frames := 1, cells := 0, slots := 0, locals := 14 }
theorem ef_sci (m : MethodId) (x0 : Int32) (x1 : Int32) : entryFrame m #[(.int x0), (.int x1)] 2 = mkF m 0 #[.val (.int x0), .val (.int x1)] [] := by first | (simp [entryFrame, mkF, argsToLocals, Value.category]; done) | rfl
set_option maxRecDepth 65536 in
set_option maxHeartbeats 40000000 in
theorem rm_sci (l : Launch) (Z : State) (a0 : Array Value) (G1 : Int32) (G3 : Value) (e0 tb : Addr) (kt : ClassId) (hX : Ctx Z a0 G1 G3) (hY : More Z e0 tb kt) (n0 : Nat) (h0 : Heap) (O0 : Old Z n0 h0) (j : Nat) (nn : Nat) (hj : j < nn) (hn : nn ≤ 4000) (ws : List Jvm.Cond) : Met l Z EL1 n0 NoB (⟨"java/lang/String", "checkIndex", "(II)V"⟩ : MethodName) jdk_42_method_155_code 2 (Option.none : Option FieldType) RM_sci #[(.int (Int32.ofNat j)), (.int (Int32.ofNat nn))] h0 (Q_sci Z G1 G3 e0 tb kt j nn h0 n0 NoB) ws := by
  have hX' := hX
  obtain ⟨hw, hE, S1, P1, S3, P3⟩ := hX'
  have hY' := hY
  obtain ⟨s_e, x_e, f_u, f_n, f_l, f_p, s_t, a_t⟩ := hY'
  have wT : ∀ (i : Nat) {d : Jvm.Cond}, tables_1[i]? = some d → d.before a0 Z = true := fun i d h => hw d (List.mem_of_getElem? h)
  have z0 : n0 ≤ h0.size := by rw [← O0.1]; exact O0.2.1
  refine Met.of (by decide +kernel) O0 hE ?_
  intro p e s m below meth c hx hby hml hret hlk hnm
  refine k_cast (ef_sci m (Int32.ofNat j) (Int32.ofNat nn)) ?_
  refine k_pure (g' := (mkF m 2 #[.val (.int (Int32.ofNat j)), .val (.int (Int32.ofNat nn))] [(.int (Int32.ofNat nn)), (.int (Int32.ofNat j))])) (fun TT HH tt kk => XS.iloadN HH hx rfl (hb hby d13) rfl (XS.iloadN HH hx rfl (hb hby d14) rfl kk)) ?_
  rcases isref P3 with hG | ⟨gA, hG⟩
  · have S3' : Sta Z Z.heap "jdk/internal/util/Preconditions" "SIOOBE_FORMATTER" "Ljava/util/function/BiFunction;" .null := hG ▸ S3
    show Run p l e _ s m _ below meth c Z EL1 _ n0 NoB h0 0 0 (mkF m 2 #[.val (.int (Int32.ofNat j)), .val (.int (Int32.ofNat nn))] [(.int (Int32.ofNat nn)), (.int (Int32.ofNat j))]) _
    refine k_getS hx (host := "") (Or.inl (wT 95 rfl)) Via.refl (S3'.ext O0.2) rfl (hb hby d15) ?_
    show Run p l e _ s m _ below meth c Z EL1 _ n0 NoB h0 0 0 (mkF m 5 #[.val (.int (Int32.ofNat j)), .val (.int (Int32.ofNat nn))] [.null, (.int (Int32.ofNat nn)), (.int (Int32.ofNat j))]) _
    refine k_callS hx (y := (⟨"jdk/internal/util/Preconditions", "checkIndex", "(IILjava/util/function/BiFunction;)I"⟩ : MethodName)) (wT 142 rfl) (wT 143 rfl) (wT 96 rfl) (wT 144 rfl) (by decide) (W := 0) (argsL := [(.int (Int32.ofNat j)), (.int (Int32.ofNat nn)), .null]) (rest := []) (Pays.of_met (rm_pci0 l Z a0 G1 G3 e0 tb kt hX hY n0 h0 O0 j nn hj hn []) (wT 144 rfl) (wT 96 rfl) (by decide) (by decide)) rfl (by rw [hml]; rfl) (lenOf pd__28_IILjava_2f_util_2f_function_2f_BiFunction_3b__29_I rfl) rfl (by show 2 * 0 + _ ≤ _; exact Nat.le_of_eq rfl) (hb hby d16) (by decide) (by decide) ?_
    intro v_1 h_2 bk_3 O_4 z_5 Q_6
    obtain ⟨rfl, rfl, rfl⟩ := Q_6
    refine k_pure (g' := (mkF m 9 #[.val (.int (Int32.ofNat j)), .val (.int (Int32.ofNat nn))] [])) (fun _ J _ j => XS.pop J hx rfl (hb hby d17) rfl rfl j) ?_
    exact k_ret0 hx hlk hret (hb hby d18) (by decide) (by decide) ⟨rfl, rfl, rfl⟩
  · have S3' : Sta Z Z.heap "jdk/internal/util/Preconditions" "SIOOBE_FORMATTER" "Ljava/util/function/BiFunction;" (.ref gA) := hG ▸ S3
    show Run p l e _ s m _ below meth c Z EL1 _ n0 NoB h0 0 0 (mkF m 2 #[.val (.int (Int32.ofNat j)), .val (.int (Int32.ofNat nn))] [(.int (Int32.ofNat nn)), (.int (Int32.ofNat j))]) _
    refine k_getS hx (host := "") (Or.inl (wT 95 rfl)) Via.refl (S3'.ext O0.2) rfl (hb hby d15) ?_
    show Run p l e _ s m _ below meth c Z EL1 _ n0 NoB h0 0 0 (mkF m 5 #[.val (.int (Int32.ofNat j)), .val (.int (Int32.ofNat nn))] [(.ref gA), (.int (Int32.ofNat nn)), (.int (Int32.ofNat j))]) _
    refine k_callS hx (y := (⟨"jdk/internal/util/Preconditions", "checkIndex", "(IILjava/util/function/BiFunction;)I"⟩ : MethodName)) (wT 142 rfl) (wT 143 rfl) (wT 96 rfl) (wT 144 rfl) (by decide) (W := 0) (argsL := [(.int (Int32.ofNat j)), (.int (Int32.ofNat nn)), (.ref gA)]) (rest := []) (Pays.of_met (rm_pci1 l Z a0 G1 G3 e0 tb kt hX hY n0 h0 O0 j nn gA hj hn []) (wT 144 rfl) (wT 96 rfl) (by decide) (by decide)) rfl (by rw [hml]; rfl) (lenOf pd__28_IILjava_2f_util_2f_function_2f_BiFunction_3b__29_I rfl) rfl (by show 2 * 0 + _ ≤ _; exact Nat.le_of_eq rfl) (hb hby d16) (by decide) (by decide) ?_
    intro v_7 h_8 bk_9 O_10 z_11 Q_12
    obtain ⟨rfl, rfl, rfl⟩ := Q_12
    refine k_pure (g' := (mkF m 9 #[.val (.int (Int32.ofNat j)), .val (.int (Int32.ofNat nn))] [])) (fun _ J _ j => XS.pop J hx rfl (hb hby d17) rfl rfl j) ?_
    exact k_ret0 hx hlk hret (hb hby d18) (by decide) (by decide) ⟨rfl, rfl, rfl⟩
def Q_isl (Z : State) (G1 : Int32) (G3 : Value) (e0 tb : Addr) (kt : ClassId) (a : Addr) (t : Addr) (kb : ClassId) (cs : List Int32) (h0 : Heap) (n0 : Nat) (bk : Addr → Prop) (v : Option Value) (h : Heap) (bk' : Addr → Prop) : Prop := v = some (.int (1 : Int32)) ∧ h0 = h ∧ NoB = bk'
theorem d19 : decode jdk_42_method_154_code 0 = .ok (.getstatic 38, 3) := by decide +kernel
theorem d20 : decode jdk_42_method_154_code 3 = .ok (.ifCond .eq 14, 3) := by decide +kernel
theorem d21 : decode jdk_42_method_154_code 6 = .ok (.aload_n 0, 1) := by decide +kernel
theorem d22 : decode jdk_42_method_154_code 7 = .ok (.getfield 15, 3) := by decide +kernel
theorem d23 : decode jdk_42_method_154_code 10 = .ok (.ifCond .ne 7, 3) := by decide +kernel
theorem d24 : decode jdk_42_method_154_code 13 = .ok (.iconst 1, 1) := by decide +kernel
theorem d25 : decode jdk_42_method_154_code 14 = .ok (.goto 4, 3) := by decide +kernel
theorem d26 : decode jdk_42_method_154_code 18 = .ok (.ireturn, 1) := by decide +kernel
abbrev RM_isl : Room := { frames := 0, cells := 0, slots := 0, locals := 0 }
theorem ef_isl (m : MethodId) (x0 : Addr) : entryFrame m #[(.ref x0)] 1 = mkF m 0 #[.val (.ref x0)] [] := by first | (simp [entryFrame, mkF, argsToLocals, Value.category]; done) | rfl
set_option maxRecDepth 65536 in
set_option maxHeartbeats 40000000 in
theorem rm_isl (l : Launch) (Z : State) (a0 : Array Value) (G1 : Int32) (G3 : Value) (e0 tb : Addr) (kt : ClassId) (hX : Ctx Z a0 G1 G3) (hY : More Z e0 tb kt) (n0 : Nat) (h0 : Heap) (O0 : Old Z n0 h0) (a : Addr) (t : Addr) (kb : ClassId) (cs : List Int32) (pf_0 : StrL Z h0 a t kb cs) (ws : List Jvm.Cond) : Met l Z EL1 n0 NoB (⟨"java/lang/String", "isLatin1", "()Z"⟩ : MethodName) jdk_42_method_154_code 1 (Option.some FieldType.boolean) RM_isl #[(.ref a)] h0 (Q_isl Z G1 G3 e0 tb kt a t kb cs h0 n0 NoB) ws := by
  have hX' := hX
  obtain ⟨hw, hE, S1, P1, S3, P3⟩ := hX'
  have hY' := hY
  obtain ⟨s_e, x_e, f_u, f_n, f_l, f_p, s_t, a_t⟩ := hY'
  have wT : ∀ (i : Nat) {d : Jvm.Cond}, tables_1[i]? = some d → d.before a0 Z = true := fun i d h => hw d (List.mem_of_getElem? h)
  have z0 : n0 ≤ h0.size := by rw [← O0.1]; exact O0.2.1
  refine Met.of (by decide +kernel) O0 hE ?_
  intro p e s m below meth c hx hby hml hret hlk hnm
  refine k_cast (ef_isl m a) ?_
  show Run p l e _ s m _ below meth c Z EL1 _ n0 NoB h0 0 0 (mkF m 0 #[.val (.ref a)] []) _
  have lt_1 : @LT.lt Nat _ a (Array.size h0) := pf_0.lt1
  have lt_2 : @LT.lt Nat _ t (Array.size h0) := pf_0.lt2
  refine k_getS hx (host := "") (Or.inl (wT 100 rfl)) Via.refl (S1.ext O0.2) rfl (hb hby d19) ?_
  refine k_pure (g' := (mkF m 7 #[.val (.ref a)] [(.ref a)])) (fun TT HH tt kk => XS.ifNo HH hx rfl (hb hby d20) rfl ((if0 _ _).trans (feq P1).1) (XS.aloadN HH hx rfl (hb hby d21) rfl rfl kk)) ?_
  refine k_getF hx (host := "") (Or.inl (wT 109 rfl)) Via.refl pf_0.2.1 rfl rfl (hb hby d22) ?_
  refine k_pure (g' := (mkF m 18 #[.val (.ref a)] [(.int (1 : Int32))])) (fun TT HH tt kk => XS.ifNo HH hx rfl (hb hby d23) rfl ((if0 _ _).trans (teq (by decide : ((0 : Int32) = (0 : Int32)))).2) (XS.iconst HH hx rfl (hb hby d24) (XS.goto HH hx rfl (pc0 := 14) (pc' := 18) rfl (hb hby d25) (by decide) (by decide) kk))) ?_
  exact k_retN hx hlk hret (by simp) (hb hby d26) (by decide) (by decide) ⟨rfl, rfl, rfl⟩
def Q_lch (Z : State) (G1 : Int32) (G3 : Value) (e0 tb : Addr) (kt : ClassId) (t : Addr) (kb : ClassId) (cs : List Int32) (j : Nat) (h0 : Heap) (n0 : Nat) (bk : Addr → Prop) (v : Option Value) (h : Heap) (bk' : Addr → Prop) : Prop := v = some (.int ((cs).getD j 0)) ∧ h0 = h ∧ NoB = bk'
theorem d27 : decode jdk_43_method_2_code 0 = .ok (.iload_n 1, 1) := by decide +kernel
theorem d28 : decode jdk_43_method_2_code 1 = .ok (.aload_n 0, 1) := by decide +kernel
theorem d29 : decode jdk_43_method_2_code 2 = .ok (.arraylength, 1) := by decide +kernel
theorem d30 : decode jdk_43_method_2_code 3 = .ok (.invokestatic 9, 3) := by decide +kernel
theorem pd__28_II_29_V : parseMethodDescriptor "(II)V" = some ⟨[.int, .int], none⟩ := by decide +kernel
theorem d31 : decode jdk_43_method_2_code 6 = .ok (.aload_n 0, 1) := by decide +kernel
theorem d32 : decode jdk_43_method_2_code 7 = .ok (.iload_n 1, 1) := by decide +kernel
theorem d33 : decode jdk_43_method_2_code 8 = .ok (.baload, 1) := by decide +kernel
theorem d34 : decode jdk_43_method_2_code 9 = .ok (.sipush 255, 3) := by decide +kernel
theorem d35 : decode jdk_43_method_2_code 12 = .ok (.iand, 1) := by decide +kernel
theorem d36 : decode jdk_43_method_2_code 13 = .ok (.i2c, 1) := by decide +kernel
theorem d37 : decode jdk_43_method_2_code 14 = .ok (.ireturn, 1) := by decide +kernel
abbrev RM_lch : Room := { frames := 2, cells := 0, slots := 0, locals := 27 }
theorem ef_lch (m : MethodId) (x0 : Addr) (x1 : Int32) : entryFrame m #[(.ref x0), (.int x1)] 2 = mkF m 0 #[.val (.ref x0), .val (.int x1)] [] := by first | (simp [entryFrame, mkF, argsToLocals, Value.category]; done) | rfl
set_option maxRecDepth 65536 in
set_option maxHeartbeats 40000000 in
theorem rm_lch (l : Launch) (Z : State) (a0 : Array Value) (G1 : Int32) (G3 : Value) (e0 tb : Addr) (kt : ClassId) (hX : Ctx Z a0 G1 G3) (hY : More Z e0 tb kt) (n0 : Nat) (h0 : Heap) (O0 : Old Z n0 h0) (t : Addr) (kb : ClassId) (cs : List Int32) (j : Nat) (pf_0 : Arv Z h0 t kb .byte (Int32.ofNat (cs).length) (((cs).map (fun c => c.toInt8.toInt32)).map Value.int) (.int 0)) (hr : ∀ c ∈ cs, ¬ c < 0 ∧ ¬ (255 : Int32) < c) (hj : j < (cs).length) (hn : (cs).length ≤ 4000) (ws : List Jvm.Cond) : Met l Z EL1 n0 NoB (⟨"java/lang/StringLatin1", "charAt", "([BI)C"⟩ : MethodName) jdk_43_method_2_code 2 (Option.some FieldType.char) RM_lch #[(.ref t), (.int (Int32.ofNat j))] h0 (Q_lch Z G1 G3 e0 tb kt t kb cs j h0 n0 NoB) ws := by
  have hX' := hX
  obtain ⟨hw, hE, S1, P1, S3, P3⟩ := hX'
  have hY' := hY
  obtain ⟨s_e, x_e, f_u, f_n, f_l, f_p, s_t, a_t⟩ := hY'
  have wT : ∀ (i : Nat) {d : Jvm.Cond}, tables_1[i]? = some d → d.before a0 Z = true := fun i d h => hw d (List.mem_of_getElem? h)
  have z0 : n0 ≤ h0.size := by rw [← O0.1]; exact O0.2.1
  refine Met.of (by decide +kernel) O0 hE ?_
  intro p e s m below meth c hx hby hml hret hlk hnm
  refine k_cast (ef_lch m t (Int32.ofNat j)) ?_
  show Run p l e _ s m _ below meth c Z EL1 _ n0 NoB h0 0 0 (mkF m 0 #[.val (.ref t), .val (.int (Int32.ofNat j))] []) _
  have lt_1 : @LT.lt Nat _ t (Array.size h0) := pf_0.lt
  refine k_pure (g' := (mkF m 2 #[.val (.ref t), .val (.int (Int32.ofNat j))] [(.ref t), (.int (Int32.ofNat j))])) (fun TT HH tt kk => XS.iloadN HH hx rfl (hb hby d27) rfl (XS.aloadN HH hx rfl (hb hby d28) rfl rfl kk)) ?_
  refine k_alen hx pf_0 rfl rfl (hb hby d29) ?_
  show Run p l e _ s m _ below meth c Z EL1 _ n0 NoB h0 0 0 (mkF m 3 #[.val (.ref t), .val (.int (Int32.ofNat j))] [(.int (Int32.ofNat (cs).length)), (.int (Int32.ofNat j))]) _
  refine k_callS hx (y := (⟨"java/lang/String", "checkIndex", "(II)V"⟩ : MethodName)) (wT 139 rfl) (wT 140 rfl) (wT 86 rfl) (wT 141 rfl) (by decide) (W := 0) (argsL := [(.int (Int32.ofNat j)), (.int (Int32.ofNat (cs).length))]) (rest := []) (Pays.of_met (rm_sci l Z a0 G1 G3 e0 tb kt hX hY n0 h0 O0 j ((cs).length) hj hn []) (wT 141 rfl) (wT 86 rfl) (by decide) (by decide)) rfl (by rw [hml]; rfl) (lenOf pd__28_II_29_V rfl) rfl (by show 2 * 0 + _ ≤ _; exact Nat.le_of_eq rfl) (hb hby d30) (by decide) (by decide) ?_
  intro v_2 h_3 bk_4 O_5 z_6 Q_7
  obtain ⟨rfl, rfl, rfl⟩ := Q_7
  refine k_pure (g' := (mkF m 8 #[.val (.ref t), .val (.int (Int32.ofNat j))] [(.int (Int32.ofNat j)), (.ref t)])) (fun TT HH tt kk => XS.aloadN HH hx rfl (hb hby d31) rfl rfl (XS.iloadN HH hx rfl (hb hby d32) rfl kk)) ?_
  refine k_aget hx (v := (.int (((cs).getD j 0).toInt8.toInt32))) pf_0 (idx_ok (by omega) (by omega)) (lat_at (by omega)) (Or.inr (Or.inr (Or.inr (Or.inl ⟨rfl, rfl⟩)))) rfl rfl (hb hby d33) ?_
  refine k_pure (g' := (mkF m 14 #[.val (.ref t), .val (.int (Int32.ofNat j))] [(.int (((((cs).getD j 0).toInt8.toInt32) &&& (255 : Int32)).toUInt32.toUInt16.toUInt32.toInt32))])) (fun TT HH tt kk => XS.sipush HH hx rfl (hb hby d34) (XS.iand HH hx rfl (hb hby d35) rfl (XS.i2c HH hx rfl (hb hby d36) rfl kk))) ?_
  exact k_retN hx hlk hret (by simp) (hb hby d37) (by decide) (by decide) ⟨congrArg (fun z => some (Value.int z)) (lat_ch (hr _ (getD_mem cs j hj))), rfl, rfl⟩
def Q_chL (Z : State) (G1 : Int32) (G3 : Value) (e0 tb : Addr) (kt : ClassId) (a : Addr) (t : Addr) (kb : ClassId) (cs : List Int32) (j : Nat) (h0 : Heap) (n0 : Nat) (bk : Addr → Prop) (v : Option Value) (h : Heap) (bk' : Addr → Prop) : Prop := v = some (.int ((cs).getD j 0)) ∧ h0 = h ∧ NoB = bk'
theorem d38 : decode jdk_42_method_56_code 0 = .ok (.aload_n 0, 1) := by decide +kernel
theorem d39 : decode jdk_42_method_56_code 1 = .ok (.invokevirtual 492, 3) := by decide +kernel
theorem pd__28__29_Z : parseMethodDescriptor "()Z" = some ⟨[], some .boolean⟩ := by decide +kernel
theorem d40 : decode jdk_42_method_56_code 4 = .ok (.ifCond .eq 12, 3) := by decide +kernel
theorem d41 : decode jdk_42_method_56_code 7 = .ok (.aload_n 0, 1) := by decide +kernel
theorem d42 : decode jdk_42_method_56_code 8 = .ok (.getfield 9, 3) := by decide +kernel
theorem d43 : decode jdk_42_method_56_code 11 = .ok (.iload_n 1, 1) := by decide +kernel
theorem d44 : decode jdk_42_method_56_code 12 = .ok (.invokestatic 495, 3) := by decide +kernel
theorem pd__28__5b_BI_29_C : parseMethodDescriptor "([BI)C" = some ⟨[(.array .byte), .int], some .char⟩ := by decide +kernel
theorem d45 : decode jdk_42_method_56_code 15 = .ok (.ireturn, 1) := by decide +kernel
abbrev RM_chL : Room := { frames := 3, cells := 0, slots := 0, locals := 40 }
theorem ef_chL (m : MethodId) (x0 : Addr) (x1 : Int32) : entryFrame m #[(.ref x0), (.int x1)] 2 = mkF m 0 #[.val (.ref x0), .val (.int x1)] [] := by first | (simp [entryFrame, mkF, argsToLocals, Value.category]; done) | rfl
set_option maxRecDepth 65536 in
set_option maxHeartbeats 40000000 in
theorem rm_chL (l : Launch) (Z : State) (a0 : Array Value) (G1 : Int32) (G3 : Value) (e0 tb : Addr) (kt : ClassId) (hX : Ctx Z a0 G1 G3) (hY : More Z e0 tb kt) (n0 : Nat) (h0 : Heap) (O0 : Old Z n0 h0) (a : Addr) (t : Addr) (kb : ClassId) (cs : List Int32) (j : Nat) (pf_0 : StrL Z h0 a t kb cs) (hj : j < (cs).length) (ws : List Jvm.Cond) : Met l Z EL1 n0 NoB (⟨"java/lang/String", "charAt", "(I)C"⟩ : MethodName) jdk_42_method_56_code 2 (Option.some FieldType.char) RM_chL #[(.ref a), (.int (Int32.ofNat j))] h0 (Q_chL Z G1 G3 e0 tb kt a t kb cs j h0 n0 NoB) ws := by
  have hX' := hX
  obtain ⟨hw, hE, S1, P1, S3, P3⟩ := hX'
  have hY' := hY
  obtain ⟨s_e, x_e, f_u, f_n, f_l, f_p, s_t, a_t⟩ := hY'
  have wT : ∀ (i : Nat) {d : Jvm.Cond}, tables_1[i]? = some d → d.before a0 Z = true := fun i d h => hw d (List.mem_of_getElem? h)
  have z0 : n0 ≤ h0.size := by rw [← O0.1]; exact O0.2.1
  refine Met.of (by decide +kernel) O0 hE ?_
  intro p e s m below meth c hx hby hml hret hlk hnm
  refine k_cast (ef_chL m a (Int32.ofNat j)) ?_
  show Run p l e _ s m _ below meth c Z EL1 _ n0 NoB h0 0 0 (mkF m 0 #[.val (.ref a), .val (.int (Int32.ofNat j))] []) _
  have lt_1 : @LT.lt Nat _ a (Array.size h0) := pf_0.lt1
  have lt_2 : @LT.lt Nat _ t (Array.size h0) := pf_0.lt2
  refine k_pure (g' := (mkF m 1 #[.val (.ref a), .val (.int (Int32.ofNat j))] [(.ref a)])) (fun _ J _ j => XS.aloadN J hx rfl (hb hby d38) rfl rfl j) ?_
  refine k_callV hx (y := (⟨"java/lang/String", "isLatin1", "()Z"⟩ : MethodName)) (z := (⟨"java/lang/String", "isLatin1", "()Z"⟩ : MethodName)) (wT 130 rfl) (wT 131 rfl) (fun s' hZ => notFace_of_selects (args := #[]) (mv hZ (wT 133 rfl))) (wT 133 rfl) (wT 132 rfl) (by decide) (W := 0) (a := a) (argsL := []) (rest := []) (Pays.of_met (rm_isl l Z a0 G1 G3 e0 tb kt hX hY n0 h0 O0 a t kb cs pf_0 []) (wT 134 rfl) (wT 86 rfl) (by decide) (by decide)) pf_0.1 rfl (by rw [hml]; rfl) (lenOf pd__28__29_Z rfl) rfl (by show 2 * 0 + _ ≤ _; exact Nat.le_of_eq rfl) (hb hby d39) (by decide) (by decide) ?_
  intro v_3 h_4 bk_5 O_6 z_7 Q_8
  obtain ⟨rfl, rfl, rfl⟩ := Q_8
  refine k_pure (g' := (mkF m 8 #[.val (.ref a), .val (.int (Int32.ofNat j))] [(.ref a)])) (fun TT HH tt kk => XS.ifNo HH hx rfl (hb hby d40) rfl ((if0 _ _).trans (feq (by decide : ¬ ((1 : Int32) = (0 : Int32)))).1) (XS.aloadN HH hx rfl (hb hby d41) rfl rfl kk)) ?_
  refine k_getF hx (host := "") (Or.inl (wT 107 rfl)) Via.refl pf_0.2.2.1 rfl rfl (hb hby d42) ?_
  refine k_pure (g' := (mkF m 12 #[.val (.ref a), .val (.int (Int32.ofNat j))] [(.int (Int32.ofNat j)), (.ref t)])) (fun _ J _ j => XS.iloadN J hx rfl (hb hby d43) rfl j) ?_
  refine k_callS hx (y := (⟨"java/lang/StringLatin1", "charAt", "([BI)C"⟩ : MethodName)) (wT 135 rfl) (wT 136 rfl) (wT 137 rfl) (wT 138 rfl) (by decide) (W := 0) (argsL := [(.ref t), (.int (Int32.ofNat j))]) (rest := []) (Pays.of_met (rm_lch l Z a0 G1 G3 e0 tb kt hX hY n0 h0 O0 t kb cs j pf_0.2.2.2.1 pf_0.2.2.2.2.1 hj pf_0.2.2.2.2.2 []) (wT 138 rfl) (wT 137 rfl) (by decide) (by decide)) rfl (by rw [hml]; rfl) (lenOf pd__28__5b_BI_29_C rfl) rfl (by show 2 * 0 + _ ≤ _; exact Nat.le_of_eq rfl) (hb hby d44) (by decide) (by decide) ?_
  intro v_9 h_10 bk_11 O_12 z_13 Q_14
  obtain ⟨rfl, rfl, rfl⟩ := Q_14
  show Run p l e _ s m _ below meth c Z EL1 _ n0 NoB h0 0 0 (mkF m 15 #[.val (.ref a), .val (.int (Int32.ofNat j))] [(.int ((cs).getD j 0))]) _
  exact k_retN hx hlk hret (by simp) (hb hby d45) (by decide) (by decide) ⟨congrArg (fun z => some (Value.int z)) (u_nrc (up_ch pf_0.2.2.2.2.1 _ (getD_mem cs j hj)).1 (up_ch pf_0.2.2.2.2.1 _ (getD_mem cs j hj)).2), rfl, rfl⟩
def Q_sle (Z : State) (G1 : Int32) (G3 : Value) (e0 tb : Addr) (kt : ClassId) (a : Addr) (t : Addr) (kb : ClassId) (cs : List Int32) (h0 : Heap) (n0 : Nat) (bk : Addr → Prop) (v : Option Value) (h : Heap) (bk' : Addr → Prop) : Prop := v = some (.int (Int32.ofNat (cs).length)) ∧ h0 = h ∧ NoB = bk'
theorem d46 : decode jdk_42_method_54_code 0 = .ok (.aload_n 0, 1) := by decide +kernel
theorem d47 : decode jdk_42_method_54_code 1 = .ok (.getfield 9, 3) := by decide +kernel
theorem d48 : decode jdk_42_method_54_code 4 = .ok (.arraylength, 1) := by decide +kernel
theorem d49 : decode jdk_42_method_54_code 5 = .ok (.aload_n 0, 1) := by decide +kernel
theorem d50 : decode jdk_42_method_54_code 6 = .ok (.invokevirtual 335, 3) := by decide +kernel
theorem pd__28__29_B : parseMethodDescriptor "()B" = some ⟨[], some .byte⟩ := by decide +kernel
theorem d51 : decode jdk_42_method_54_code 9 = .ok (.ishr, 1) := by decide +kernel
theorem d52 : decode jdk_42_method_54_code 10 = .ok (.ireturn, 1) := by decide +kernel
abbrev RM_sle : Room := { frames := 1, cells := 0, slots := 0, locals := 13 }
theorem ef_sle (m : MethodId) (x0 : Addr) : entryFrame m #[(.ref x0)] 1 = mkF m 0 #[.val (.ref x0)] [] := by first | (simp [entryFrame, mkF, argsToLocals, Value.category]; done) | rfl
set_option maxRecDepth 65536 in
set_option maxHeartbeats 40000000 in
theorem rm_sle (l : Launch) (Z : State) (a0 : Array Value) (G1 : Int32) (G3 : Value) (e0 tb : Addr) (kt : ClassId) (hX : Ctx Z a0 G1 G3) (hY : More Z e0 tb kt) (n0 : Nat) (h0 : Heap) (O0 : Old Z n0 h0) (a : Addr) (t : Addr) (kb : ClassId) (cs : List Int32) (pf_0 : StrL Z h0 a t kb cs) (ws : List Jvm.Cond) : Met l Z EL1 n0 NoB (⟨"java/lang/String", "length", "()I"⟩ : MethodName) jdk_42_method_54_code 1 (Option.some FieldType.int) RM_sle #[(.ref a)] h0 (Q_sle Z G1 G3 e0 tb kt a t kb cs h0 n0 NoB) ws := by
  have hX' := hX
  obtain ⟨hw, hE, S1, P1, S3, P3⟩ := hX'
  have hY' := hY
  obtain ⟨s_e, x_e, f_u, f_n, f_l, f_p, s_t, a_t⟩ := hY'
  have wT : ∀ (i : Nat) {d : Jvm.Cond}, tables_1[i]? = some d → d.before a0 Z = true := fun i d h => hw d (List.mem_of_getElem? h)
  have z0 : n0 ≤ h0.size := by rw [← O0.1]; exact O0.2.1
  refine Met.of (by decide +kernel) O0 hE ?_
  intro p e s m below meth c hx hby hml hret hlk hnm
  refine k_cast (ef_sle m a) ?_
  show Run p l e _ s m _ below meth c Z EL1 _ n0 NoB h0 0 0 (mkF m 0 #[.val (.ref a)] []) _
  have lt_1 : @LT.lt Nat _ a (Array.size h0) := pf_0.lt1
  have lt_2 : @LT.lt Nat _ t (Array.size h0) := pf_0.lt2
  refine k_pure (g' := (mkF m 1 #[.val (.ref a)] [(.ref a)])) (fun _ J _ j => XS.aloadN J hx rfl (hb hby d46) rfl rfl j) ?_
  refine k_getF hx (host := "") (Or.inl (wT 107 rfl)) Via.refl pf_0.2.2.1 rfl rfl (hb hby d47) ?_
  show Run p l e _ s m _ below meth c Z EL1 _ n0 NoB h0 0 0 (mkF m 4 #[.val (.ref a)] [(.ref t)]) _
  refine k_alen hx pf_0.2.2.2.1 rfl rfl (hb hby d48) ?_
  refine k_pure (g' := (mkF m 6 #[.val (.ref a)] [(.ref a), (.int (Int32.ofNat (cs).length))])) (fun _ J _ j => XS.aloadN J hx rfl (hb hby d49) rfl rfl j) ?_
  refine k_callV hx (y := (⟨"java/lang/String", "coder", "()B"⟩ : MethodName)) (z := (⟨"java/lang/String", "coder", "()B"⟩ : MethodName)) (wT 120 rfl) (wT 121 rfl) (fun s' hZ => notFace_of_selects (args := #[]) (mv hZ (wT 123 rfl))) (wT 123 rfl) (wT 122 rfl) (by decide) (W := 1) (a := a) (argsL := []) (rest := [(.int (Int32.ofNat (cs).length))]) (Pays.of_met (rm_coder l Z a0 G1 G3 e0 tb kt hX hY n0 h0 O0 a t kb cs pf_0 []) (wT 124 rfl) (wT 86 rfl) (by decide) (by decide)) pf_0.1 rfl (by rw [hml]; rfl) (lenOf pd__28__29_B rfl) rfl (by show 2 * 0 + _ ≤ _; exact Nat.le_of_eq rfl) (hb hby d50) (by decide) (by decide) ?_
  intro v_3 h_4 bk_5 O_6 z_7 Q_8
  obtain ⟨rfl, rfl, rfl⟩ := Q_8
  refine k_pure (g' := (mkF m 10 #[.val (.ref a)] [(.int ((Int32.ofNat (cs).length) >>> ((0 : Int32) &&& 31)))])) (fun _ J _ j => XS.ishr J hx rfl (hb hby d51) rfl j) ?_
  rw [u_shr0]
  show Run p l e _ s m _ below meth c Z EL1 _ n0 NoB h0 0 0 (mkF m 10 #[.val (.ref a)] [(.int (Int32.ofNat (cs).length))]) _
  exact k_retI hx hlk hret (hb hby d52) (by decide) (by decide) ⟨rfl, rfl, rfl⟩
def Q_enc (Z : State) (G1 : Int32) (G3 : Value) (e0 tb : Addr) (kt : ClassId) (v1 : Int32) (h0 : Heap) (n0 : Nat) (bk : Addr → Prop) (v : Option Value) (h : Heap) (bk' : Addr → Prop) : Prop := v = some (.int (en v1)) ∧ h0 = h ∧ NoB = bk'
theorem d53 : decode method_2_code 0 = .ok (.iload_n 0, 1) := by decide +kernel
theorem d54 : decode method_2_code 1 = .ok (.bipush 26, 2) := by decide +kernel
theorem d55 : decode method_2_code 3 = .ok (.if_icmp .ge 9, 3) := by decide +kernel
theorem d56 : decode method_2_code 6 = .ok (.bipush 65, 2) := by decide +kernel
theorem d57 : decode method_2_code 8 = .ok (.iload_n 0, 1) := by decide +kernel
theorem d58 : decode method_2_code 9 = .ok (.iadd, 1) := by decide +kernel
theorem d59 : decode method_2_code 10 = .ok (.i2c, 1) := by decide +kernel
theorem d60 : decode method_2_code 11 = .ok (.ireturn, 1) := by decide +kernel
theorem d61 : decode method_2_code 12 = .ok (.iload_n 0, 1) := by decide +kernel
theorem d62 : decode method_2_code 13 = .ok (.bipush 52, 2) := by decide +kernel
theorem d63 : decode method_2_code 15 = .ok (.if_icmp .ge 12, 3) := by decide +kernel
theorem d64 : decode method_2_code 18 = .ok (.bipush 97, 2) := by decide +kernel
theorem d65 : decode method_2_code 20 = .ok (.iload_n 0, 1) := by decide +kernel
theorem d66 : decode method_2_code 21 = .ok (.bipush 26, 2) := by decide +kernel
theorem d67 : decode method_2_code 23 = .ok (.isub, 1) := by decide +kernel
theorem d68 : decode method_2_code 24 = .ok (.iadd, 1) := by decide +kernel
theorem d69 : decode method_2_code 25 = .ok (.i2c, 1) := by decide +kernel
theorem d70 : decode method_2_code 26 = .ok (.ireturn, 1) := by decide +kernel
theorem d71 : decode method_2_code 27 = .ok (.iload_n 0, 1) := by decide +kernel
theorem d72 : decode method_2_code 28 = .ok (.bipush 62, 2) := by decide +kernel
theorem d73 : decode method_2_code 30 = .ok (.if_icmp .ge 12, 3) := by decide +kernel
theorem d74 : decode method_2_code 33 = .ok (.bipush 48, 2) := by decide +kernel
theorem d75 : decode method_2_code 35 = .ok (.iload_n 0, 1) := by decide +kernel
theorem d76 : decode method_2_code 36 = .ok (.bipush 52, 2) := by decide +kernel
theorem d77 : decode method_2_code 38 = .ok (.isub, 1) := by decide +kernel
theorem d78 : decode method_2_code 39 = .ok (.iadd, 1) := by decide +kernel
theorem d79 : decode method_2_code 40 = .ok (.i2c, 1) := by decide +kernel
theorem d80 : decode method_2_code 41 = .ok (.ireturn, 1) := by decide +kernel
theorem d81 : decode method_2_code 42 = .ok (.iload_n 0, 1) := by decide +kernel
theorem d82 : decode method_2_code 43 = .ok (.bipush 62, 2) := by decide +kernel
theorem d83 : decode method_2_code 45 = .ok (.if_icmp .ne 6, 3) := by decide +kernel
theorem d84 : decode method_2_code 48 = .ok (.bipush 45, 2) := by decide +kernel
theorem d85 : decode method_2_code 50 = .ok (.ireturn, 1) := by decide +kernel
theorem d86 : decode method_2_code 51 = .ok (.bipush 95, 2) := by decide +kernel
theorem d87 : decode method_2_code 53 = .ok (.ireturn, 1) := by decide +kernel
abbrev RM_enc : Room := { frames := 0, cells := 0, slots := 0, locals := 0 }
theorem ef_enc (m : MethodId) (x0 : Int32) : entryFrame m #[(.int x0)] 1 = mkF m 0 #[.val (.int x0)] [] := by first | (simp [entryFrame, mkF, argsToLocals, Value.category]; done) | rfl
set_option maxRecDepth 65536 in
set_option maxHeartbeats 40000000 in
theorem rm_enc (l : Launch) (Z : State) (a0 : Array Value) (G1 : Int32) (G3 : Value) (e0 tb : Addr) (kt : ClassId) (hX : Ctx Z a0 G1 G3) (hY : More Z e0 tb kt) (n0 : Nat) (h0 : Heap) (O0 : Old Z n0 h0) (v1 : Int32) (hv : 0 ≤ v1.toInt ∧ v1.toInt ≤ 63) (ws : List Jvm.Cond) : Met l Z EL1 n0 NoB (⟨"com/example/lean_entities/leanentities/session/CursorToWebSafeStringPinLaw", "enc", "(I)C"⟩ : MethodName) method_2_code 1 (Option.some FieldType.char) RM_enc #[(.int v1)] h0 (Q_enc Z G1 G3 e0 tb kt v1 h0 n0 NoB) ws := by
  have hX' := hX
  obtain ⟨hw, hE, S1, P1, S3, P3⟩ := hX'
  have hY' := hY
  obtain ⟨s_e, x_e, f_u, f_n, f_l, f_p, s_t, a_t⟩ := hY'
  have wT : ∀ (i : Nat) {d : Jvm.Cond}, tables_1[i]? = some d → d.before a0 Z = true := fun i d h => hw d (List.mem_of_getElem? h)
  have z0 : n0 ≤ h0.size := by rw [← O0.1]; exact O0.2.1
  refine Met.of (by decide +kernel) O0 hE ?_
  intro p e s m below meth c hx hby hml hret hlk hnm
  refine k_cast (ef_enc m v1) ?_
  refine k_pure (g' := (mkF m 3 #[.val (.int v1)] [(.int (26 : Int32)), (.int v1)])) (fun TT HH tt kk => XS.iloadN HH hx rfl (hb hby d53) rfl (XS.bipush HH hx rfl (hb hby d54) kk)) ?_
  by_cases c_1 : v1 < (26 : Int32)
  · refine k_pure (g' := (mkF m 10 #[.val (.int v1)] [(.int ((65 : Int32) + v1))])) (fun TT HH tt kk => XS.icmpNo HH hx rfl (hb hby d55) rfl (tlt c_1).2.1 (XS.bipush HH hx rfl (hb hby d56) (XS.iloadN HH hx rfl (hb hby d57) rfl (XS.iadd HH hx rfl (hb hby d58) rfl kk)))) ?_
    refine k_pure (g' := (mkF m 11 #[.val (.int v1)] [(.int (((65 : Int32) + v1).toUInt32.toUInt16.toUInt32.toInt32))])) (fun _ J _ j => XS.i2c J hx rfl (hb hby d59) rfl j) ?_
    exact k_retN hx hlk hret (by simp) (hb hby d60) (by decide) (by decide) ⟨congrArg (fun z => some (Value.int z)) (by have r0 := rng32 v1; have r1 : (26 : Int32).toInt = 26 := (by decide); have r2 : (65 : Int32).toInt = 65 := (by decide); have r3 := c_iadd (65 : Int32) v1; have r4 := rng32 ((65 : Int32) + v1); have r5 := c_i2c ((65 : Int32) + v1); have r6 : ((nar .char (((65 : Int32) + v1).toUInt32.toUInt16.toUInt32.toInt32)).toInt - (((65 : Int32) + v1).toUInt32.toUInt16.toUInt32.toInt32).toInt) % 65536 = 0 ∧ 0 ≤ (nar .char (((65 : Int32) + v1).toUInt32.toUInt16.toUInt32.toInt32)).toInt ∧ (nar .char (((65 : Int32) + v1).toUInt32.toUInt16.toUInt32.toInt32)).toInt < 65536 := (c_i2c (((65 : Int32) + v1).toUInt32.toUInt16.toUInt32.toInt32)); have r7 := rng32 (en v1); have r8 := (Int32.lt_iff_toInt_lt.mp c_1); have r9 := hv; have r10 := en_toInt hv; apply Int32.toInt_inj.mp; omega), rfl, rfl⟩
  · refine k_pure (g' := (mkF m 15 #[.val (.int v1)] [(.int (52 : Int32)), (.int v1)])) (fun TT HH tt kk => XS.icmpYes HH hx rfl (pc0 := 3) (pc' := 12) rfl (hb hby d55) rfl (flt c_1).2.1 (by decide) (by decide) (XS.iloadN HH hx rfl (hb hby d61) rfl (XS.bipush HH hx rfl (hb hby d62) kk))) ?_
    by_cases c_2 : v1 < (52 : Int32)
    · refine k_pure (g' := (mkF m 23 #[.val (.int v1)] [(.int (26 : Int32)), (.int v1), (.int (97 : Int32))])) (fun TT HH tt kk => XS.icmpNo HH hx rfl (hb hby d63) rfl (tlt c_2).2.1 (XS.bipush HH hx rfl (hb hby d64) (XS.iloadN HH hx rfl (hb hby d65) rfl (XS.bipush HH hx rfl (hb hby d66) kk)))) ?_
      refine k_pure (g' := (mkF m 26 #[.val (.int v1)] [(.int (((97 : Int32) + (v1 - (26 : Int32))).toUInt32.toUInt16.toUInt32.toInt32))])) (fun TT HH tt kk => XS.isub HH hx rfl (hb hby d67) rfl (XS.iadd HH hx rfl (hb hby d68) rfl (XS.i2c HH hx rfl (hb hby d69) rfl kk))) ?_
      exact k_retN hx hlk hret (by simp) (hb hby d70) (by decide) (by decide) ⟨congrArg (fun z => some (Value.int z)) (by have r0 := rng32 v1; have r1 : (26 : Int32).toInt = 26 := (by decide); have r2 : (52 : Int32).toInt = 52 := (by decide); have r3 : (97 : Int32).toInt = 97 := (by decide); have r4 := c_isub v1 (26 : Int32); have r5 := rng32 (v1 - (26 : Int32)); have r6 := c_iadd (97 : Int32) (v1 - (26 : Int32)); have r7 := rng32 ((97 : Int32) + (v1 - (26 : Int32))); have r8 := c_i2c ((97 : Int32) + (v1 - (26 : Int32))); have r9 : ((nar .char (((97 : Int32) + (v1 - (26 : Int32))).toUInt32.toUInt16.toUInt32.toInt32)).toInt - (((97 : Int32) + (v1 - (26 : Int32))).toUInt32.toUInt16.toUInt32.toInt32).toInt) % 65536 = 0 ∧ 0 ≤ (nar .char (((97 : Int32) + (v1 - (26 : Int32))).toUInt32.toUInt16.toUInt32.toInt32)).toInt ∧ (nar .char (((97 : Int32) + (v1 - (26 : Int32))).toUInt32.toUInt16.toUInt32.toInt32)).toInt < 65536 := (c_i2c (((97 : Int32) + (v1 - (26 : Int32))).toUInt32.toUInt16.toUInt32.toInt32)); have r10 := rng32 (en v1); have r11 : ¬ (v1).toInt < ((26 : Int32)).toInt := fun q => c_1 (Int32.lt_iff_toInt_lt.mpr q); have r12 := (Int32.lt_iff_toInt_lt.mp c_2); have r13 := hv; have r14 := en_toInt hv; apply Int32.toInt_inj.mp; omega), rfl, rfl⟩
    · refine k_pure (g' := (mkF m 30 #[.val (.int v1)] [(.int (62 : Int32)), (.int v1)])) (fun TT HH tt kk => XS.icmpYes HH hx rfl (pc0 := 15) (pc' := 27) rfl (hb hby d63) rfl (flt c_2).2.1 (by decide) (by decide) (XS.iloadN HH hx rfl (hb hby d71) rfl (XS.bipush HH hx rfl (hb hby d72) kk))) ?_
      by_cases c_3 : v1 < (62 : Int32)
      · refine k_pure (g' := (mkF m 38 #[.val (.int v1)] [(.int (52 : Int32)), (.int v1), (.int (48 : Int32))])) (fun TT HH tt kk => XS.icmpNo HH hx rfl (hb hby d73) rfl (tlt c_3).2.1 (XS.bipush HH hx rfl (hb hby d74) (XS.iloadN HH hx rfl (hb hby d75) rfl (XS.bipush HH hx rfl (hb hby d76) kk)))) ?_
        refine k_pure (g' := (mkF m 41 #[.val (.int v1)] [(.int (((48 : Int32) + (v1 - (52 : Int32))).toUInt32.toUInt16.toUInt32.toInt32))])) (fun TT HH tt kk => XS.isub HH hx rfl (hb hby d77) rfl (XS.iadd HH hx rfl (hb hby d78) rfl (XS.i2c HH hx rfl (hb hby d79) rfl kk))) ?_
        exact k_retN hx hlk hret (by simp) (hb hby d80) (by decide) (by decide) ⟨congrArg (fun z => some (Value.int z)) (by have r0 := rng32 v1; have r1 : (26 : Int32).toInt = 26 := (by decide); have r2 : (52 : Int32).toInt = 52 := (by decide); have r3 : (62 : Int32).toInt = 62 := (by decide); have r4 : (48 : Int32).toInt = 48 := (by decide); have r5 := c_isub v1 (52 : Int32); have r6 := rng32 (v1 - (52 : Int32)); have r7 := c_iadd (48 : Int32) (v1 - (52 : Int32)); have r8 := rng32 ((48 : Int32) + (v1 - (52 : Int32))); have r9 := c_i2c ((48 : Int32) + (v1 - (52 : Int32))); have r10 : ((nar .char (((48 : Int32) + (v1 - (52 : Int32))).toUInt32.toUInt16.toUInt32.toInt32)).toInt - (((48 : Int32) + (v1 - (52 : Int32))).toUInt32.toUInt16.toUInt32.toInt32).toInt) % 65536 = 0 ∧ 0 ≤ (nar .char (((48 : Int32) + (v1 - (52 : Int32))).toUInt32.toUInt16.toUInt32.toInt32)).toInt ∧ (nar .char (((48 : Int32) + (v1 - (52 : Int32))).toUInt32.toUInt16.toUInt32.toInt32)).toInt < 65536 := (c_i2c (((48 : Int32) + (v1 - (52 : Int32))).toUInt32.toUInt16.toUInt32.toInt32)); have r11 := rng32 (en v1); have r12 : ¬ (v1).toInt < ((26 : Int32)).toInt := fun q => c_1 (Int32.lt_iff_toInt_lt.mpr q); have r13 : ¬ (v1).toInt < ((52 : Int32)).toInt := fun q => c_2 (Int32.lt_iff_toInt_lt.mpr q); have r14 := (Int32.lt_iff_toInt_lt.mp c_3); have r15 := hv; have r16 := en_toInt hv; apply Int32.toInt_inj.mp; omega), rfl, rfl⟩
      · refine k_pure (g' := (mkF m 45 #[.val (.int v1)] [(.int (62 : Int32)), (.int v1)])) (fun TT HH tt kk => XS.icmpYes HH hx rfl (pc0 := 30) (pc' := 42) rfl (hb hby d73) rfl (flt c_3).2.1 (by decide) (by decide) (XS.iloadN HH hx rfl (hb hby d81) rfl (XS.bipush HH hx rfl (hb hby d82) kk))) ?_
        by_cases c_4 : v1 = (62 : Int32)
        · refine k_pure (g' := (mkF m 50 #[.val (.int v1)] [(.int (45 : Int32))])) (fun TT HH tt kk => XS.icmpNo HH hx rfl (hb hby d83) rfl (teq c_4).2 (XS.bipush HH hx rfl (hb hby d84) kk)) ?_
          exact k_retN hx hlk hret (by simp) (hb hby d85) (by decide) (by decide) ⟨congrArg (fun z => some (Value.int z)) (by have r0 := rng32 v1; have r1 : (26 : Int32).toInt = 26 := (by decide); have r2 : (52 : Int32).toInt = 52 := (by decide); have r3 : (62 : Int32).toInt = 62 := (by decide); have r4 : (45 : Int32).toInt = 45 := (by decide); have r5 : ((nar .char (45 : Int32)).toInt - (45 : Int32).toInt) % 65536 = 0 ∧ 0 ≤ (nar .char (45 : Int32)).toInt ∧ (nar .char (45 : Int32)).toInt < 65536 := (c_i2c (45 : Int32)); have r6 := rng32 (en v1); have r7 : ¬ (v1).toInt < ((26 : Int32)).toInt := fun q => c_1 (Int32.lt_iff_toInt_lt.mpr q); have r8 : ¬ (v1).toInt < ((52 : Int32)).toInt := fun q => c_2 (Int32.lt_iff_toInt_lt.mpr q); have r9 : ¬ (v1).toInt < ((62 : Int32)).toInt := fun q => c_3 (Int32.lt_iff_toInt_lt.mpr q); have r10 := (congrArg Int32.toInt c_4); have r11 := hv; have r12 := en_toInt hv; apply Int32.toInt_inj.mp; omega), rfl, rfl⟩
        · refine k_pure (g' := (mkF m 53 #[.val (.int v1)] [(.int (95 : Int32))])) (fun TT HH tt kk => XS.icmpYes HH hx rfl (pc0 := 45) (pc' := 51) rfl (hb hby d83) rfl (feq c_4).2 (by decide) (by decide) (XS.bipush HH hx rfl (hb hby d86) kk)) ?_
          exact k_retN hx hlk hret (by simp) (hb hby d87) (by decide) (by decide) ⟨congrArg (fun z => some (Value.int z)) (by have r0 := rng32 v1; have r1 : (26 : Int32).toInt = 26 := (by decide); have r2 : (52 : Int32).toInt = 52 := (by decide); have r3 : (62 : Int32).toInt = 62 := (by decide); have r4 : (95 : Int32).toInt = 95 := (by decide); have r5 : ((nar .char (95 : Int32)).toInt - (95 : Int32).toInt) % 65536 = 0 ∧ 0 ≤ (nar .char (95 : Int32)).toInt ∧ (nar .char (95 : Int32)).toInt < 65536 := (c_i2c (95 : Int32)); have r6 := rng32 (en v1); have r7 : ¬ (v1).toInt < ((26 : Int32)).toInt := fun q => c_1 (Int32.lt_iff_toInt_lt.mpr q); have r8 : ¬ (v1).toInt < ((52 : Int32)).toInt := fun q => c_2 (Int32.lt_iff_toInt_lt.mpr q); have r9 : ¬ (v1).toInt < ((62 : Int32)).toInt := fun q => c_3 (Int32.lt_iff_toInt_lt.mpr q); have r10 : ¬ (v1).toInt = ((62 : Int32)).toInt := fun q => c_4 (Int32.toInt_inj.mp q); have r11 := hv; have r12 := en_toInt hv; apply Int32.toInt_inj.mp; omega), rfl, rfl⟩
def Q_mx0 (Z : State) (G1 : Int32) (G3 : Value) (e0 tb : Addr) (kt : ClassId)  (h0 : Heap) (n0 : Nat) (bk : Addr → Prop) (v : Option Value) (h : Heap) (bk' : Addr → Prop) : Prop := v = some (.int (0 : Int32)) ∧ h0 = h ∧ NoB = bk'
theorem d88 : decode jdk_29_method_28_code 0 = .ok (.iload_n 0, 1) := by decide +kernel
theorem d89 : decode jdk_29_method_28_code 1 = .ok (.i2l, 1) := by decide +kernel
theorem d90 : decode jdk_29_method_28_code 2 = .ok (.iload_n 1, 1) := by decide +kernel
theorem d91 : decode jdk_29_method_28_code 3 = .ok (.i2l, 1) := by decide +kernel
theorem d92 : decode jdk_29_method_28_code 4 = .ok (.lmul, 1) := by decide +kernel
theorem d93 : decode jdk_29_method_28_code 5 = .ok (.lstore_n 2, 1) := by decide +kernel
theorem d94 : decode jdk_29_method_28_code 6 = .ok (.lload_n 2, 1) := by decide +kernel
theorem d95 : decode jdk_29_method_28_code 7 = .ok (.l2i, 1) := by decide +kernel
theorem d96 : decode jdk_29_method_28_code 8 = .ok (.i2l, 1) := by decide +kernel
theorem d97 : decode jdk_29_method_28_code 9 = .ok (.lload_n 2, 1) := by decide +kernel
theorem d98 : decode jdk_29_method_28_code 10 = .ok (.lcmp, 1) := by decide +kernel
theorem d99 : decode jdk_29_method_28_code 11 = .ok (.ifCond .eq 13, 3) := by decide +kernel
theorem d100 : decode jdk_29_method_28_code 24 = .ok (.lload_n 2, 1) := by decide +kernel
theorem d101 : decode jdk_29_method_28_code 25 = .ok (.l2i, 1) := by decide +kernel
theorem d102 : decode jdk_29_method_28_code 26 = .ok (.ireturn, 1) := by decide +kernel
abbrev RM_mx0 : Room := { frames := 0, cells := 0, slots := 0, locals := 0 }
theorem ef_mx0 (m : MethodId) (x0 : Int32) (x1 : Int32) : entryFrame m #[(.int x0), (.int x1)] 4 = mkF m 0 #[.val (.int x0), .val (.int x1), .unset, .unset] [] := by first | (simp [entryFrame, mkF, argsToLocals, Value.category]; done) | rfl
set_option maxRecDepth 65536 in
set_option maxHeartbeats 40000000 in
theorem rm_mx0 (l : Launch) (Z : State) (a0 : Array Value) (G1 : Int32) (G3 : Value) (e0 tb : Addr) (kt : ClassId) (hX : Ctx Z a0 G1 G3) (hY : More Z e0 tb kt) (n0 : Nat) (h0 : Heap) (O0 : Old Z n0 h0)   (ws : List Jvm.Cond) : Met l Z EL1 n0 NoB (⟨"java/lang/Math", "multiplyExact", "(II)I"⟩ : MethodName) jdk_29_method_28_code 4 (Option.some FieldType.int) RM_mx0 #[(.int (4 : Int32)), (.int (0 : Int32))] h0 (Q_mx0 Z G1 G3 e0 tb kt  h0 n0 NoB) ws := by
  have hX' := hX
  obtain ⟨hw, hE, S1, P1, S3, P3⟩ := hX'
  have hY' := hY
  obtain ⟨s_e, x_e, f_u, f_n, f_l, f_p, s_t, a_t⟩ := hY'
  have wT : ∀ (i : Nat) {d : Jvm.Cond}, tables_1[i]? = some d → d.before a0 Z = true := fun i d h => hw d (List.mem_of_getElem? h)
  have z0 : n0 ≤ h0.size := by rw [← O0.1]; exact O0.2.1
  refine Met.of (by decide +kernel) O0 hE ?_
  intro p e s m below meth c hx hby hml hret hlk hnm
  refine k_cast (ef_mx0 m (4 : Int32) (0 : Int32)) ?_
  refine k_pure (g' := (mkF m 4 #[.val (.int (4 : Int32)), .val (.int (0 : Int32)), .unset, .unset] [(.long (0 : Int64)), (.long (4 : Int64))])) (fun TT HH tt kk => XS.iloadN HH hx rfl (hb hby d88) rfl (XS.i2l HH hx rfl (hb hby d89) rfl (XS.iloadN HH hx rfl (hb hby d90) rfl (XS.i2l HH hx rfl (hb hby d91) rfl kk)))) ?_
  refine k_pure (g' := (mkF m 5 #[.val (.int (4 : Int32)), .val (.int (0 : Int32)), .unset, .unset] [(.long ((4 : Int64) * (0 : Int64)))])) (fun _ J _ j => XS.lmul J hx rfl (hb hby d92) rfl j) ?_
  rw [show ((4 : Int64) * (0 : Int64)) = (0 : Int64) from by decide]
  refine k_pure (g' := (mkF m 9 #[.val (.int (4 : Int32)), .val (.int (0 : Int32)), .val (.long (0 : Int64)), .second] [(.long (0 : Int64))])) (fun TT HH tt kk => XS.lstoreN HH hx rfl (hb hby d93) rfl (l' := #[.val (.int (4 : Int32)), .val (.int (0 : Int32)), .val (.long (0 : Int64)), .second]) rfl (XS.lloadN HH hx rfl (hb hby d94) rfl (XS.l2i HH hx rfl (hb hby d95) rfl (XS.i2l HH hx rfl (hb hby d96) rfl kk)))) ?_
  refine k_pure (g' := (mkF m 25 #[.val (.int (4 : Int32)), .val (.int (0 : Int32)), .val (.long (0 : Int64)), .second] [(.long (0 : Int64))])) (fun TT HH tt kk => XS.lloadN HH hx rfl (hb hby d97) rfl (XS.lcmp HH hx rfl (hb hby d98) rfl (XS.ifYes HH hx rfl (pc0 := 11) (pc' := 24) rfl (hb hby d99) rfl ((if0 _ _).trans (teq (by decide)).1) (by decide) (by decide) (XS.lloadN HH hx rfl (hb hby d100) rfl kk)))) ?_
  refine k_pure (g' := (mkF m 26 #[.val (.int (4 : Int32)), .val (.int (0 : Int32)), .val (.long (0 : Int64)), .second] [(.int (0 : Int32))])) (fun _ J _ j => XS.l2i J hx rfl (hb hby d101) rfl j) ?_
  exact k_retI hx hlk hret (hb hby d102) (by decide) (by decide) ⟨rfl, rfl, rfl⟩
def Q_mx1 (Z : State) (G1 : Int32) (G3 : Value) (e0 tb : Addr) (kt : ClassId)  (h0 : Heap) (n0 : Nat) (bk : Addr → Prop) (v : Option Value) (h : Heap) (bk' : Addr → Prop) : Prop := v = some (.int (4 : Int32)) ∧ h0 = h ∧ NoB = bk'
abbrev RM_mx1 : Room := { frames := 0, cells := 0, slots := 0, locals := 0 }
theorem ef_mx1 (m : MethodId) (x0 : Int32) (x1 : Int32) : entryFrame m #[(.int x0), (.int x1)] 4 = mkF m 0 #[.val (.int x0), .val (.int x1), .unset, .unset] [] := by first | (simp [entryFrame, mkF, argsToLocals, Value.category]; done) | rfl
set_option maxRecDepth 65536 in
set_option maxHeartbeats 40000000 in
theorem rm_mx1 (l : Launch) (Z : State) (a0 : Array Value) (G1 : Int32) (G3 : Value) (e0 tb : Addr) (kt : ClassId) (hX : Ctx Z a0 G1 G3) (hY : More Z e0 tb kt) (n0 : Nat) (h0 : Heap) (O0 : Old Z n0 h0)   (ws : List Jvm.Cond) : Met l Z EL1 n0 NoB (⟨"java/lang/Math", "multiplyExact", "(II)I"⟩ : MethodName) jdk_29_method_28_code 4 (Option.some FieldType.int) RM_mx1 #[(.int (4 : Int32)), (.int (1 : Int32))] h0 (Q_mx1 Z G1 G3 e0 tb kt  h0 n0 NoB) ws := by
  have hX' := hX
  obtain ⟨hw, hE, S1, P1, S3, P3⟩ := hX'
  have hY' := hY
  obtain ⟨s_e, x_e, f_u, f_n, f_l, f_p, s_t, a_t⟩ := hY'
  have wT : ∀ (i : Nat) {d : Jvm.Cond}, tables_1[i]? = some d → d.before a0 Z = true := fun i d h => hw d (List.mem_of_getElem? h)
  have z0 : n0 ≤ h0.size := by rw [← O0.1]; exact O0.2.1
  refine Met.of (by decide +kernel) O0 hE ?_
  intro p e s m below meth c hx hby hml hret hlk hnm
  refine k_cast (ef_mx1 m (4 : Int32) (1 : Int32)) ?_
  refine k_pure (g' := (mkF m 4 #[.val (.int (4 : Int32)), .val (.int (1 : Int32)), .unset, .unset] [(.long (1 : Int64)), (.long (4 : Int64))])) (fun TT HH tt kk => XS.iloadN HH hx rfl (hb hby d88) rfl (XS.i2l HH hx rfl (hb hby d89) rfl (XS.iloadN HH hx rfl (hb hby d90) rfl (XS.i2l HH hx rfl (hb hby d91) rfl kk)))) ?_
  refine k_pure (g' := (mkF m 5 #[.val (.int (4 : Int32)), .val (.int (1 : Int32)), .unset, .unset] [(.long ((4 : Int64) * (1 : Int64)))])) (fun _ J _ j => XS.lmul J hx rfl (hb hby d92) rfl j) ?_
  rw [show ((4 : Int64) * (1 : Int64)) = (4 : Int64) from by decide]
  refine k_pure (g' := (mkF m 9 #[.val (.int (4 : Int32)), .val (.int (1 : Int32)), .val (.long (4 : Int64)), .second] [(.long (4 : Int64))])) (fun TT HH tt kk => XS.lstoreN HH hx rfl (hb hby d93) rfl (l' := #[.val (.int (4 : Int32)), .val (.int (1 : Int32)), .val (.long (4 : Int64)), .second]) rfl (XS.lloadN HH hx rfl (hb hby d94) rfl (XS.l2i HH hx rfl (hb hby d95) rfl (XS.i2l HH hx rfl (hb hby d96) rfl kk)))) ?_
  refine k_pure (g' := (mkF m 25 #[.val (.int (4 : Int32)), .val (.int (1 : Int32)), .val (.long (4 : Int64)), .second] [(.long (4 : Int64))])) (fun TT HH tt kk => XS.lloadN HH hx rfl (hb hby d97) rfl (XS.lcmp HH hx rfl (hb hby d98) rfl (XS.ifYes HH hx rfl (pc0 := 11) (pc' := 24) rfl (hb hby d99) rfl ((if0 _ _).trans (teq (by decide)).1) (by decide) (by decide) (XS.lloadN HH hx rfl (hb hby d100) rfl kk)))) ?_
  refine k_pure (g' := (mkF m 26 #[.val (.int (4 : Int32)), .val (.int (1 : Int32)), .val (.long (4 : Int64)), .second] [(.int (4 : Int32))])) (fun _ J _ j => XS.l2i J hx rfl (hb hby d101) rfl j) ?_
  exact k_retI hx hlk hret (hb hby d102) (by decide) (by decide) ⟨rfl, rfl, rfl⟩
def Q_ax02 (Z : State) (G1 : Int32) (G3 : Value) (e0 tb : Addr) (kt : ClassId)  (h0 : Heap) (n0 : Nat) (bk : Addr → Prop) (v : Option Value) (h : Heap) (bk' : Addr → Prop) : Prop := v = some (.int (2 : Int32)) ∧ h0 = h ∧ NoB = bk'
theorem d103 : decode jdk_29_method_24_code 0 = .ok (.iload_n 0, 1) := by decide +kernel
theorem d104 : decode jdk_29_method_24_code 1 = .ok (.iload_n 1, 1) := by decide +kernel
theorem d105 : decode jdk_29_method_24_code 2 = .ok (.iadd, 1) := by decide +kernel
theorem d106 : decode jdk_29_method_24_code 3 = .ok (.istore_n 2, 1) := by decide +kernel
theorem d107 : decode jdk_29_method_24_code 4 = .ok (.iload_n 0, 1) := by decide +kernel
theorem d108 : decode jdk_29_method_24_code 5 = .ok (.iload_n 2, 1) := by decide +kernel
theorem d109 : decode jdk_29_method_24_code 6 = .ok (.ixor, 1) := by decide +kernel
theorem d110 : decode jdk_29_method_24_code 7 = .ok (.iload_n 1, 1) := by decide +kernel
theorem d111 : decode jdk_29_method_24_code 8 = .ok (.iload_n 2, 1) := by decide +kernel
theorem d112 : decode jdk_29_method_24_code 9 = .ok (.ixor, 1) := by decide +kernel
theorem d113 : decode jdk_29_method_24_code 10 = .ok (.iand, 1) := by decide +kernel
theorem d114 : decode jdk_29_method_24_code 11 = .ok (.ifCond .ge 13, 3) := by decide +kernel
theorem d115 : decode jdk_29_method_24_code 24 = .ok (.iload_n 2, 1) := by decide +kernel
theorem d116 : decode jdk_29_method_24_code 25 = .ok (.ireturn, 1) := by decide +kernel
abbrev RM_ax02 : Room := { frames := 0, cells := 0, slots := 0, locals := 0 }
theorem ef_ax02 (m : MethodId) (x0 : Int32) (x1 : Int32) : entryFrame m #[(.int x0), (.int x1)] 3 = mkF m 0 #[.val (.int x0), .val (.int x1), .unset] [] := by first | (simp [entryFrame, mkF, argsToLocals, Value.category]; done) | rfl
set_option maxRecDepth 65536 in
set_option maxHeartbeats 40000000 in
theorem rm_ax02 (l : Launch) (Z : State) (a0 : Array Value) (G1 : Int32) (G3 : Value) (e0 tb : Addr) (kt : ClassId) (hX : Ctx Z a0 G1 G3) (hY : More Z e0 tb kt) (n0 : Nat) (h0 : Heap) (O0 : Old Z n0 h0)   (ws : List Jvm.Cond) : Met l Z EL1 n0 NoB (⟨"java/lang/Math", "addExact", "(II)I"⟩ : MethodName) jdk_29_method_24_code 3 (Option.some FieldType.int) RM_ax02 #[(.int (0 : Int32)), (.int (2 : Int32))] h0 (Q_ax02 Z G1 G3 e0 tb kt  h0 n0 NoB) ws := by
  have hX' := hX
  obtain ⟨hw, hE, S1, P1, S3, P3⟩ := hX'
  have hY' := hY
  obtain ⟨s_e, x_e, f_u, f_n, f_l, f_p, s_t, a_t⟩ := hY'
  have wT : ∀ (i : Nat) {d : Jvm.Cond}, tables_1[i]? = some d → d.before a0 Z = true := fun i d h => hw d (List.mem_of_getElem? h)
  have z0 : n0 ≤ h0.size := by rw [← O0.1]; exact O0.2.1
  refine Met.of (by decide +kernel) O0 hE ?_
  intro p e s m below meth c hx hby hml hret hlk hnm
  refine k_cast (ef_ax02 m (0 : Int32) (2 : Int32)) ?_
  refine k_pure (g' := (mkF m 4 #[.val (.int (0 : Int32)), .val (.int (2 : Int32)), .val (.int (2 : Int32))] [])) (fun TT HH tt kk => XS.iloadN HH hx rfl (hb hby d103) rfl (XS.iloadN HH hx rfl (hb hby d104) rfl (XS.iadd HH hx rfl (hb hby d105) rfl (XS.istoreN HH hx rfl (hb hby d106) rfl (l' := #[.val (.int (0 : Int32)), .val (.int (2 : Int32)), .val (.int (2 : Int32))]) rfl kk)))) ?_
  refine k_pure (g' := (mkF m 8 #[.val (.int (0 : Int32)), .val (.int (2 : Int32)), .val (.int (2 : Int32))] [(.int (2 : Int32)), (.int (2 : Int32))])) (fun TT HH tt kk => XS.iloadN HH hx rfl (hb hby d107) rfl (XS.iloadN HH hx rfl (hb hby d108) rfl (XS.ixor HH hx rfl (hb hby d109) rfl (XS.iloadN HH hx rfl (hb hby d110) rfl kk)))) ?_
  refine k_pure (g' := (mkF m 24 #[.val (.int (0 : Int32)), .val (.int (2 : Int32)), .val (.int (2 : Int32))] [])) (fun TT HH tt kk => XS.iloadN HH hx rfl (hb hby d111) rfl (XS.ixor HH hx rfl (hb hby d112) rfl (XS.iand HH hx rfl (hb hby d113) rfl (XS.ifYes HH hx rfl (pc0 := 11) (pc' := 24) rfl (hb hby d114) rfl ((if0 _ _).trans (flt (by decide : ¬ ((0 : Int32) < (0 : Int32)))).2.1) (by decide) (by decide) kk)))) ?_
  refine k_pure (g' := (mkF m 25 #[.val (.int (0 : Int32)), .val (.int (2 : Int32)), .val (.int (2 : Int32))] [(.int (2 : Int32))])) (fun _ J _ j => XS.iloadN J hx rfl (hb hby d115) rfl j) ?_
  exact k_retI hx hlk hret (hb hby d116) (by decide) (by decide) ⟨rfl, rfl, rfl⟩
def Q_ax03 (Z : State) (G1 : Int32) (G3 : Value) (e0 tb : Addr) (kt : ClassId)  (h0 : Heap) (n0 : Nat) (bk : Addr → Prop) (v : Option Value) (h : Heap) (bk' : Addr → Prop) : Prop := v = some (.int (3 : Int32)) ∧ h0 = h ∧ NoB = bk'
abbrev RM_ax03 : Room := { frames := 0, cells := 0, slots := 0, locals := 0 }
theorem ef_ax03 (m : MethodId) (x0 : Int32) (x1 : Int32) : entryFrame m #[(.int x0), (.int x1)] 3 = mkF m 0 #[.val (.int x0), .val (.int x1), .unset] [] := by first | (simp [entryFrame, mkF, argsToLocals, Value.category]; done) | rfl
set_option maxRecDepth 65536 in
set_option maxHeartbeats 40000000 in
theorem rm_ax03 (l : Launch) (Z : State) (a0 : Array Value) (G1 : Int32) (G3 : Value) (e0 tb : Addr) (kt : ClassId) (hX : Ctx Z a0 G1 G3) (hY : More Z e0 tb kt) (n0 : Nat) (h0 : Heap) (O0 : Old Z n0 h0)   (ws : List Jvm.Cond) : Met l Z EL1 n0 NoB (⟨"java/lang/Math", "addExact", "(II)I"⟩ : MethodName) jdk_29_method_24_code 3 (Option.some FieldType.int) RM_ax03 #[(.int (0 : Int32)), (.int (3 : Int32))] h0 (Q_ax03 Z G1 G3 e0 tb kt  h0 n0 NoB) ws := by
  have hX' := hX
  obtain ⟨hw, hE, S1, P1, S3, P3⟩ := hX'
  have hY' := hY
  obtain ⟨s_e, x_e, f_u, f_n, f_l, f_p, s_t, a_t⟩ := hY'
  have wT : ∀ (i : Nat) {d : Jvm.Cond}, tables_1[i]? = some d → d.before a0 Z = true := fun i d h => hw d (List.mem_of_getElem? h)
  have z0 : n0 ≤ h0.size := by rw [← O0.1]; exact O0.2.1
  refine Met.of (by decide +kernel) O0 hE ?_
  intro p e s m below meth c hx hby hml hret hlk hnm
  refine k_cast (ef_ax03 m (0 : Int32) (3 : Int32)) ?_
  refine k_pure (g' := (mkF m 4 #[.val (.int (0 : Int32)), .val (.int (3 : Int32)), .val (.int (3 : Int32))] [])) (fun TT HH tt kk => XS.iloadN HH hx rfl (hb hby d103) rfl (XS.iloadN HH hx rfl (hb hby d104) rfl (XS.iadd HH hx rfl (hb hby d105) rfl (XS.istoreN HH hx rfl (hb hby d106) rfl (l' := #[.val (.int (0 : Int32)), .val (.int (3 : Int32)), .val (.int (3 : Int32))]) rfl kk)))) ?_
  refine k_pure (g' := (mkF m 8 #[.val (.int (0 : Int32)), .val (.int (3 : Int32)), .val (.int (3 : Int32))] [(.int (3 : Int32)), (.int (3 : Int32))])) (fun TT HH tt kk => XS.iloadN HH hx rfl (hb hby d107) rfl (XS.iloadN HH hx rfl (hb hby d108) rfl (XS.ixor HH hx rfl (hb hby d109) rfl (XS.iloadN HH hx rfl (hb hby d110) rfl kk)))) ?_
  refine k_pure (g' := (mkF m 24 #[.val (.int (0 : Int32)), .val (.int (3 : Int32)), .val (.int (3 : Int32))] [])) (fun TT HH tt kk => XS.iloadN HH hx rfl (hb hby d111) rfl (XS.ixor HH hx rfl (hb hby d112) rfl (XS.iand HH hx rfl (hb hby d113) rfl (XS.ifYes HH hx rfl (pc0 := 11) (pc' := 24) rfl (hb hby d114) rfl ((if0 _ _).trans (flt (by decide : ¬ ((0 : Int32) < (0 : Int32)))).2.1) (by decide) (by decide) kk)))) ?_
  refine k_pure (g' := (mkF m 25 #[.val (.int (0 : Int32)), .val (.int (3 : Int32)), .val (.int (3 : Int32))] [(.int (3 : Int32))])) (fun _ J _ j => XS.iloadN J hx rfl (hb hby d115) rfl j) ?_
  exact k_retI hx hlk hret (hb hby d116) (by decide) (by decide) ⟨rfl, rfl, rfl⟩
def Q_ax40 (Z : State) (G1 : Int32) (G3 : Value) (e0 tb : Addr) (kt : ClassId)  (h0 : Heap) (n0 : Nat) (bk : Addr → Prop) (v : Option Value) (h : Heap) (bk' : Addr → Prop) : Prop := v = some (.int (4 : Int32)) ∧ h0 = h ∧ NoB = bk'
abbrev RM_ax40 : Room := { frames := 0, cells := 0, slots := 0, locals := 0 }
theorem ef_ax40 (m : MethodId) (x0 : Int32) (x1 : Int32) : entryFrame m #[(.int x0), (.int x1)] 3 = mkF m 0 #[.val (.int x0), .val (.int x1), .unset] [] := by first | (simp [entryFrame, mkF, argsToLocals, Value.category]; done) | rfl
set_option maxRecDepth 65536 in
set_option maxHeartbeats 40000000 in
theorem rm_ax40 (l : Launch) (Z : State) (a0 : Array Value) (G1 : Int32) (G3 : Value) (e0 tb : Addr) (kt : ClassId) (hX : Ctx Z a0 G1 G3) (hY : More Z e0 tb kt) (n0 : Nat) (h0 : Heap) (O0 : Old Z n0 h0)   (ws : List Jvm.Cond) : Met l Z EL1 n0 NoB (⟨"java/lang/Math", "addExact", "(II)I"⟩ : MethodName) jdk_29_method_24_code 3 (Option.some FieldType.int) RM_ax40 #[(.int (4 : Int32)), (.int (0 : Int32))] h0 (Q_ax40 Z G1 G3 e0 tb kt  h0 n0 NoB) ws := by
  have hX' := hX
  obtain ⟨hw, hE, S1, P1, S3, P3⟩ := hX'
  have hY' := hY
  obtain ⟨s_e, x_e, f_u, f_n, f_l, f_p, s_t, a_t⟩ := hY'
  have wT : ∀ (i : Nat) {d : Jvm.Cond}, tables_1[i]? = some d → d.before a0 Z = true := fun i d h => hw d (List.mem_of_getElem? h)
  have z0 : n0 ≤ h0.size := by rw [← O0.1]; exact O0.2.1
  refine Met.of (by decide +kernel) O0 hE ?_
  intro p e s m below meth c hx hby hml hret hlk hnm
  refine k_cast (ef_ax40 m (4 : Int32) (0 : Int32)) ?_
  refine k_pure (g' := (mkF m 4 #[.val (.int (4 : Int32)), .val (.int (0 : Int32)), .val (.int (4 : Int32))] [])) (fun TT HH tt kk => XS.iloadN HH hx rfl (hb hby d103) rfl (XS.iloadN HH hx rfl (hb hby d104) rfl (XS.iadd HH hx rfl (hb hby d105) rfl (XS.istoreN HH hx rfl (hb hby d106) rfl (l' := #[.val (.int (4 : Int32)), .val (.int (0 : Int32)), .val (.int (4 : Int32))]) rfl kk)))) ?_
  refine k_pure (g' := (mkF m 8 #[.val (.int (4 : Int32)), .val (.int (0 : Int32)), .val (.int (4 : Int32))] [(.int (0 : Int32)), (.int (0 : Int32))])) (fun TT HH tt kk => XS.iloadN HH hx rfl (hb hby d107) rfl (XS.iloadN HH hx rfl (hb hby d108) rfl (XS.ixor HH hx rfl (hb hby d109) rfl (XS.iloadN HH hx rfl (hb hby d110) rfl kk)))) ?_
  refine k_pure (g' := (mkF m 24 #[.val (.int (4 : Int32)), .val (.int (0 : Int32)), .val (.int (4 : Int32))] [])) (fun TT HH tt kk => XS.iloadN HH hx rfl (hb hby d111) rfl (XS.ixor HH hx rfl (hb hby d112) rfl (XS.iand HH hx rfl (hb hby d113) rfl (XS.ifYes HH hx rfl (pc0 := 11) (pc' := 24) rfl (hb hby d114) rfl ((if0 _ _).trans (flt (by decide : ¬ ((0 : Int32) < (0 : Int32)))).2.1) (by decide) (by decide) kk)))) ?_
  refine k_pure (g' := (mkF m 25 #[.val (.int (4 : Int32)), .val (.int (0 : Int32)), .val (.int (4 : Int32))] [(.int (4 : Int32))])) (fun _ J _ j => XS.iloadN J hx rfl (hb hby d115) rfl j) ?_
  exact k_retI hx hlk hret (hb hby d116) (by decide) (by decide) ⟨rfl, rfl, rfl⟩
def Q_ax42 (Z : State) (G1 : Int32) (G3 : Value) (e0 tb : Addr) (kt : ClassId)  (h0 : Heap) (n0 : Nat) (bk : Addr → Prop) (v : Option Value) (h : Heap) (bk' : Addr → Prop) : Prop := v = some (.int (6 : Int32)) ∧ h0 = h ∧ NoB = bk'
abbrev RM_ax42 : Room := { frames := 0, cells := 0, slots := 0, locals := 0 }
theorem ef_ax42 (m : MethodId) (x0 : Int32) (x1 : Int32) : entryFrame m #[(.int x0), (.int x1)] 3 = mkF m 0 #[.val (.int x0), .val (.int x1), .unset] [] := by first | (simp [entryFrame, mkF, argsToLocals, Value.category]; done) | rfl
set_option maxRecDepth 65536 in
set_option maxHeartbeats 40000000 in
theorem rm_ax42 (l : Launch) (Z : State) (a0 : Array Value) (G1 : Int32) (G3 : Value) (e0 tb : Addr) (kt : ClassId) (hX : Ctx Z a0 G1 G3) (hY : More Z e0 tb kt) (n0 : Nat) (h0 : Heap) (O0 : Old Z n0 h0)   (ws : List Jvm.Cond) : Met l Z EL1 n0 NoB (⟨"java/lang/Math", "addExact", "(II)I"⟩ : MethodName) jdk_29_method_24_code 3 (Option.some FieldType.int) RM_ax42 #[(.int (4 : Int32)), (.int (2 : Int32))] h0 (Q_ax42 Z G1 G3 e0 tb kt  h0 n0 NoB) ws := by
  have hX' := hX
  obtain ⟨hw, hE, S1, P1, S3, P3⟩ := hX'
  have hY' := hY
  obtain ⟨s_e, x_e, f_u, f_n, f_l, f_p, s_t, a_t⟩ := hY'
  have wT : ∀ (i : Nat) {d : Jvm.Cond}, tables_1[i]? = some d → d.before a0 Z = true := fun i d h => hw d (List.mem_of_getElem? h)
  have z0 : n0 ≤ h0.size := by rw [← O0.1]; exact O0.2.1
  refine Met.of (by decide +kernel) O0 hE ?_
  intro p e s m below meth c hx hby hml hret hlk hnm
  refine k_cast (ef_ax42 m (4 : Int32) (2 : Int32)) ?_
  refine k_pure (g' := (mkF m 4 #[.val (.int (4 : Int32)), .val (.int (2 : Int32)), .val (.int (6 : Int32))] [])) (fun TT HH tt kk => XS.iloadN HH hx rfl (hb hby d103) rfl (XS.iloadN HH hx rfl (hb hby d104) rfl (XS.iadd HH hx rfl (hb hby d105) rfl (XS.istoreN HH hx rfl (hb hby d106) rfl (l' := #[.val (.int (4 : Int32)), .val (.int (2 : Int32)), .val (.int (6 : Int32))]) rfl kk)))) ?_
  refine k_pure (g' := (mkF m 8 #[.val (.int (4 : Int32)), .val (.int (2 : Int32)), .val (.int (6 : Int32))] [(.int (2 : Int32)), (.int (2 : Int32))])) (fun TT HH tt kk => XS.iloadN HH hx rfl (hb hby d107) rfl (XS.iloadN HH hx rfl (hb hby d108) rfl (XS.ixor HH hx rfl (hb hby d109) rfl (XS.iloadN HH hx rfl (hb hby d110) rfl kk)))) ?_
  refine k_pure (g' := (mkF m 24 #[.val (.int (4 : Int32)), .val (.int (2 : Int32)), .val (.int (6 : Int32))] [])) (fun TT HH tt kk => XS.iloadN HH hx rfl (hb hby d111) rfl (XS.ixor HH hx rfl (hb hby d112) rfl (XS.iand HH hx rfl (hb hby d113) rfl (XS.ifYes HH hx rfl (pc0 := 11) (pc' := 24) rfl (hb hby d114) rfl ((if0 _ _).trans (flt (by decide : ¬ ((0 : Int32) < (0 : Int32)))).2.1) (by decide) (by decide) kk)))) ?_
  refine k_pure (g' := (mkF m 25 #[.val (.int (4 : Int32)), .val (.int (2 : Int32)), .val (.int (6 : Int32))] [(.int (6 : Int32))])) (fun _ J _ j => XS.iloadN J hx rfl (hb hby d115) rfl j) ?_
  exact k_retI hx hlk hret (hb hby d116) (by decide) (by decide) ⟨rfl, rfl, rfl⟩
def Q_mn33 (Z : State) (G1 : Int32) (G3 : Value) (e0 tb : Addr) (kt : ClassId)  (h0 : Heap) (n0 : Nat) (bk : Addr → Prop) (v : Option Value) (h : Heap) (bk' : Addr → Prop) : Prop := v = some (.int (3 : Int32)) ∧ h0 = h ∧ NoB = bk'
theorem d117 : decode jdk_29_method_69_code 0 = .ok (.iload_n 0, 1) := by decide +kernel
theorem d118 : decode jdk_29_method_69_code 1 = .ok (.iload_n 1, 1) := by decide +kernel
theorem d119 : decode jdk_29_method_69_code 2 = .ok (.if_icmp .gt 7, 3) := by decide +kernel
theorem d120 : decode jdk_29_method_69_code 5 = .ok (.iload_n 0, 1) := by decide +kernel
theorem d121 : decode jdk_29_method_69_code 6 = .ok (.goto 4, 3) := by decide +kernel
theorem d122 : decode jdk_29_method_69_code 10 = .ok (.ireturn, 1) := by decide +kernel
abbrev RM_mn33 : Room := { frames := 0, cells := 0, slots := 0, locals := 0 }
theorem ef_mn33 (m : MethodId) (x0 : Int32) (x1 : Int32) : entryFrame m #[(.int x0), (.int x1)] 2 = mkF m 0 #[.val (.int x0), .val (.int x1)] [] := by first | (simp [entryFrame, mkF, argsToLocals, Value.category]; done) | rfl
set_option maxRecDepth 65536 in
set_option maxHeartbeats 40000000 in
theorem rm_mn33 (l : Launch) (Z : State) (a0 : Array Value) (G1 : Int32) (G3 : Value) (e0 tb : Addr) (kt : ClassId) (hX : Ctx Z a0 G1 G3) (hY : More Z e0 tb kt) (n0 : Nat) (h0 : Heap) (O0 : Old Z n0 h0)   (ws : List Jvm.Cond) : Met l Z EL1 n0 NoB (⟨"java/lang/Math", "min", "(II)I"⟩ : MethodName) jdk_29_method_69_code 2 (Option.some FieldType.int) RM_mn33 #[(.int (3 : Int32)), (.int (3 : Int32))] h0 (Q_mn33 Z G1 G3 e0 tb kt  h0 n0 NoB) ws := by
  have hX' := hX
  obtain ⟨hw, hE, S1, P1, S3, P3⟩ := hX'
  have hY' := hY
  obtain ⟨s_e, x_e, f_u, f_n, f_l, f_p, s_t, a_t⟩ := hY'
  have wT : ∀ (i : Nat) {d : Jvm.Cond}, tables_1[i]? = some d → d.before a0 Z = true := fun i d h => hw d (List.mem_of_getElem? h)
  have z0 : n0 ≤ h0.size := by rw [← O0.1]; exact O0.2.1
  refine Met.of (by decide +kernel) O0 hE ?_
  intro p e s m below meth c hx hby hml hret hlk hnm
  refine k_cast (ef_mn33 m (3 : Int32) (3 : Int32)) ?_
  refine k_pure (g' := (mkF m 6 #[.val (.int (3 : Int32)), .val (.int (3 : Int32))] [(.int (3 : Int32))])) (fun TT HH tt kk => XS.iloadN HH hx rfl (hb hby d117) rfl (XS.iloadN HH hx rfl (hb hby d118) rfl (XS.icmpNo HH hx rfl (hb hby d119) rfl (flt (by decide : ¬ ((3 : Int32) < (3 : Int32)))).2.2.1 (XS.iloadN HH hx rfl (hb hby d120) rfl kk)))) ?_
  refine k_pure (g' := (mkF m 10 #[.val (.int (3 : Int32)), .val (.int (3 : Int32))] [(.int (3 : Int32))])) (fun _ J _ j => XS.goto J hx rfl (pc0 := 6) (pc' := 10) rfl (hb hby d121) (by decide) (by decide) j) ?_
  exact k_retI hx hlk hret (hb hby d122) (by decide) (by decide) ⟨rfl, rfl, rfl⟩
def Q_eol0 (Z : State) (G1 : Int32) (G3 : Value) (e0 tb : Addr) (kt : ClassId) (x : Addr) (h0 : Heap) (n0 : Nat) (bk : Addr → Prop) (v : Option Value) (h : Heap) (bk' : Addr → Prop) : Prop := v = some (.int (2 : Int32)) ∧ h0 = h ∧ NoB = bk'
theorem d123 : decode jdk_2452_method_2_code 0 = .ok (.iconst 0, 1) := by decide +kernel
theorem d124 : decode jdk_2452_method_2_code 1 = .ok (.istore_n 3, 1) := by decide +kernel
theorem d125 : decode jdk_2452_method_2_code 2 = .ok (.aload_n 0, 1) := by decide +kernel
theorem d126 : decode jdk_2452_method_2_code 3 = .ok (.getfield 21, 3) := by decide +kernel
theorem d127 : decode jdk_2452_method_2_code 6 = .ok (.ifCond .eq 18, 3) := by decide +kernel
theorem d128 : decode jdk_2452_method_2_code 24 = .ok (.iload_n 1, 1) := by decide +kernel
theorem d129 : decode jdk_2452_method_2_code 25 = .ok (.iconst 3, 1) := by decide +kernel
theorem d130 : decode jdk_2452_method_2_code 26 = .ok (.irem, 1) := by decide +kernel
theorem d131 : decode jdk_2452_method_2_code 27 = .ok (.istore 4, 2) := by decide +kernel
theorem d132 : decode jdk_2452_method_2_code 29 = .ok (.iconst 4, 1) := by decide +kernel
theorem d133 : decode jdk_2452_method_2_code 30 = .ok (.iload_n 1, 1) := by decide +kernel
theorem d134 : decode jdk_2452_method_2_code 31 = .ok (.iconst 3, 1) := by decide +kernel
theorem d135 : decode jdk_2452_method_2_code 32 = .ok (.idiv, 1) := by decide +kernel
theorem d136 : decode jdk_2452_method_2_code 33 = .ok (.invokestatic 30, 3) := by decide +kernel
theorem pd__28_II_29_I : parseMethodDescriptor "(II)I" = some ⟨[.int, .int], some .int⟩ := by decide +kernel
theorem d137 : decode jdk_2452_method_2_code 36 = .ok (.iload 4, 2) := by decide +kernel
theorem d138 : decode jdk_2452_method_2_code 38 = .ok (.ifCond .ne 7, 3) := by decide +kernel
theorem d139 : decode jdk_2452_method_2_code 45 = .ok (.iload 4, 2) := by decide +kernel
theorem d140 : decode jdk_2452_method_2_code 47 = .ok (.iconst 1, 1) := by decide +kernel
theorem d141 : decode jdk_2452_method_2_code 48 = .ok (.iadd, 1) := by decide +kernel
theorem d142 : decode jdk_2452_method_2_code 49 = .ok (.invokestatic 24, 3) := by decide +kernel
theorem d143 : decode jdk_2452_method_2_code 52 = .ok (.istore_n 3, 1) := by decide +kernel
theorem d144 : decode jdk_2452_method_2_code 53 = .ok (.aload_n 0, 1) := by decide +kernel
theorem d145 : decode jdk_2452_method_2_code 54 = .ok (.getfield 17, 3) := by decide +kernel
theorem d146 : decode jdk_2452_method_2_code 57 = .ok (.ifCond .le 22, 3) := by decide +kernel
theorem d147 : decode jdk_2452_method_2_code 79 = .ok (.goto 21, 3) := by decide +kernel
theorem d148 : decode jdk_2452_method_2_code 100 = .ok (.iload_n 3, 1) := by decide +kernel
theorem d149 : decode jdk_2452_method_2_code 101 = .ok (.ireturn, 1) := by decide +kernel
abbrev RM_eol0 : Room := { frames := 1, cells := 0, slots := 0, locals := 15 }
theorem ef_eol0 (m : MethodId) (x0 : Addr) (x1 : Int32) (x2 : Int32) : entryFrame m #[(.ref x0), (.int x1), (.int x2)] 5 = mkF m 0 #[.val (.ref x0), .val (.int x1), .val (.int x2), .unset, .unset] [] := by first | (simp [entryFrame, mkF, argsToLocals, Value.category]; done) | rfl
set_option maxRecDepth 65536 in
set_option maxHeartbeats 40000000 in
theorem rm_eol0 (l : Launch) (Z : State) (a0 : Array Value) (G1 : Int32) (G3 : Value) (e0 tb : Addr) (kt : ClassId) (hX : Ctx Z a0 G1 G3) (hY : More Z e0 tb kt) (n0 : Nat) (h0 : Heap) (O0 : Old Z n0 h0) (x : Addr) (pf_0 : Fld Z h0 x "java/util/Base64$Encoder" "doPadding" "Z" (.int (0 : Int32))) (pf_1 : Fld Z h0 x "java/util/Base64$Encoder" "linemax" "I" (.int ((-1) : Int32))) (ws : List Jvm.Cond) : MetH l Z EL1 n0 NoB (⟨"java/util/Base64$Encoder", "encodedOutLength", "(IZ)I"⟩ : MethodName) jdk_2452_method_2_code 5 (Option.some FieldType.int) [(2, 79, 82, 33)] RM_eol0 #[(.ref x), (.int (1 : Int32)), (.int (1 : Int32))] h0 (Q_eol0 Z G1 G3 e0 tb kt x h0 n0 NoB) ws := by
  have hX' := hX
  obtain ⟨hw, hE, S1, P1, S3, P3⟩ := hX'
  have hY' := hY
  obtain ⟨s_e, x_e, f_u, f_n, f_l, f_p, s_t, a_t⟩ := hY'
  have wT : ∀ (i : Nat) {d : Jvm.Cond}, tables_1[i]? = some d → d.before a0 Z = true := fun i d h => hw d (List.mem_of_getElem? h)
  have z0 : n0 ≤ h0.size := by rw [← O0.1]; exact O0.2.1
  refine MetH.of (by decide +kernel) O0 hE ?_
  intro p e s m below meth c hx hby hml hret hlk hnm
  refine k_cast (ef_eol0 m x (1 : Int32) (1 : Int32)) ?_
  show Run p l e _ s m _ below meth c Z EL1 _ n0 NoB h0 0 0 (mkF m 0 #[.val (.ref x), .val (.int (1 : Int32)), .val (.int (1 : Int32)), .unset, .unset] []) _
  have lt_1 : @LT.lt Nat _ x (Array.size h0) := pf_0.lt
  have lt_2 : @LT.lt Nat _ x (Array.size h0) := pf_1.lt
  refine k_pure (g' := (mkF m 3 #[.val (.ref x), .val (.int (1 : Int32)), .val (.int (1 : Int32)), .val (.int (0 : Int32)), .unset] [(.ref x)])) (fun TT HH tt kk => XS.iconst HH hx rfl (hb hby d123) (XS.istoreN HH hx rfl (hb hby d124) rfl (l' := #[.val (.ref x), .val (.int (1 : Int32)), .val (.int (1 : Int32)), .val (.int (0 : Int32)), .unset]) rfl (XS.aloadN HH hx rfl (hb hby d125) rfl rfl kk))) ?_
  refine k_getF hx (host := "") (Or.inl (wT 41 rfl)) Via.refl pf_0 rfl rfl (hb hby d126) ?_
  refine k_pure (g' := (mkF m 27 #[.val (.ref x), .val (.int (1 : Int32)), .val (.int (1 : Int32)), .val (.int (0 : Int32)), .unset] [(.int (1 : Int32))])) (fun TT HH tt kk => XS.ifYes HH hx rfl (pc0 := 6) (pc' := 24) rfl (hb hby d127) rfl ((if0 _ _).trans (teq (by decide : ((0 : Int32) = (0 : Int32)))).1) (by decide) (by decide) (XS.iloadN HH hx rfl (hb hby d128) rfl (XS.iconst HH hx rfl (hb hby d129) (s_irem HH hx rfl (hb hby d130) rfl (by decide) kk)))) ?_
  refine k_pure (g' := (mkF m 32 #[.val (.ref x), .val (.int (1 : Int32)), .val (.int (1 : Int32)), .val (.int (0 : Int32)), .val (.int (1 : Int32))] [(.int (3 : Int32)), (.int (1 : Int32)), (.int (4 : Int32))])) (fun TT HH tt kk => XS.istore HH hx rfl (hb hby d131) rfl (l' := #[.val (.ref x), .val (.int (1 : Int32)), .val (.int (1 : Int32)), .val (.int (0 : Int32)), .val (.int (1 : Int32))]) rfl (XS.iconst HH hx rfl (hb hby d132) (XS.iloadN HH hx rfl (hb hby d133) rfl (XS.iconst HH hx rfl (hb hby d134) kk)))) ?_
  refine k_pure (g' := (mkF m 33 #[.val (.ref x), .val (.int (1 : Int32)), .val (.int (1 : Int32)), .val (.int (0 : Int32)), .val (.int (1 : Int32))] [(.int (0 : Int32)), (.int (4 : Int32))])) (fun _ J _ j => XS.idiv J hx rfl (hb hby d135) rfl (by decide) j) ?_
  refine k_callS hx (y := (⟨"java/lang/Math", "multiplyExact", "(II)I"⟩ : MethodName)) (wT 71 rfl) (wT 72 rfl) (wT 73 rfl) (wT 74 rfl) (by decide) (W := 0) (argsL := [(.int (4 : Int32)), (.int (0 : Int32))]) (rest := []) (Pays.of_met (rm_mx0 l Z a0 G1 G3 e0 tb kt hX hY n0 h0 O0   []) (wT 74 rfl) (wT 73 rfl) (by decide) (by decide)) rfl (by rw [hml]; rfl) (lenOf pd__28_II_29_I rfl) rfl (by show 2 * 0 + _ ≤ _; exact Nat.le_of_eq rfl) (hb hby d136) (by decide) (by decide) ?_
  intro v_3 h_4 bk_5 O_6 z_7 Q_8
  obtain ⟨rfl, rfl, rfl⟩ := Q_8
  refine k_pure (g' := (mkF m 48 #[.val (.ref x), .val (.int (1 : Int32)), .val (.int (1 : Int32)), .val (.int (0 : Int32)), .val (.int (1 : Int32))] [(.int (1 : Int32)), (.int (1 : Int32)), (.int (0 : Int32))])) (fun TT HH tt kk => XS.iload HH hx rfl (hb hby d137) rfl (XS.ifYes HH hx rfl (pc0 := 38) (pc' := 45) rfl (hb hby d138) rfl ((if0 _ _).trans (feq (by decide : ¬ ((1 : Int32) = (0 : Int32)))).2) (by decide) (by decide) (XS.iload HH hx rfl (hb hby d139) rfl (XS.iconst HH hx rfl (hb hby d140) kk)))) ?_
  refine k_pure (g' := (mkF m 49 #[.val (.ref x), .val (.int (1 : Int32)), .val (.int (1 : Int32)), .val (.int (0 : Int32)), .val (.int (1 : Int32))] [(.int (2 : Int32)), (.int (0 : Int32))])) (fun _ J _ j => XS.iadd J hx rfl (hb hby d141) rfl j) ?_
  refine k_callS hx (y := (⟨"java/lang/Math", "addExact", "(II)I"⟩ : MethodName)) (wT 75 rfl) (wT 76 rfl) (wT 73 rfl) (wT 77 rfl) (by decide) (W := 0) (argsL := [(.int (0 : Int32)), (.int (2 : Int32))]) (rest := []) (Pays.of_met (rm_ax02 l Z a0 G1 G3 e0 tb kt hX hY n0 h0 O0   []) (wT 77 rfl) (wT 73 rfl) (by decide) (by decide)) rfl (by rw [hml]; rfl) (lenOf pd__28_II_29_I rfl) rfl (by show 2 * 0 + _ ≤ _; exact Nat.le_of_eq rfl) (hb hby d142) (by decide) (by decide) ?_
  intro v_9 h_10 bk_11 O_12 z_13 Q_14
  obtain ⟨rfl, rfl, rfl⟩ := Q_14
  refine k_pure (g' := (mkF m 54 #[.val (.ref x), .val (.int (1 : Int32)), .val (.int (1 : Int32)), .val (.int (2 : Int32)), .val (.int (1 : Int32))] [(.ref x)])) (fun TT HH tt kk => XS.istoreN HH hx rfl (hb hby d143) rfl (l' := #[.val (.ref x), .val (.int (1 : Int32)), .val (.int (1 : Int32)), .val (.int (2 : Int32)), .val (.int (1 : Int32))]) rfl (XS.aloadN HH hx rfl (hb hby d144) rfl rfl kk)) ?_
  refine k_getF hx (host := "") (Or.inl (wT 49 rfl)) Via.refl pf_1 rfl rfl (hb hby d145) ?_
  refine k_pure (g' := (mkF m 101 #[.val (.ref x), .val (.int (1 : Int32)), .val (.int (1 : Int32)), .val (.int (2 : Int32)), .val (.int (1 : Int32))] [(.int (2 : Int32))])) (fun TT HH tt kk => XS.ifYes HH hx rfl (pc0 := 57) (pc' := 79) rfl (hb hby d146) rfl ((if0 _ _).trans (flt (by decide : ¬ ((0 : Int32) < ((-1) : Int32)))).2.2.2) (by decide) (by decide) (XS.goto HH hx rfl (pc0 := 79) (pc' := 100) rfl (hb hby d147) (by decide) (by decide) (XS.iloadN HH hx rfl (hb hby d148) rfl kk))) ?_
  exact k_retI hx hlk hret (hb hby d149) (by decide) (by decide) ⟨rfl, rfl, rfl⟩
def Q_eol1 (Z : State) (G1 : Int32) (G3 : Value) (e0 tb : Addr) (kt : ClassId) (x : Addr) (h0 : Heap) (n0 : Nat) (bk : Addr → Prop) (v : Option Value) (h : Heap) (bk' : Addr → Prop) : Prop := v = some (.int (3 : Int32)) ∧ h0 = h ∧ NoB = bk'
abbrev RM_eol1 : Room := { frames := 1, cells := 0, slots := 0, locals := 15 }
theorem ef_eol1 (m : MethodId) (x0 : Addr) (x1 : Int32) (x2 : Int32) : entryFrame m #[(.ref x0), (.int x1), (.int x2)] 5 = mkF m 0 #[.val (.ref x0), .val (.int x1), .val (.int x2), .unset, .unset] [] := by first | (simp [entryFrame, mkF, argsToLocals, Value.category]; done) | rfl
set_option maxRecDepth 65536 in
set_option maxHeartbeats 40000000 in
theorem rm_eol1 (l : Launch) (Z : State) (a0 : Array Value) (G1 : Int32) (G3 : Value) (e0 tb : Addr) (kt : ClassId) (hX : Ctx Z a0 G1 G3) (hY : More Z e0 tb kt) (n0 : Nat) (h0 : Heap) (O0 : Old Z n0 h0) (x : Addr) (pf_0 : Fld Z h0 x "java/util/Base64$Encoder" "doPadding" "Z" (.int (0 : Int32))) (pf_1 : Fld Z h0 x "java/util/Base64$Encoder" "linemax" "I" (.int ((-1) : Int32))) (ws : List Jvm.Cond) : MetH l Z EL1 n0 NoB (⟨"java/util/Base64$Encoder", "encodedOutLength", "(IZ)I"⟩ : MethodName) jdk_2452_method_2_code 5 (Option.some FieldType.int) [(2, 79, 82, 33)] RM_eol1 #[(.ref x), (.int (2 : Int32)), (.int (1 : Int32))] h0 (Q_eol1 Z G1 G3 e0 tb kt x h0 n0 NoB) ws := by
  have hX' := hX
  obtain ⟨hw, hE, S1, P1, S3, P3⟩ := hX'
  have hY' := hY
  obtain ⟨s_e, x_e, f_u, f_n, f_l, f_p, s_t, a_t⟩ := hY'
  have wT : ∀ (i : Nat) {d : Jvm.Cond}, tables_1[i]? = some d → d.before a0 Z = true := fun i d h => hw d (List.mem_of_getElem? h)
  have z0 : n0 ≤ h0.size := by rw [← O0.1]; exact O0.2.1
  refine MetH.of (by decide +kernel) O0 hE ?_
  intro p e s m below meth c hx hby hml hret hlk hnm
  refine k_cast (ef_eol1 m x (2 : Int32) (1 : Int32)) ?_
  show Run p l e _ s m _ below meth c Z EL1 _ n0 NoB h0 0 0 (mkF m 0 #[.val (.ref x), .val (.int (2 : Int32)), .val (.int (1 : Int32)), .unset, .unset] []) _
  have lt_1 : @LT.lt Nat _ x (Array.size h0) := pf_0.lt
  have lt_2 : @LT.lt Nat _ x (Array.size h0) := pf_1.lt
  refine k_pure (g' := (mkF m 3 #[.val (.ref x), .val (.int (2 : Int32)), .val (.int (1 : Int32)), .val (.int (0 : Int32)), .unset] [(.ref x)])) (fun TT HH tt kk => XS.iconst HH hx rfl (hb hby d123) (XS.istoreN HH hx rfl (hb hby d124) rfl (l' := #[.val (.ref x), .val (.int (2 : Int32)), .val (.int (1 : Int32)), .val (.int (0 : Int32)), .unset]) rfl (XS.aloadN HH hx rfl (hb hby d125) rfl rfl kk))) ?_
  refine k_getF hx (host := "") (Or.inl (wT 41 rfl)) Via.refl pf_0 rfl rfl (hb hby d126) ?_
  refine k_pure (g' := (mkF m 27 #[.val (.ref x), .val (.int (2 : Int32)), .val (.int (1 : Int32)), .val (.int (0 : Int32)), .unset] [(.int (2 : Int32))])) (fun TT HH tt kk => XS.ifYes HH hx rfl (pc0 := 6) (pc' := 24) rfl (hb hby d127) rfl ((if0 _ _).trans (teq (by decide : ((0 : Int32) = (0 : Int32)))).1) (by decide) (by decide) (XS.iloadN HH hx rfl (hb hby d128) rfl (XS.iconst HH hx rfl (hb hby d129) (s_irem HH hx rfl (hb hby d130) rfl (by decide) kk)))) ?_
  refine k_pure (g' := (mkF m 32 #[.val (.ref x), .val (.int (2 : Int32)), .val (.int (1 : Int32)), .val (.int (0 : Int32)), .val (.int (2 : Int32))] [(.int (3 : Int32)), (.int (2 : Int32)), (.int (4 : Int32))])) (fun TT HH tt kk => XS.istore HH hx rfl (hb hby d131) rfl (l' := #[.val (.ref x), .val (.int (2 : Int32)), .val (.int (1 : Int32)), .val (.int (0 : Int32)), .val (.int (2 : Int32))]) rfl (XS.iconst HH hx rfl (hb hby d132) (XS.iloadN HH hx rfl (hb hby d133) rfl (XS.iconst HH hx rfl (hb hby d134) kk)))) ?_
  refine k_pure (g' := (mkF m 33 #[.val (.ref x), .val (.int (2 : Int32)), .val (.int (1 : Int32)), .val (.int (0 : Int32)), .val (.int (2 : Int32))] [(.int (0 : Int32)), (.int (4 : Int32))])) (fun _ J _ j => XS.idiv J hx rfl (hb hby d135) rfl (by decide) j) ?_
  refine k_callS hx (y := (⟨"java/lang/Math", "multiplyExact", "(II)I"⟩ : MethodName)) (wT 71 rfl) (wT 72 rfl) (wT 73 rfl) (wT 74 rfl) (by decide) (W := 0) (argsL := [(.int (4 : Int32)), (.int (0 : Int32))]) (rest := []) (Pays.of_met (rm_mx0 l Z a0 G1 G3 e0 tb kt hX hY n0 h0 O0   []) (wT 74 rfl) (wT 73 rfl) (by decide) (by decide)) rfl (by rw [hml]; rfl) (lenOf pd__28_II_29_I rfl) rfl (by show 2 * 0 + _ ≤ _; exact Nat.le_of_eq rfl) (hb hby d136) (by decide) (by decide) ?_
  intro v_3 h_4 bk_5 O_6 z_7 Q_8
  obtain ⟨rfl, rfl, rfl⟩ := Q_8
  refine k_pure (g' := (mkF m 48 #[.val (.ref x), .val (.int (2 : Int32)), .val (.int (1 : Int32)), .val (.int (0 : Int32)), .val (.int (2 : Int32))] [(.int (1 : Int32)), (.int (2 : Int32)), (.int (0 : Int32))])) (fun TT HH tt kk => XS.iload HH hx rfl (hb hby d137) rfl (XS.ifYes HH hx rfl (pc0 := 38) (pc' := 45) rfl (hb hby d138) rfl ((if0 _ _).trans (feq (by decide : ¬ ((2 : Int32) = (0 : Int32)))).2) (by decide) (by decide) (XS.iload HH hx rfl (hb hby d139) rfl (XS.iconst HH hx rfl (hb hby d140) kk)))) ?_
  refine k_pure (g' := (mkF m 49 #[.val (.ref x), .val (.int (2 : Int32)), .val (.int (1 : Int32)), .val (.int (0 : Int32)), .val (.int (2 : Int32))] [(.int (3 : Int32)), (.int (0 : Int32))])) (fun _ J _ j => XS.iadd J hx rfl (hb hby d141) rfl j) ?_
  refine k_callS hx (y := (⟨"java/lang/Math", "addExact", "(II)I"⟩ : MethodName)) (wT 75 rfl) (wT 76 rfl) (wT 73 rfl) (wT 77 rfl) (by decide) (W := 0) (argsL := [(.int (0 : Int32)), (.int (3 : Int32))]) (rest := []) (Pays.of_met (rm_ax03 l Z a0 G1 G3 e0 tb kt hX hY n0 h0 O0   []) (wT 77 rfl) (wT 73 rfl) (by decide) (by decide)) rfl (by rw [hml]; rfl) (lenOf pd__28_II_29_I rfl) rfl (by show 2 * 0 + _ ≤ _; exact Nat.le_of_eq rfl) (hb hby d142) (by decide) (by decide) ?_
  intro v_9 h_10 bk_11 O_12 z_13 Q_14
  obtain ⟨rfl, rfl, rfl⟩ := Q_14
  refine k_pure (g' := (mkF m 54 #[.val (.ref x), .val (.int (2 : Int32)), .val (.int (1 : Int32)), .val (.int (3 : Int32)), .val (.int (2 : Int32))] [(.ref x)])) (fun TT HH tt kk => XS.istoreN HH hx rfl (hb hby d143) rfl (l' := #[.val (.ref x), .val (.int (2 : Int32)), .val (.int (1 : Int32)), .val (.int (3 : Int32)), .val (.int (2 : Int32))]) rfl (XS.aloadN HH hx rfl (hb hby d144) rfl rfl kk)) ?_
  refine k_getF hx (host := "") (Or.inl (wT 49 rfl)) Via.refl pf_1 rfl rfl (hb hby d145) ?_
  refine k_pure (g' := (mkF m 101 #[.val (.ref x), .val (.int (2 : Int32)), .val (.int (1 : Int32)), .val (.int (3 : Int32)), .val (.int (2 : Int32))] [(.int (3 : Int32))])) (fun TT HH tt kk => XS.ifYes HH hx rfl (pc0 := 57) (pc' := 79) rfl (hb hby d146) rfl ((if0 _ _).trans (flt (by decide : ¬ ((0 : Int32) < ((-1) : Int32)))).2.2.2) (by decide) (by decide) (XS.goto HH hx rfl (pc0 := 79) (pc' := 100) rfl (hb hby d147) (by decide) (by decide) (XS.iloadN HH hx rfl (hb hby d148) rfl kk))) ?_
  exact k_retI hx hlk hret (hb hby d149) (by decide) (by decide) ⟨rfl, rfl, rfl⟩
def Q_eol2 (Z : State) (G1 : Int32) (G3 : Value) (e0 tb : Addr) (kt : ClassId) (x : Addr) (h0 : Heap) (n0 : Nat) (bk : Addr → Prop) (v : Option Value) (h : Heap) (bk' : Addr → Prop) : Prop := v = some (.int (4 : Int32)) ∧ h0 = h ∧ NoB = bk'
theorem d150 : decode jdk_2452_method_2_code 41 = .ok (.iconst 0, 1) := by decide +kernel
theorem d151 : decode jdk_2452_method_2_code 42 = .ok (.goto 7, 3) := by decide +kernel
abbrev RM_eol2 : Room := { frames := 1, cells := 0, slots := 0, locals := 15 }
theorem ef_eol2 (m : MethodId) (x0 : Addr) (x1 : Int32) (x2 : Int32) : entryFrame m #[(.ref x0), (.int x1), (.int x2)] 5 = mkF m 0 #[.val (.ref x0), .val (.int x1), .val (.int x2), .unset, .unset] [] := by first | (simp [entryFrame, mkF, argsToLocals, Value.category]; done) | rfl
set_option maxRecDepth 65536 in
set_option maxHeartbeats 40000000 in
theorem rm_eol2 (l : Launch) (Z : State) (a0 : Array Value) (G1 : Int32) (G3 : Value) (e0 tb : Addr) (kt : ClassId) (hX : Ctx Z a0 G1 G3) (hY : More Z e0 tb kt) (n0 : Nat) (h0 : Heap) (O0 : Old Z n0 h0) (x : Addr) (pf_0 : Fld Z h0 x "java/util/Base64$Encoder" "doPadding" "Z" (.int (0 : Int32))) (pf_1 : Fld Z h0 x "java/util/Base64$Encoder" "linemax" "I" (.int ((-1) : Int32))) (ws : List Jvm.Cond) : MetH l Z EL1 n0 NoB (⟨"java/util/Base64$Encoder", "encodedOutLength", "(IZ)I"⟩ : MethodName) jdk_2452_method_2_code 5 (Option.some FieldType.int) [(2, 79, 82, 33)] RM_eol2 #[(.ref x), (.int (3 : Int32)), (.int (1 : Int32))] h0 (Q_eol2 Z G1 G3 e0 tb kt x h0 n0 NoB) ws := by
  have hX' := hX
  obtain ⟨hw, hE, S1, P1, S3, P3⟩ := hX'
  have hY' := hY
  obtain ⟨s_e, x_e, f_u, f_n, f_l, f_p, s_t, a_t⟩ := hY'
  have wT : ∀ (i : Nat) {d : Jvm.Cond}, tables_1[i]? = some d → d.before a0 Z = true := fun i d h => hw d (List.mem_of_getElem? h)
  have z0 : n0 ≤ h0.size := by rw [← O0.1]; exact O0.2.1
  refine MetH.of (by decide +kernel) O0 hE ?_
  intro p e s m below meth c hx hby hml hret hlk hnm
  refine k_cast (ef_eol2 m x (3 : Int32) (1 : Int32)) ?_
  show Run p l e _ s m _ below meth c Z EL1 _ n0 NoB h0 0 0 (mkF m 0 #[.val (.ref x), .val (.int (3 : Int32)), .val (.int (1 : Int32)), .unset, .unset] []) _
  have lt_1 : @LT.lt Nat _ x (Array.size h0) := pf_0.lt
  have lt_2 : @LT.lt Nat _ x (Array.size h0) := pf_1.lt
  refine k_pure (g' := (mkF m 3 #[.val (.ref x), .val (.int (3 : Int32)), .val (.int (1 : Int32)), .val (.int (0 : Int32)), .unset] [(.ref x)])) (fun TT HH tt kk => XS.iconst HH hx rfl (hb hby d123) (XS.istoreN HH hx rfl (hb hby d124) rfl (l' := #[.val (.ref x), .val (.int (3 : Int32)), .val (.int (1 : Int32)), .val (.int (0 : Int32)), .unset]) rfl (XS.aloadN HH hx rfl (hb hby d125) rfl rfl kk))) ?_
  refine k_getF hx (host := "") (Or.inl (wT 41 rfl)) Via.refl pf_0 rfl rfl (hb hby d126) ?_
  refine k_pure (g' := (mkF m 27 #[.val (.ref x), .val (.int (3 : Int32)), .val (.int (1 : Int32)), .val (.int (0 : Int32)), .unset] [(.int (0 : Int32))])) (fun TT HH tt kk => XS.ifYes HH hx rfl (pc0 := 6) (pc' := 24) rfl (hb hby d127) rfl ((if0 _ _).trans (teq (by decide : ((0 : Int32) = (0 : Int32)))).1) (by decide) (by decide) (XS.iloadN HH hx rfl (hb hby d128) rfl (XS.iconst HH hx rfl (hb hby d129) (s_irem HH hx rfl (hb hby d130) rfl (by decide) kk)))) ?_
  refine k_pure (g' := (mkF m 32 #[.val (.ref x), .val (.int (3 : Int32)), .val (.int (1 : Int32)), .val (.int (0 : Int32)), .val (.int (0 : Int32))] [(.int (3 : Int32)), (.int (3 : Int32)), (.int (4 : Int32))])) (fun TT HH tt kk => XS.istore HH hx rfl (hb hby d131) rfl (l' := #[.val (.ref x), .val (.int (3 : Int32)), .val (.int (1 : Int32)), .val (.int (0 : Int32)), .val (.int (0 : Int32))]) rfl (XS.iconst HH hx rfl (hb hby d132) (XS.iloadN HH hx rfl (hb hby d133) rfl (XS.iconst HH hx rfl (hb hby d134) kk)))) ?_
  refine k_pure (g' := (mkF m 33 #[.val (.ref x), .val (.int (3 : Int32)), .val (.int (1 : Int32)), .val (.int (0 : Int32)), .val (.int (0 : Int32))] [(.int (1 : Int32)), (.int (4 : Int32))])) (fun _ J _ j => XS.idiv J hx rfl (hb hby d135) rfl (by decide) j) ?_
  refine k_callS hx (y := (⟨"java/lang/Math", "multiplyExact", "(II)I"⟩ : MethodName)) (wT 71 rfl) (wT 72 rfl) (wT 73 rfl) (wT 74 rfl) (by decide) (W := 0) (argsL := [(.int (4 : Int32)), (.int (1 : Int32))]) (rest := []) (Pays.of_met (rm_mx1 l Z a0 G1 G3 e0 tb kt hX hY n0 h0 O0   []) (wT 74 rfl) (wT 73 rfl) (by decide) (by decide)) rfl (by rw [hml]; rfl) (lenOf pd__28_II_29_I rfl) rfl (by show 2 * 0 + _ ≤ _; exact Nat.le_of_eq rfl) (hb hby d136) (by decide) (by decide) ?_
  intro v_3 h_4 bk_5 O_6 z_7 Q_8
  obtain ⟨rfl, rfl, rfl⟩ := Q_8
  refine k_pure (g' := (mkF m 49 #[.val (.ref x), .val (.int (3 : Int32)), .val (.int (1 : Int32)), .val (.int (0 : Int32)), .val (.int (0 : Int32))] [(.int (0 : Int32)), (.int (4 : Int32))])) (fun TT HH tt kk => XS.iload HH hx rfl (hb hby d137) rfl (XS.ifNo HH hx rfl (hb hby d138) rfl ((if0 _ _).trans (teq (by decide : ((0 : Int32) = (0 : Int32)))).2) (XS.iconst HH hx rfl (hb hby d150) (XS.goto HH hx rfl (pc0 := 42) (pc' := 49) rfl (hb hby d151) (by decide) (by decide) kk)))) ?_
  refine k_callS hx (y := (⟨"java/lang/Math", "addExact", "(II)I"⟩ : MethodName)) (wT 75 rfl) (wT 76 rfl) (wT 73 rfl) (wT 77 rfl) (by decide) (W := 0) (argsL := [(.int (4 : Int32)), (.int (0 : Int32))]) (rest := []) (Pays.of_met (rm_ax40 l Z a0 G1 G3 e0 tb kt hX hY n0 h0 O0   []) (wT 77 rfl) (wT 73 rfl) (by decide) (by decide)) rfl (by rw [hml]; rfl) (lenOf pd__28_II_29_I rfl) rfl (by show 2 * 0 + _ ≤ _; exact Nat.le_of_eq rfl) (hb hby d142) (by decide) (by decide) ?_
  intro v_9 h_10 bk_11 O_12 z_13 Q_14
  obtain ⟨rfl, rfl, rfl⟩ := Q_14
  refine k_pure (g' := (mkF m 54 #[.val (.ref x), .val (.int (3 : Int32)), .val (.int (1 : Int32)), .val (.int (4 : Int32)), .val (.int (0 : Int32))] [(.ref x)])) (fun TT HH tt kk => XS.istoreN HH hx rfl (hb hby d143) rfl (l' := #[.val (.ref x), .val (.int (3 : Int32)), .val (.int (1 : Int32)), .val (.int (4 : Int32)), .val (.int (0 : Int32))]) rfl (XS.aloadN HH hx rfl (hb hby d144) rfl rfl kk)) ?_
  refine k_getF hx (host := "") (Or.inl (wT 49 rfl)) Via.refl pf_1 rfl rfl (hb hby d145) ?_
  refine k_pure (g' := (mkF m 101 #[.val (.ref x), .val (.int (3 : Int32)), .val (.int (1 : Int32)), .val (.int (4 : Int32)), .val (.int (0 : Int32))] [(.int (4 : Int32))])) (fun TT HH tt kk => XS.ifYes HH hx rfl (pc0 := 57) (pc' := 79) rfl (hb hby d146) rfl ((if0 _ _).trans (flt (by decide : ¬ ((0 : Int32) < ((-1) : Int32)))).2.2.2) (by decide) (by decide) (XS.goto HH hx rfl (pc0 := 79) (pc' := 100) rfl (hb hby d147) (by decide) (by decide) (XS.iloadN HH hx rfl (hb hby d148) rfl kk))) ?_
  exact k_retI hx hlk hret (hb hby d149) (by decide) (by decide) ⟨rfl, rfl, rfl⟩
def Q_eol3 (Z : State) (G1 : Int32) (G3 : Value) (e0 tb : Addr) (kt : ClassId) (x : Addr) (h0 : Heap) (n0 : Nat) (bk : Addr → Prop) (v : Option Value) (h : Heap) (bk' : Addr → Prop) : Prop := v = some (.int (6 : Int32)) ∧ h0 = h ∧ NoB = bk'
abbrev RM_eol3 : Room := { frames := 1, cells := 0, slots := 0, locals := 15 }
theorem ef_eol3 (m : MethodId) (x0 : Addr) (x1 : Int32) (x2 : Int32) : entryFrame m #[(.ref x0), (.int x1), (.int x2)] 5 = mkF m 0 #[.val (.ref x0), .val (.int x1), .val (.int x2), .unset, .unset] [] := by first | (simp [entryFrame, mkF, argsToLocals, Value.category]; done) | rfl
set_option maxRecDepth 65536 in
set_option maxHeartbeats 40000000 in
theorem rm_eol3 (l : Launch) (Z : State) (a0 : Array Value) (G1 : Int32) (G3 : Value) (e0 tb : Addr) (kt : ClassId) (hX : Ctx Z a0 G1 G3) (hY : More Z e0 tb kt) (n0 : Nat) (h0 : Heap) (O0 : Old Z n0 h0) (x : Addr) (pf_0 : Fld Z h0 x "java/util/Base64$Encoder" "doPadding" "Z" (.int (0 : Int32))) (pf_1 : Fld Z h0 x "java/util/Base64$Encoder" "linemax" "I" (.int ((-1) : Int32))) (ws : List Jvm.Cond) : MetH l Z EL1 n0 NoB (⟨"java/util/Base64$Encoder", "encodedOutLength", "(IZ)I"⟩ : MethodName) jdk_2452_method_2_code 5 (Option.some FieldType.int) [(2, 79, 82, 33)] RM_eol3 #[(.ref x), (.int (4 : Int32)), (.int (1 : Int32))] h0 (Q_eol3 Z G1 G3 e0 tb kt x h0 n0 NoB) ws := by
  have hX' := hX
  obtain ⟨hw, hE, S1, P1, S3, P3⟩ := hX'
  have hY' := hY
  obtain ⟨s_e, x_e, f_u, f_n, f_l, f_p, s_t, a_t⟩ := hY'
  have wT : ∀ (i : Nat) {d : Jvm.Cond}, tables_1[i]? = some d → d.before a0 Z = true := fun i d h => hw d (List.mem_of_getElem? h)
  have z0 : n0 ≤ h0.size := by rw [← O0.1]; exact O0.2.1
  refine MetH.of (by decide +kernel) O0 hE ?_
  intro p e s m below meth c hx hby hml hret hlk hnm
  refine k_cast (ef_eol3 m x (4 : Int32) (1 : Int32)) ?_
  show Run p l e _ s m _ below meth c Z EL1 _ n0 NoB h0 0 0 (mkF m 0 #[.val (.ref x), .val (.int (4 : Int32)), .val (.int (1 : Int32)), .unset, .unset] []) _
  have lt_1 : @LT.lt Nat _ x (Array.size h0) := pf_0.lt
  have lt_2 : @LT.lt Nat _ x (Array.size h0) := pf_1.lt
  refine k_pure (g' := (mkF m 3 #[.val (.ref x), .val (.int (4 : Int32)), .val (.int (1 : Int32)), .val (.int (0 : Int32)), .unset] [(.ref x)])) (fun TT HH tt kk => XS.iconst HH hx rfl (hb hby d123) (XS.istoreN HH hx rfl (hb hby d124) rfl (l' := #[.val (.ref x), .val (.int (4 : Int32)), .val (.int (1 : Int32)), .val (.int (0 : Int32)), .unset]) rfl (XS.aloadN HH hx rfl (hb hby d125) rfl rfl kk))) ?_
  refine k_getF hx (host := "") (Or.inl (wT 41 rfl)) Via.refl pf_0 rfl rfl (hb hby d126) ?_
  refine k_pure (g' := (mkF m 27 #[.val (.ref x), .val (.int (4 : Int32)), .val (.int (1 : Int32)), .val (.int (0 : Int32)), .unset] [(.int (1 : Int32))])) (fun TT HH tt kk => XS.ifYes HH hx rfl (pc0 := 6) (pc' := 24) rfl (hb hby d127) rfl ((if0 _ _).trans (teq (by decide : ((0 : Int32) = (0 : Int32)))).1) (by decide) (by decide) (XS.iloadN HH hx rfl (hb hby d128) rfl (XS.iconst HH hx rfl (hb hby d129) (s_irem HH hx rfl (hb hby d130) rfl (by decide) kk)))) ?_
  refine k_pure (g' := (mkF m 32 #[.val (.ref x), .val (.int (4 : Int32)), .val (.int (1 : Int32)), .val (.int (0 : Int32)), .val (.int (1 : Int32))] [(.int (3 : Int32)), (.int (4 : Int32)), (.int (4 : Int32))])) (fun TT HH tt kk => XS.istore HH hx rfl (hb hby d131) rfl (l' := #[.val (.ref x), .val (.int (4 : Int32)), .val (.int (1 : Int32)), .val (.int (0 : Int32)), .val (.int (1 : Int32))]) rfl (XS.iconst HH hx rfl (hb hby d132) (XS.iloadN HH hx rfl (hb hby d133) rfl (XS.iconst HH hx rfl (hb hby d134) kk)))) ?_
  refine k_pure (g' := (mkF m 33 #[.val (.ref x), .val (.int (4 : Int32)), .val (.int (1 : Int32)), .val (.int (0 : Int32)), .val (.int (1 : Int32))] [(.int (1 : Int32)), (.int (4 : Int32))])) (fun _ J _ j => XS.idiv J hx rfl (hb hby d135) rfl (by decide) j) ?_
  refine k_callS hx (y := (⟨"java/lang/Math", "multiplyExact", "(II)I"⟩ : MethodName)) (wT 71 rfl) (wT 72 rfl) (wT 73 rfl) (wT 74 rfl) (by decide) (W := 0) (argsL := [(.int (4 : Int32)), (.int (1 : Int32))]) (rest := []) (Pays.of_met (rm_mx1 l Z a0 G1 G3 e0 tb kt hX hY n0 h0 O0   []) (wT 74 rfl) (wT 73 rfl) (by decide) (by decide)) rfl (by rw [hml]; rfl) (lenOf pd__28_II_29_I rfl) rfl (by show 2 * 0 + _ ≤ _; exact Nat.le_of_eq rfl) (hb hby d136) (by decide) (by decide) ?_
  intro v_3 h_4 bk_5 O_6 z_7 Q_8
  obtain ⟨rfl, rfl, rfl⟩ := Q_8
  refine k_pure (g' := (mkF m 48 #[.val (.ref x), .val (.int (4 : Int32)), .val (.int (1 : Int32)), .val (.int (0 : Int32)), .val (.int (1 : Int32))] [(.int (1 : Int32)), (.int (1 : Int32)), (.int (4 : Int32))])) (fun TT HH tt kk => XS.iload HH hx rfl (hb hby d137) rfl (XS.ifYes HH hx rfl (pc0 := 38) (pc' := 45) rfl (hb hby d138) rfl ((if0 _ _).trans (feq (by decide : ¬ ((1 : Int32) = (0 : Int32)))).2) (by decide) (by decide) (XS.iload HH hx rfl (hb hby d139) rfl (XS.iconst HH hx rfl (hb hby d140) kk)))) ?_
  refine k_pure (g' := (mkF m 49 #[.val (.ref x), .val (.int (4 : Int32)), .val (.int (1 : Int32)), .val (.int (0 : Int32)), .val (.int (1 : Int32))] [(.int (2 : Int32)), (.int (4 : Int32))])) (fun _ J _ j => XS.iadd J hx rfl (hb hby d141) rfl j) ?_
  refine k_callS hx (y := (⟨"java/lang/Math", "addExact", "(II)I"⟩ : MethodName)) (wT 75 rfl) (wT 76 rfl) (wT 73 rfl) (wT 77 rfl) (by decide) (W := 0) (argsL := [(.int (4 : Int32)), (.int (2 : Int32))]) (rest := []) (Pays.of_met (rm_ax42 l Z a0 G1 G3 e0 tb kt hX hY n0 h0 O0   []) (wT 77 rfl) (wT 73 rfl) (by decide) (by decide)) rfl (by rw [hml]; rfl) (lenOf pd__28_II_29_I rfl) rfl (by show 2 * 0 + _ ≤ _; exact Nat.le_of_eq rfl) (hb hby d142) (by decide) (by decide) ?_
  intro v_9 h_10 bk_11 O_12 z_13 Q_14
  obtain ⟨rfl, rfl, rfl⟩ := Q_14
  refine k_pure (g' := (mkF m 54 #[.val (.ref x), .val (.int (4 : Int32)), .val (.int (1 : Int32)), .val (.int (6 : Int32)), .val (.int (1 : Int32))] [(.ref x)])) (fun TT HH tt kk => XS.istoreN HH hx rfl (hb hby d143) rfl (l' := #[.val (.ref x), .val (.int (4 : Int32)), .val (.int (1 : Int32)), .val (.int (6 : Int32)), .val (.int (1 : Int32))]) rfl (XS.aloadN HH hx rfl (hb hby d144) rfl rfl kk)) ?_
  refine k_getF hx (host := "") (Or.inl (wT 49 rfl)) Via.refl pf_1 rfl rfl (hb hby d145) ?_
  refine k_pure (g' := (mkF m 101 #[.val (.ref x), .val (.int (4 : Int32)), .val (.int (1 : Int32)), .val (.int (6 : Int32)), .val (.int (1 : Int32))] [(.int (6 : Int32))])) (fun TT HH tt kk => XS.ifYes HH hx rfl (pc0 := 57) (pc' := 79) rfl (hb hby d146) rfl ((if0 _ _).trans (flt (by decide : ¬ ((0 : Int32) < ((-1) : Int32)))).2.2.2) (by decide) (by decide) (XS.goto HH hx rfl (pc0 := 79) (pc' := 100) rfl (hb hby d147) (by decide) (by decide) (XS.iloadN HH hx rfl (hb hby d148) rfl kk))) ?_
  exact k_retI hx hlk hret (hb hby d149) (by decide) (by decide) ⟨rfl, rfl, rfl⟩
def Q_ebk2 (Z : State) (G1 : Int32) (G3 : Value) (e0 tb : Addr) (kt : ClassId) (x : Addr) (q : Addr) (kq : ClassId) (t : Addr) (kb : ClassId) (za : Int32) (zb : Int32) (h0 : Heap) (n0 : Nat) (bk : Addr → Prop) (v : Option Value) (h : Heap) (bk' : Addr → Prop) : Prop := v = none ∧ NoB = bk' ∧ Keep h0 h [t] ∧ (Arv Z h t kb .byte (4 : Int32) [(.int ((en (0 : Int32)).toInt8.toInt32)), (.int ((en ((16 : Int32) ||| (za >>> ((4 : Int32) &&& 31)))).toInt8.toInt32)), (.int ((en (((za &&& (15 : Int32)) <<< ((2 : Int32) &&& 31)) ||| (zb >>> ((6 : Int32) &&& 31)))).toInt8.toInt32)), (.int ((en (zb &&& (63 : Int32))).toInt8.toInt32))] (.int (0 : Int32)))
theorem d152 : decode jdk_2452_method_9_code 0 = .ok (.iload 6, 2) := by decide +kernel
theorem d153 : decode jdk_2452_method_9_code 2 = .ok (.ifCond .eq 9, 3) := by decide +kernel
theorem d154 : decode jdk_2452_method_9_code 5 = .ok (.getstatic 111, 3) := by decide +kernel
theorem d155 : decode jdk_2452_method_9_code 8 = .ok (.goto 6, 3) := by decide +kernel
theorem d156 : decode jdk_2452_method_9_code 14 = .ok (.astore 7, 2) := by decide +kernel
theorem d157 : decode jdk_2452_method_9_code 16 = .ok (.iload_n 2, 1) := by decide +kernel
theorem d158 : decode jdk_2452_method_9_code 17 = .ok (.istore 8, 2) := by decide +kernel
theorem d159 : decode jdk_2452_method_9_code 19 = .ok (.iload 5, 2) := by decide +kernel
theorem d160 : decode jdk_2452_method_9_code 21 = .ok (.istore 9, 2) := by decide +kernel
theorem d161 : decode jdk_2452_method_9_code 23 = .ok (.iload 8, 2) := by decide +kernel
theorem d162 : decode jdk_2452_method_9_code 25 = .ok (.iload_n 3, 1) := by decide +kernel
theorem d163 : decode jdk_2452_method_9_code 26 = .ok (.if_icmp .ge 126, 3) := by decide +kernel
theorem d164 : decode jdk_2452_method_9_code 29 = .ok (.aload_n 1, 1) := by decide +kernel
theorem d165 : decode jdk_2452_method_9_code 30 = .ok (.iload 8, 2) := by decide +kernel
theorem d166 : decode jdk_2452_method_9_code 32 = .ok (.iinc 8 1, 3) := by decide +kernel
theorem d167 : decode jdk_2452_method_9_code 35 = .ok (.baload, 1) := by decide +kernel
theorem d168 : decode jdk_2452_method_9_code 36 = .ok (.sipush 255, 3) := by decide +kernel
theorem d169 : decode jdk_2452_method_9_code 39 = .ok (.iand, 1) := by decide +kernel
theorem d170 : decode jdk_2452_method_9_code 40 = .ok (.bipush 16, 2) := by decide +kernel
theorem d171 : decode jdk_2452_method_9_code 42 = .ok (.ishl, 1) := by decide +kernel
theorem d172 : decode jdk_2452_method_9_code 43 = .ok (.aload_n 1, 1) := by decide +kernel
theorem d173 : decode jdk_2452_method_9_code 44 = .ok (.iload 8, 2) := by decide +kernel
theorem d174 : decode jdk_2452_method_9_code 46 = .ok (.iinc 8 1, 3) := by decide +kernel
theorem d175 : decode jdk_2452_method_9_code 49 = .ok (.baload, 1) := by decide +kernel
theorem d176 : decode jdk_2452_method_9_code 50 = .ok (.sipush 255, 3) := by decide +kernel
theorem d177 : decode jdk_2452_method_9_code 53 = .ok (.iand, 1) := by decide +kernel
theorem d178 : decode jdk_2452_method_9_code 54 = .ok (.bipush 8, 2) := by decide +kernel
theorem d179 : decode jdk_2452_method_9_code 56 = .ok (.ishl, 1) := by decide +kernel
theorem d180 : decode jdk_2452_method_9_code 57 = .ok (.ior, 1) := by decide +kernel
theorem d181 : decode jdk_2452_method_9_code 58 = .ok (.aload_n 1, 1) := by decide +kernel
theorem d182 : decode jdk_2452_method_9_code 59 = .ok (.iload 8, 2) := by decide +kernel
theorem d183 : decode jdk_2452_method_9_code 61 = .ok (.iinc 8 1, 3) := by decide +kernel
theorem d184 : decode jdk_2452_method_9_code 64 = .ok (.baload, 1) := by decide +kernel
theorem d185 : decode jdk_2452_method_9_code 65 = .ok (.sipush 255, 3) := by decide +kernel
theorem d186 : decode jdk_2452_method_9_code 68 = .ok (.iand, 1) := by decide +kernel
theorem d187 : decode jdk_2452_method_9_code 69 = .ok (.ior, 1) := by decide +kernel
theorem d188 : decode jdk_2452_method_9_code 70 = .ok (.istore 10, 2) := by decide +kernel
theorem d189 : decode jdk_2452_method_9_code 72 = .ok (.aload 4, 2) := by decide +kernel
theorem d190 : decode jdk_2452_method_9_code 74 = .ok (.iload 9, 2) := by decide +kernel
theorem d191 : decode jdk_2452_method_9_code 76 = .ok (.iinc 9 1, 3) := by decide +kernel
theorem d192 : decode jdk_2452_method_9_code 79 = .ok (.aload 7, 2) := by decide +kernel
theorem d193 : decode jdk_2452_method_9_code 81 = .ok (.iload 10, 2) := by decide +kernel
theorem d194 : decode jdk_2452_method_9_code 83 = .ok (.bipush 18, 2) := by decide +kernel
theorem d195 : decode jdk_2452_method_9_code 85 = .ok (.iushr, 1) := by decide +kernel
theorem d196 : decode jdk_2452_method_9_code 86 = .ok (.bipush 63, 2) := by decide +kernel
theorem d197 : decode jdk_2452_method_9_code 88 = .ok (.iand, 1) := by decide +kernel
theorem d198 : decode jdk_2452_method_9_code 89 = .ok (.caload, 1) := by decide +kernel
theorem d199 : decode jdk_2452_method_9_code 90 = .ok (.i2b, 1) := by decide +kernel
theorem d200 : decode jdk_2452_method_9_code 91 = .ok (.bastore, 1) := by decide +kernel
theorem d201 : decode jdk_2452_method_9_code 92 = .ok (.aload 4, 2) := by decide +kernel
theorem d202 : decode jdk_2452_method_9_code 94 = .ok (.iload 9, 2) := by decide +kernel
theorem d203 : decode jdk_2452_method_9_code 96 = .ok (.iinc 9 1, 3) := by decide +kernel
theorem d204 : decode jdk_2452_method_9_code 99 = .ok (.aload 7, 2) := by decide +kernel
theorem d205 : decode jdk_2452_method_9_code 101 = .ok (.iload 10, 2) := by decide +kernel
theorem d206 : decode jdk_2452_method_9_code 103 = .ok (.bipush 12, 2) := by decide +kernel
theorem d207 : decode jdk_2452_method_9_code 105 = .ok (.iushr, 1) := by decide +kernel
theorem d208 : decode jdk_2452_method_9_code 106 = .ok (.bipush 63, 2) := by decide +kernel
theorem d209 : decode jdk_2452_method_9_code 108 = .ok (.iand, 1) := by decide +kernel
theorem d210 : decode jdk_2452_method_9_code 109 = .ok (.caload, 1) := by decide +kernel
theorem d211 : decode jdk_2452_method_9_code 110 = .ok (.i2b, 1) := by decide +kernel
theorem d212 : decode jdk_2452_method_9_code 111 = .ok (.bastore, 1) := by decide +kernel
theorem d213 : decode jdk_2452_method_9_code 112 = .ok (.aload 4, 2) := by decide +kernel
theorem d214 : decode jdk_2452_method_9_code 114 = .ok (.iload 9, 2) := by decide +kernel
theorem d215 : decode jdk_2452_method_9_code 116 = .ok (.iinc 9 1, 3) := by decide +kernel
theorem d216 : decode jdk_2452_method_9_code 119 = .ok (.aload 7, 2) := by decide +kernel
theorem d217 : decode jdk_2452_method_9_code 121 = .ok (.iload 10, 2) := by decide +kernel
theorem d218 : decode jdk_2452_method_9_code 123 = .ok (.bipush 6, 2) := by decide +kernel
theorem d219 : decode jdk_2452_method_9_code 125 = .ok (.iushr, 1) := by decide +kernel
theorem d220 : decode jdk_2452_method_9_code 126 = .ok (.bipush 63, 2) := by decide +kernel
theorem d221 : decode jdk_2452_method_9_code 128 = .ok (.iand, 1) := by decide +kernel
theorem d222 : decode jdk_2452_method_9_code 129 = .ok (.caload, 1) := by decide +kernel
theorem d223 : decode jdk_2452_method_9_code 130 = .ok (.i2b, 1) := by decide +kernel
theorem d224 : decode jdk_2452_method_9_code 131 = .ok (.bastore, 1) := by decide +kernel
theorem d225 : decode jdk_2452_method_9_code 132 = .ok (.aload 4, 2) := by decide +kernel
theorem d226 : decode jdk_2452_method_9_code 134 = .ok (.iload 9, 2) := by decide +kernel
theorem d227 : decode jdk_2452_method_9_code 136 = .ok (.iinc 9 1, 3) := by decide +kernel
theorem d228 : decode jdk_2452_method_9_code 139 = .ok (.aload 7, 2) := by decide +kernel
theorem d229 : decode jdk_2452_method_9_code 141 = .ok (.iload 10, 2) := by decide +kernel
theorem d230 : decode jdk_2452_method_9_code 143 = .ok (.bipush 63, 2) := by decide +kernel
theorem d231 : decode jdk_2452_method_9_code 145 = .ok (.iand, 1) := by decide +kernel
theorem d232 : decode jdk_2452_method_9_code 146 = .ok (.caload, 1) := by decide +kernel
theorem d233 : decode jdk_2452_method_9_code 147 = .ok (.i2b, 1) := by decide +kernel
theorem d234 : decode jdk_2452_method_9_code 148 = .ok (.bastore, 1) := by decide +kernel
theorem d235 : decode jdk_2452_method_9_code 149 = .ok (.goto (-126), 3) := by decide +kernel
theorem d236 : decode jdk_2452_method_9_code 152 = .ok (.return_, 1) := by decide +kernel
abbrev RM_ebk2 : Room := { frames := 0, cells := 0, slots := 0, locals := 0 }
theorem ef_ebk2 (m : MethodId) (x0 : Addr) (x1 : Addr) (x2 : Int32) (x3 : Int32) (x4 : Addr) (x5 : Int32) (x6 : Int32) : entryFrame m #[(.ref x0), (.ref x1), (.int x2), (.int x3), (.ref x4), (.int x5), (.int x6)] 11 = mkF m 0 #[.val (.ref x0), .val (.ref x1), .val (.int x2), .val (.int x3), .val (.ref x4), .val (.int x5), .val (.int x6), .unset, .unset, .unset, .unset] [] := by first | (simp [entryFrame, mkF, argsToLocals, Value.category]; done) | rfl
set_option maxRecDepth 65536 in
set_option maxHeartbeats 40000000 in
theorem rm_ebk2 (l : Launch) (Z : State) (a0 : Array Value) (G1 : Int32) (G3 : Value) (e0 tb : Addr) (kt : ClassId) (hX : Ctx Z a0 G1 G3) (hY : More Z e0 tb kt) (n0 : Nat) (h0 : Heap) (O0 : Old Z n0 h0) (x : Addr) (q : Addr) (kq : ClassId) (t : Addr) (kb : ClassId) (za : Int32) (zb : Int32) (pf_0 : Arv Z h0 q kq .byte (3 : Int32) [(.int (1 : Int32)), (.int (za.toInt8.toInt32)), (.int (zb.toInt8.toInt32))] (.int (0 : Int32))) (pf_1 : Arv Z h0 t kb .byte (4 : Int32) [(.int (0 : Int32)), (.int (0 : Int32)), (.int (0 : Int32)), (.int (0 : Int32))] (.int (0 : Int32))) (gt : n0 ≤ t) (qt : @Ne Nat q t) (b_za : 0 ≤ za.toInt ∧ za.toInt ≤ 255) (b_zb : 0 ≤ zb.toInt ∧ zb.toInt ≤ 255) (ws : List Jvm.Cond) : Met l Z EL1 n0 NoB (⟨"java/util/Base64$Encoder", "encodeBlock", "([BII[BIZ)V"⟩ : MethodName) jdk_2452_method_9_code 11 (Option.none : Option FieldType) RM_ebk2 #[(.ref x), (.ref q), (.int (0 : Int32)), (.int (3 : Int32)), (.ref t), (.int (0 : Int32)), (.int (1 : Int32))] h0 (Q_ebk2 Z G1 G3 e0 tb kt x q kq t kb za zb h0 n0 NoB) ws := by
  have hX' := hX
  obtain ⟨hw, hE, S1, P1, S3, P3⟩ := hX'
  have hY' := hY
  obtain ⟨s_e, x_e, f_u, f_n, f_l, f_p, s_t, a_t⟩ := hY'
  have wT : ∀ (i : Nat) {d : Jvm.Cond}, tables_1[i]? = some d → d.before a0 Z = true := fun i d h => hw d (List.mem_of_getElem? h)
  have z0 : n0 ≤ h0.size := by rw [← O0.1]; exact O0.2.1
  refine Met.of (by decide +kernel) O0 hE ?_
  intro p e s m below meth c hx hby hml hret hlk hnm
  refine k_cast (ef_ebk2 m x q (0 : Int32) (3 : Int32) t (0 : Int32) (1 : Int32)) ?_
  show Run p l e _ s m _ below meth c Z EL1 _ n0 NoB h0 0 0 (mkF m 0 #[.val (.ref x), .val (.ref q), .val (.int (0 : Int32)), .val (.int (3 : Int32)), .val (.ref t), .val (.int (0 : Int32)), .val (.int (1 : Int32)), .unset, .unset, .unset, .unset] []) _
  have lt_1 : @LT.lt Nat _ q (Array.size h0) := pf_0.lt
  have lt_2 : @LT.lt Nat _ t (Array.size h0) := pf_1.lt
  refine k_pure (g' := (mkF m 5 #[.val (.ref x), .val (.ref q), .val (.int (0 : Int32)), .val (.int (3 : Int32)), .val (.ref t), .val (.int (0 : Int32)), .val (.int (1 : Int32)), .unset, .unset, .unset, .unset] [])) (fun TT HH tt kk => XS.iload HH hx rfl (hb hby d152) rfl (XS.ifNo HH hx rfl (hb hby d153) rfl ((if0 _ _).trans (feq (by decide : ¬ ((1 : Int32) = (0 : Int32)))).1) kk)) ?_
  refine k_getS hx (host := "") (Or.inl (wT 83 rfl)) Via.refl (s_t.ext O0.2) rfl (hb hby d154) ?_
  refine k_pure (g' := (mkF m 19 #[.val (.ref x), .val (.ref q), .val (.int (0 : Int32)), .val (.int (3 : Int32)), .val (.ref t), .val (.int (0 : Int32)), .val (.int (1 : Int32)), .val (.ref tb), .val (.int (0 : Int32)), .unset, .unset] [])) (fun TT HH tt kk => XS.goto HH hx rfl (pc0 := 8) (pc' := 14) rfl (hb hby d155) (by decide) (by decide) (XS.astore HH hx rfl (hb hby d156) rfl rfl (l' := #[.val (.ref x), .val (.ref q), .val (.int (0 : Int32)), .val (.int (3 : Int32)), .val (.ref t), .val (.int (0 : Int32)), .val (.int (1 : Int32)), .val (.ref tb), .unset, .unset, .unset]) rfl (XS.iloadN HH hx rfl (hb hby d157) rfl (XS.istore HH hx rfl (hb hby d158) rfl (l' := #[.val (.ref x), .val (.ref q), .val (.int (0 : Int32)), .val (.int (3 : Int32)), .val (.ref t), .val (.int (0 : Int32)), .val (.int (1 : Int32)), .val (.ref tb), .val (.int (0 : Int32)), .unset, .unset]) rfl kk)))) ?_
  refine k_pure (g' := (mkF m 26 #[.val (.ref x), .val (.ref q), .val (.int (0 : Int32)), .val (.int (3 : Int32)), .val (.ref t), .val (.int (0 : Int32)), .val (.int (1 : Int32)), .val (.ref tb), .val (.int (0 : Int32)), .val (.int (0 : Int32)), .unset] [(.int (3 : Int32)), (.int (0 : Int32))])) (fun TT HH tt kk => XS.iload HH hx rfl (hb hby d159) rfl (XS.istore HH hx rfl (hb hby d160) rfl (l' := #[.val (.ref x), .val (.ref q), .val (.int (0 : Int32)), .val (.int (3 : Int32)), .val (.ref t), .val (.int (0 : Int32)), .val (.int (1 : Int32)), .val (.ref tb), .val (.int (0 : Int32)), .val (.int (0 : Int32)), .unset]) rfl (XS.iload HH hx rfl (hb hby d161) rfl (XS.iloadN HH hx rfl (hb hby d162) rfl kk)))) ?_
  refine k_pure (g' := (mkF m 35 #[.val (.ref x), .val (.ref q), .val (.int (0 : Int32)), .val (.int (3 : Int32)), .val (.ref t), .val (.int (0 : Int32)), .val (.int (1 : Int32)), .val (.ref tb), .val (.int (1 : Int32)), .val (.int (0 : Int32)), .unset] [(.int (0 : Int32)), (.ref q)])) (fun TT HH tt kk => XS.icmpNo HH hx rfl (hb hby d163) rfl (tlt (by decide : ((0 : Int32) < (3 : Int32)))).2.1 (XS.aloadN HH hx rfl (hb hby d164) rfl rfl (XS.iload HH hx rfl (hb hby d165) rfl (XS.iinc HH hx rfl (hb hby d166) rfl (l' := #[.val (.ref x), .val (.ref q), .val (.int (0 : Int32)), .val (.int (3 : Int32)), .val (.ref t), .val (.int (0 : Int32)), .val (.int (1 : Int32)), .val (.ref tb), .val (.int (1 : Int32)), .val (.int (0 : Int32)), .unset]) rfl kk)))) ?_
  refine k_aget hx (v := (.int (1 : Int32))) pf_0 ⟨by decide, by decide⟩ rfl (Or.inr (Or.inr (Or.inr (Or.inl ⟨rfl, rfl⟩)))) rfl rfl (hb hby d167) ?_
  refine k_pure (g' := (mkF m 43 #[.val (.ref x), .val (.ref q), .val (.int (0 : Int32)), .val (.int (3 : Int32)), .val (.ref t), .val (.int (0 : Int32)), .val (.int (1 : Int32)), .val (.ref tb), .val (.int (1 : Int32)), .val (.int (0 : Int32)), .unset] [(.int (65536 : Int32))])) (fun TT HH tt kk => XS.sipush HH hx rfl (hb hby d168) (XS.iand HH hx rfl (hb hby d169) rfl (XS.bipush HH hx rfl (hb hby d170) (XS.ishl HH hx rfl (hb hby d171) rfl kk)))) ?_
  refine k_pure (g' := (mkF m 49 #[.val (.ref x), .val (.ref q), .val (.int (0 : Int32)), .val (.int (3 : Int32)), .val (.ref t), .val (.int (0 : Int32)), .val (.int (1 : Int32)), .val (.ref tb), .val (.int (2 : Int32)), .val (.int (0 : Int32)), .unset] [(.int (1 : Int32)), (.ref q), (.int (65536 : Int32))])) (fun TT HH tt kk => XS.aloadN HH hx rfl (hb hby d172) rfl rfl (XS.iload HH hx rfl (hb hby d173) rfl (XS.iinc HH hx rfl (hb hby d174) rfl (l' := #[.val (.ref x), .val (.ref q), .val (.int (0 : Int32)), .val (.int (3 : Int32)), .val (.ref t), .val (.int (0 : Int32)), .val (.int (1 : Int32)), .val (.ref tb), .val (.int (2 : Int32)), .val (.int (0 : Int32)), .unset]) rfl kk))) ?_
  refine k_aget hx (v := (.int (za.toInt8.toInt32))) pf_0 ⟨by decide, by decide⟩ rfl (Or.inr (Or.inr (Or.inr (Or.inl ⟨rfl, rfl⟩)))) rfl rfl (hb hby d175) ?_
  refine k_pure (g' := (mkF m 54 #[.val (.ref x), .val (.ref q), .val (.int (0 : Int32)), .val (.int (3 : Int32)), .val (.ref t), .val (.int (0 : Int32)), .val (.int (1 : Int32)), .val (.ref tb), .val (.int (2 : Int32)), .val (.int (0 : Int32)), .unset] [(.int ((za.toInt8.toInt32) &&& (255 : Int32))), (.int (65536 : Int32))])) (fun TT HH tt kk => XS.sipush HH hx rfl (hb hby d176) (XS.iand HH hx rfl (hb hby d177) rfl kk)) ?_
  rw [m8 b_za]
  refine k_pure (g' := (mkF m 59 #[.val (.ref x), .val (.ref q), .val (.int (0 : Int32)), .val (.int (3 : Int32)), .val (.ref t), .val (.int (0 : Int32)), .val (.int (1 : Int32)), .val (.ref tb), .val (.int (2 : Int32)), .val (.int (0 : Int32)), .unset] [(.ref q), (.int ((65536 : Int32) ||| (za <<< ((8 : Int32) &&& 31))))])) (fun TT HH tt kk => XS.bipush HH hx rfl (hb hby d178) (XS.ishl HH hx rfl (hb hby d179) rfl (XS.ior HH hx rfl (hb hby d180) rfl (XS.aloadN HH hx rfl (hb hby d181) rfl rfl kk)))) ?_
  refine k_pure (g' := (mkF m 64 #[.val (.ref x), .val (.ref q), .val (.int (0 : Int32)), .val (.int (3 : Int32)), .val (.ref t), .val (.int (0 : Int32)), .val (.int (1 : Int32)), .val (.ref tb), .val (.int (3 : Int32)), .val (.int (0 : Int32)), .unset] [(.int (2 : Int32)), (.ref q), (.int ((65536 : Int32) ||| (za <<< ((8 : Int32) &&& 31))))])) (fun TT HH tt kk => XS.iload HH hx rfl (hb hby d182) rfl (XS.iinc HH hx rfl (hb hby d183) rfl (l' := #[.val (.ref x), .val (.ref q), .val (.int (0 : Int32)), .val (.int (3 : Int32)), .val (.ref t), .val (.int (0 : Int32)), .val (.int (1 : Int32)), .val (.ref tb), .val (.int (3 : Int32)), .val (.int (0 : Int32)), .unset]) rfl kk)) ?_
  refine k_aget hx (v := (.int (zb.toInt8.toInt32))) pf_0 ⟨by decide, by decide⟩ rfl (Or.inr (Or.inr (Or.inr (Or.inl ⟨rfl, rfl⟩)))) rfl rfl (hb hby d184) ?_
  refine k_pure (g' := (mkF m 69 #[.val (.ref x), .val (.ref q), .val (.int (0 : Int32)), .val (.int (3 : Int32)), .val (.ref t), .val (.int (0 : Int32)), .val (.int (1 : Int32)), .val (.ref tb), .val (.int (3 : Int32)), .val (.int (0 : Int32)), .unset] [(.int ((zb.toInt8.toInt32) &&& (255 : Int32))), (.int ((65536 : Int32) ||| (za <<< ((8 : Int32) &&& 31))))])) (fun TT HH tt kk => XS.sipush HH hx rfl (hb hby d185) (XS.iand HH hx rfl (hb hby d186) rfl kk)) ?_
  rw [m8 b_zb]
  refine k_pure (g' := (mkF m 72 #[.val (.ref x), .val (.ref q), .val (.int (0 : Int32)), .val (.int (3 : Int32)), .val (.ref t), .val (.int (0 : Int32)), .val (.int (1 : Int32)), .val (.ref tb), .val (.int (3 : Int32)), .val (.int (0 : Int32)), .val (.int (((65536 : Int32) ||| (za <<< ((8 : Int32) &&& 31))) ||| zb))] [])) (fun TT HH tt kk => XS.ior HH hx rfl (hb hby d187) rfl (XS.istore HH hx rfl (hb hby d188) rfl (l' := #[.val (.ref x), .val (.ref q), .val (.int (0 : Int32)), .val (.int (3 : Int32)), .val (.ref t), .val (.int (0 : Int32)), .val (.int (1 : Int32)), .val (.ref tb), .val (.int (3 : Int32)), .val (.int (0 : Int32)), .val (.int (((65536 : Int32) ||| (za <<< ((8 : Int32) &&& 31))) ||| zb))]) rfl kk)) ?_
  have hbits : ((((65536 : Int32) ||| (za <<< ((8 : Int32) &&& 31))) ||| zb)).toInt = 65536 + 256 * za.toInt + zb.toInt := t_bits b_za b_zb
  generalize (((65536 : Int32) ||| (za <<< ((8 : Int32) &&& 31))) ||| zb) = bt at hbits ⊢
  refine k_pure (g' := (mkF m 81 #[.val (.ref x), .val (.ref q), .val (.int (0 : Int32)), .val (.int (3 : Int32)), .val (.ref t), .val (.int (0 : Int32)), .val (.int (1 : Int32)), .val (.ref tb), .val (.int (3 : Int32)), .val (.int (1 : Int32)), .val (.int bt)] [(.ref tb), (.int (0 : Int32)), (.ref t)])) (fun TT HH tt kk => XS.aload HH hx rfl (hb hby d189) rfl rfl (XS.iload HH hx rfl (hb hby d190) rfl (XS.iinc HH hx rfl (hb hby d191) rfl (l' := #[.val (.ref x), .val (.ref q), .val (.int (0 : Int32)), .val (.int (3 : Int32)), .val (.ref t), .val (.int (0 : Int32)), .val (.int (1 : Int32)), .val (.ref tb), .val (.int (3 : Int32)), .val (.int (1 : Int32)), .val (.int bt)]) rfl (XS.aload HH hx rfl (hb hby d192) rfl rfl kk)))) ?_
  refine k_pure (g' := (mkF m 88 #[.val (.ref x), .val (.ref q), .val (.int (0 : Int32)), .val (.int (3 : Int32)), .val (.ref t), .val (.int (0 : Int32)), .val (.int (1 : Int32)), .val (.ref tb), .val (.int (3 : Int32)), .val (.int (1 : Int32)), .val (.int bt)] [(.int (63 : Int32)), (.int ((bt.toUInt32 >>> ((18 : Int32) &&& 31).toUInt32).toInt32)), (.ref tb), (.int (0 : Int32)), (.ref t)])) (fun TT HH tt kk => XS.iload HH hx rfl (hb hby d193) rfl (XS.bipush HH hx rfl (hb hby d194) (XS.iushr HH hx rfl (hb hby d195) rfl (XS.bipush HH hx rfl (hb hby d196) kk)))) ?_
  refine k_pure (g' := (mkF m 89 #[.val (.ref x), .val (.ref q), .val (.int (0 : Int32)), .val (.int (3 : Int32)), .val (.ref t), .val (.int (0 : Int32)), .val (.int (1 : Int32)), .val (.ref tb), .val (.int (3 : Int32)), .val (.int (1 : Int32)), .val (.int bt)] [(.int (((bt.toUInt32 >>> ((18 : Int32) &&& 31).toUInt32).toInt32) &&& (63 : Int32))), (.ref tb), (.int (0 : Int32)), (.ref t)])) (fun _ J _ j => XS.iand J hx rfl (hb hby d197) rfl j) ?_
  have F_3 : Arv Z h0 tb kt .char (64 : Int32) (T64.map Value.int) (.int (0 : Int32)) := a_t.ext O0.2
  refine k_aget hx (v := (.int (en (0 : Int32)))) F_3 ⟨(by have r0 := rng32 bt; have r1 : ((bt.toUInt32 >>> ((18 : Int32) &&& 31).toUInt32).toInt32).toInt = (bt.toInt % 4294967296) / 262144 := (c_iushr bt (18 : Int32) 18 (by decide) (by decide)); have r2 := rng32 ((bt.toUInt32 >>> ((18 : Int32) &&& 31).toUInt32).toInt32); have r3 : (((bt.toUInt32 >>> ((18 : Int32) &&& 31).toUInt32).toInt32) &&& (63 : Int32)).toInt = ((bt.toUInt32 >>> ((18 : Int32) &&& 31).toUInt32).toInt32).toInt % 64 := (c_mask ((bt.toUInt32 >>> ((18 : Int32) &&& 31).toUInt32).toInt32) (63 : Int32) 6 (by decide) (by decide)); have r4 := rng32 (((bt.toUInt32 >>> ((18 : Int32) &&& 31).toUInt32).toInt32) &&& (63 : Int32)); have r5 : (0 : Int32).toInt = 0 := (by decide); have r6 := hbits; have r7 := b_za; have r8 := b_zb; rw [Int32.lt_iff_toInt_lt]; omega), (by have r0 := rng32 bt; have r1 : ((bt.toUInt32 >>> ((18 : Int32) &&& 31).toUInt32).toInt32).toInt = (bt.toInt % 4294967296) / 262144 := (c_iushr bt (18 : Int32) 18 (by decide) (by decide)); have r2 := rng32 ((bt.toUInt32 >>> ((18 : Int32) &&& 31).toUInt32).toInt32); have r3 : (((bt.toUInt32 >>> ((18 : Int32) &&& 31).toUInt32).toInt32) &&& (63 : Int32)).toInt = ((bt.toUInt32 >>> ((18 : Int32) &&& 31).toUInt32).toInt32).toInt % 64 := (c_mask ((bt.toUInt32 >>> ((18 : Int32) &&& 31).toUInt32).toInt32) (63 : Int32) 6 (by decide) (by decide)); have r4 := rng32 (((bt.toUInt32 >>> ((18 : Int32) &&& 31).toUInt32).toInt32) &&& (63 : Int32)); have r5 : (64 : Int32).toInt = 64 := (by decide); have r6 := hbits; have r7 := b_za; have r8 := b_zb; rw [Int32.lt_iff_toInt_lt]; omega)⟩ (en_at (by have r0 := rng32 bt; have r1 : ((bt.toUInt32 >>> ((18 : Int32) &&& 31).toUInt32).toInt32).toInt = (bt.toInt % 4294967296) / 262144 := (c_iushr bt (18 : Int32) 18 (by decide) (by decide)); have r2 := rng32 ((bt.toUInt32 >>> ((18 : Int32) &&& 31).toUInt32).toInt32); have r3 : (((bt.toUInt32 >>> ((18 : Int32) &&& 31).toUInt32).toInt32) &&& (63 : Int32)).toInt = ((bt.toUInt32 >>> ((18 : Int32) &&& 31).toUInt32).toInt32).toInt % 64 := (c_mask ((bt.toUInt32 >>> ((18 : Int32) &&& 31).toUInt32).toInt32) (63 : Int32) 6 (by decide) (by decide)); have r4 := rng32 (((bt.toUInt32 >>> ((18 : Int32) &&& 31).toUInt32).toInt32) &&& (63 : Int32)); have r5 : (0 : Int32).toInt = 0 := (by decide); have r6 := hbits; have r7 := b_za; have r8 := b_zb; apply Int32.toInt_inj.mp; omega)) (Or.inr (Or.inr (Or.inl ⟨rfl, rfl⟩))) rfl rfl (hb hby d198) ?_
  refine k_pure (g' := (mkF m 91 #[.val (.ref x), .val (.ref q), .val (.int (0 : Int32)), .val (.int (3 : Int32)), .val (.ref t), .val (.int (0 : Int32)), .val (.int (1 : Int32)), .val (.ref tb), .val (.int (3 : Int32)), .val (.int (1 : Int32)), .val (.int bt)] [(.int ((en (0 : Int32)).toInt8.toInt32)), (.int (0 : Int32)), (.ref t)])) (fun _ J _ j => XS.i2b J hx rfl (hb hby d199) rfl j) ?_
  refine k_stB hx pf_1 ⟨by decide, by decide⟩ 0 (by decide) (Nat.le_of_ble_eq_true rfl) (by omega) (fun q => q) rfl rfl (hb hby d200) ?_
  intro h_4 O_5 W_6 A_7
  have z_8 := W_6.size
  have V_9 : Arv Z h_4 t kb .byte (4 : Int32) [(.int ((en (0 : Int32)).toInt8.toInt32)), (.int (0 : Int32)), (.int (0 : Int32)), (.int (0 : Int32))] (.int (0 : Int32)) := by rw [u_narb] at A_7; exact A_7
  refine k_pure (g' := (mkF m 101 #[.val (.ref x), .val (.ref q), .val (.int (0 : Int32)), .val (.int (3 : Int32)), .val (.ref t), .val (.int (0 : Int32)), .val (.int (1 : Int32)), .val (.ref tb), .val (.int (3 : Int32)), .val (.int (2 : Int32)), .val (.int bt)] [(.ref tb), (.int (1 : Int32)), (.ref t)])) (fun TT HH tt kk => XS.aload HH hx rfl (hb hby d201) rfl rfl (XS.iload HH hx rfl (hb hby d202) rfl (XS.iinc HH hx rfl (hb hby d203) rfl (l' := #[.val (.ref x), .val (.ref q), .val (.int (0 : Int32)), .val (.int (3 : Int32)), .val (.ref t), .val (.int (0 : Int32)), .val (.int (1 : Int32)), .val (.ref tb), .val (.int (3 : Int32)), .val (.int (2 : Int32)), .val (.int bt)]) rfl (XS.aload HH hx rfl (hb hby d204) rfl rfl kk)))) ?_
  refine k_pure (g' := (mkF m 108 #[.val (.ref x), .val (.ref q), .val (.int (0 : Int32)), .val (.int (3 : Int32)), .val (.ref t), .val (.int (0 : Int32)), .val (.int (1 : Int32)), .val (.ref tb), .val (.int (3 : Int32)), .val (.int (2 : Int32)), .val (.int bt)] [(.int (63 : Int32)), (.int ((bt.toUInt32 >>> ((12 : Int32) &&& 31).toUInt32).toInt32)), (.ref tb), (.int (1 : Int32)), (.ref t)])) (fun TT HH tt kk => XS.iload HH hx rfl (hb hby d205) rfl (XS.bipush HH hx rfl (hb hby d206) (XS.iushr HH hx rfl (hb hby d207) rfl (XS.bipush HH hx rfl (hb hby d208) kk)))) ?_
  refine k_pure (g' := (mkF m 109 #[.val (.ref x), .val (.ref q), .val (.int (0 : Int32)), .val (.int (3 : Int32)), .val (.ref t), .val (.int (0 : Int32)), .val (.int (1 : Int32)), .val (.ref tb), .val (.int (3 : Int32)), .val (.int (2 : Int32)), .val (.int bt)] [(.int (((bt.toUInt32 >>> ((12 : Int32) &&& 31).toUInt32).toInt32) &&& (63 : Int32))), (.ref tb), (.int (1 : Int32)), (.ref t)])) (fun _ J _ j => XS.iand J hx rfl (hb hby d209) rfl j) ?_
  have F_10 : Arv Z h_4 tb kt .char (64 : Int32) (T64.map Value.int) (.int (0 : Int32)) := a_t.ext O_5.2
  refine k_aget hx (v := (.int (en ((16 : Int32) ||| (za >>> ((4 : Int32) &&& 31)))))) F_10 ⟨(by have r0 := rng32 bt; have r1 : ((bt.toUInt32 >>> ((12 : Int32) &&& 31).toUInt32).toInt32).toInt = (bt.toInt % 4294967296) / 4096 := (c_iushr bt (12 : Int32) 12 (by decide) (by decide)); have r2 := rng32 ((bt.toUInt32 >>> ((12 : Int32) &&& 31).toUInt32).toInt32); have r3 : (((bt.toUInt32 >>> ((12 : Int32) &&& 31).toUInt32).toInt32) &&& (63 : Int32)).toInt = ((bt.toUInt32 >>> ((12 : Int32) &&& 31).toUInt32).toInt32).toInt % 64 := (c_mask ((bt.toUInt32 >>> ((12 : Int32) &&& 31).toUInt32).toInt32) (63 : Int32) 6 (by decide) (by decide)); have r4 := rng32 (((bt.toUInt32 >>> ((12 : Int32) &&& 31).toUInt32).toInt32) &&& (63 : Int32)); have r5 : (0 : Int32).toInt = 0 := (by decide); have r6 := hbits; have r7 := b_za; have r8 := b_zb; have r9 := t1 b_za; rw [Int32.lt_iff_toInt_lt]; omega), (by have r0 := rng32 bt; have r1 : ((bt.toUInt32 >>> ((12 : Int32) &&& 31).toUInt32).toInt32).toInt = (bt.toInt % 4294967296) / 4096 := (c_iushr bt (12 : Int32) 12 (by decide) (by decide)); have r2 := rng32 ((bt.toUInt32 >>> ((12 : Int32) &&& 31).toUInt32).toInt32); have r3 : (((bt.toUInt32 >>> ((12 : Int32) &&& 31).toUInt32).toInt32) &&& (63 : Int32)).toInt = ((bt.toUInt32 >>> ((12 : Int32) &&& 31).toUInt32).toInt32).toInt % 64 := (c_mask ((bt.toUInt32 >>> ((12 : Int32) &&& 31).toUInt32).toInt32) (63 : Int32) 6 (by decide) (by decide)); have r4 := rng32 (((bt.toUInt32 >>> ((12 : Int32) &&& 31).toUInt32).toInt32) &&& (63 : Int32)); have r5 : (64 : Int32).toInt = 64 := (by decide); have r6 := hbits; have r7 := b_za; have r8 := b_zb; have r9 := t1 b_za; rw [Int32.lt_iff_toInt_lt]; omega)⟩ (en_at (by have r0 := rng32 bt; have r1 : ((bt.toUInt32 >>> ((12 : Int32) &&& 31).toUInt32).toInt32).toInt = (bt.toInt % 4294967296) / 4096 := (c_iushr bt (12 : Int32) 12 (by decide) (by decide)); have r2 := rng32 ((bt.toUInt32 >>> ((12 : Int32) &&& 31).toUInt32).toInt32); have r3 : (((bt.toUInt32 >>> ((12 : Int32) &&& 31).toUInt32).toInt32) &&& (63 : Int32)).toInt = ((bt.toUInt32 >>> ((12 : Int32) &&& 31).toUInt32).toInt32).toInt % 64 := (c_mask ((bt.toUInt32 >>> ((12 : Int32) &&& 31).toUInt32).toInt32) (63 : Int32) 6 (by decide) (by decide)); have r4 := rng32 (((bt.toUInt32 >>> ((12 : Int32) &&& 31).toUInt32).toInt32) &&& (63 : Int32)); have r5 : (16 : Int32).toInt = 16 := (by decide); have r6 := rng32 za; have r7 : (za >>> ((4 : Int32) &&& 31)).toInt = za.toInt / 16 := (c_ishr za (4 : Int32) 4 (by decide)); have r8 := rng32 (za >>> ((4 : Int32) &&& 31)); have r9 := rng32 ((16 : Int32) ||| (za >>> ((4 : Int32) &&& 31))); have r10 := hbits; have r11 := b_za; have r12 := b_zb; have r13 := t1 b_za; apply Int32.toInt_inj.mp; omega)) (Or.inr (Or.inr (Or.inl ⟨rfl, rfl⟩))) rfl rfl (hb hby d210) ?_
  refine k_pure (g' := (mkF m 111 #[.val (.ref x), .val (.ref q), .val (.int (0 : Int32)), .val (.int (3 : Int32)), .val (.ref t), .val (.int (0 : Int32)), .val (.int (1 : Int32)), .val (.ref tb), .val (.int (3 : Int32)), .val (.int (2 : Int32)), .val (.int bt)] [(.int ((en ((16 : Int32) ||| (za >>> ((4 : Int32) &&& 31)))).toInt8.toInt32)), (.int (1 : Int32)), (.ref t)])) (fun _ J _ j => XS.i2b J hx rfl (hb hby d211) rfl j) ?_
  refine k_stB hx V_9 ⟨by decide, by decide⟩ 1 (by decide) (Nat.le_of_ble_eq_true rfl) (by omega) (fun q => q) rfl rfl (hb hby d212) ?_
  intro h_11 O_12 W_13 A_14
  have z_15 := W_13.size
  have V_16 : Arv Z h_11 t kb .byte (4 : Int32) [(.int ((en (0 : Int32)).toInt8.toInt32)), (.int ((en ((16 : Int32) ||| (za >>> ((4 : Int32) &&& 31)))).toInt8.toInt32)), (.int (0 : Int32)), (.int (0 : Int32))] (.int (0 : Int32)) := by rw [u_narb] at A_14; exact A_14
  refine k_pure (g' := (mkF m 121 #[.val (.ref x), .val (.ref q), .val (.int (0 : Int32)), .val (.int (3 : Int32)), .val (.ref t), .val (.int (0 : Int32)), .val (.int (1 : Int32)), .val (.ref tb), .val (.int (3 : Int32)), .val (.int (3 : Int32)), .val (.int bt)] [(.ref tb), (.int (2 : Int32)), (.ref t)])) (fun TT HH tt kk => XS.aload HH hx rfl (hb hby d213) rfl rfl (XS.iload HH hx rfl (hb hby d214) rfl (XS.iinc HH hx rfl (hb hby d215) rfl (l' := #[.val (.ref x), .val (.ref q), .val (.int (0 : Int32)), .val (.int (3 : Int32)), .val (.ref t), .val (.int (0 : Int32)), .val (.int (1 : Int32)), .val (.ref tb), .val (.int (3 : Int32)), .val (.int (3 : Int32)), .val (.int bt)]) rfl (XS.aload HH hx rfl (hb hby d216) rfl rfl kk)))) ?_
  refine k_pure (g' := (mkF m 128 #[.val (.ref x), .val (.ref q), .val (.int (0 : Int32)), .val (.int (3 : Int32)), .val (.ref t), .val (.int (0 : Int32)), .val (.int (1 : Int32)), .val (.ref tb), .val (.int (3 : Int32)), .val (.int (3 : Int32)), .val (.int bt)] [(.int (63 : Int32)), (.int ((bt.toUInt32 >>> ((6 : Int32) &&& 31).toUInt32).toInt32)), (.ref tb), (.int (2 : Int32)), (.ref t)])) (fun TT HH tt kk => XS.iload HH hx rfl (hb hby d217) rfl (XS.bipush HH hx rfl (hb hby d218) (XS.iushr HH hx rfl (hb hby d219) rfl (XS.bipush HH hx rfl (hb hby d220) kk)))) ?_
  refine k_pure (g' := (mkF m 129 #[.val (.ref x), .val (.ref q), .val (.int (0 : Int32)), .val (.int (3 : Int32)), .val (.ref t), .val (.int (0 : Int32)), .val (.int (1 : Int32)), .val (.ref tb), .val (.int (3 : Int32)), .val (.int (3 : Int32)), .val (.int bt)] [(.int (((bt.toUInt32 >>> ((6 : Int32) &&& 31).toUInt32).toInt32) &&& (63 : Int32))), (.ref tb), (.int (2 : Int32)), (.ref t)])) (fun _ J _ j => XS.iand J hx rfl (hb hby d221) rfl j) ?_
  have F_17 : Arv Z h_11 tb kt .char (64 : Int32) (T64.map Value.int) (.int (0 : Int32)) := a_t.ext O_12.2
  refine k_aget hx (v := (.int (en (((za &&& (15 : Int32)) <<< ((2 : Int32) &&& 31)) ||| (zb >>> ((6 : Int32) &&& 31)))))) F_17 ⟨(by have r0 := rng32 bt; have r1 : ((bt.toUInt32 >>> ((6 : Int32) &&& 31).toUInt32).toInt32).toInt = (bt.toInt % 4294967296) / 64 := (c_iushr bt (6 : Int32) 6 (by decide) (by decide)); have r2 := rng32 ((bt.toUInt32 >>> ((6 : Int32) &&& 31).toUInt32).toInt32); have r3 : (((bt.toUInt32 >>> ((6 : Int32) &&& 31).toUInt32).toInt32) &&& (63 : Int32)).toInt = ((bt.toUInt32 >>> ((6 : Int32) &&& 31).toUInt32).toInt32).toInt % 64 := (c_mask ((bt.toUInt32 >>> ((6 : Int32) &&& 31).toUInt32).toInt32) (63 : Int32) 6 (by decide) (by decide)); have r4 := rng32 (((bt.toUInt32 >>> ((6 : Int32) &&& 31).toUInt32).toInt32) &&& (63 : Int32)); have r5 : (0 : Int32).toInt = 0 := (by decide); have r6 := hbits; have r7 := b_za; have r8 := b_zb; have r9 := t2 b_za b_zb; rw [Int32.lt_iff_toInt_lt]; omega), (by have r0 := rng32 bt; have r1 : ((bt.toUInt32 >>> ((6 : Int32) &&& 31).toUInt32).toInt32).toInt = (bt.toInt % 4294967296) / 64 := (c_iushr bt (6 : Int32) 6 (by decide) (by decide)); have r2 := rng32 ((bt.toUInt32 >>> ((6 : Int32) &&& 31).toUInt32).toInt32); have r3 : (((bt.toUInt32 >>> ((6 : Int32) &&& 31).toUInt32).toInt32) &&& (63 : Int32)).toInt = ((bt.toUInt32 >>> ((6 : Int32) &&& 31).toUInt32).toInt32).toInt % 64 := (c_mask ((bt.toUInt32 >>> ((6 : Int32) &&& 31).toUInt32).toInt32) (63 : Int32) 6 (by decide) (by decide)); have r4 := rng32 (((bt.toUInt32 >>> ((6 : Int32) &&& 31).toUInt32).toInt32) &&& (63 : Int32)); have r5 : (64 : Int32).toInt = 64 := (by decide); have r6 := hbits; have r7 := b_za; have r8 := b_zb; have r9 := t2 b_za b_zb; rw [Int32.lt_iff_toInt_lt]; omega)⟩ (en_at (by have r0 := rng32 bt; have r1 : ((bt.toUInt32 >>> ((6 : Int32) &&& 31).toUInt32).toInt32).toInt = (bt.toInt % 4294967296) / 64 := (c_iushr bt (6 : Int32) 6 (by decide) (by decide)); have r2 := rng32 ((bt.toUInt32 >>> ((6 : Int32) &&& 31).toUInt32).toInt32); have r3 : (((bt.toUInt32 >>> ((6 : Int32) &&& 31).toUInt32).toInt32) &&& (63 : Int32)).toInt = ((bt.toUInt32 >>> ((6 : Int32) &&& 31).toUInt32).toInt32).toInt % 64 := (c_mask ((bt.toUInt32 >>> ((6 : Int32) &&& 31).toUInt32).toInt32) (63 : Int32) 6 (by decide) (by decide)); have r4 := rng32 (((bt.toUInt32 >>> ((6 : Int32) &&& 31).toUInt32).toInt32) &&& (63 : Int32)); have r5 := rng32 za; have r6 : (za &&& (15 : Int32)).toInt = za.toInt % 16 := (c_mask za (15 : Int32) 4 (by decide) (by decide)); have r7 := rng32 (za &&& (15 : Int32)); have r8 : (((za &&& (15 : Int32)) <<< ((2 : Int32) &&& 31)).toInt - (za &&& (15 : Int32)).toInt * 4) % 4294967296 = 0 := (c_ishl (za &&& (15 : Int32)) (2 : Int32) 2 (by decide)); have r9 := rng32 ((za &&& (15 : Int32)) <<< ((2 : Int32) &&& 31)); have r10 := rng32 zb; have r11 : (zb >>> ((6 : Int32) &&& 31)).toInt = zb.toInt / 64 := (c_ishr zb (6 : Int32) 6 (by decide)); have r12 := rng32 (zb >>> ((6 : Int32) &&& 31)); have r13 := rng32 (((za &&& (15 : Int32)) <<< ((2 : Int32) &&& 31)) ||| (zb >>> ((6 : Int32) &&& 31))); have r14 := hbits; have r15 := b_za; have r16 := b_zb; have r17 := t2 b_za b_zb; apply Int32.toInt_inj.mp; omega)) (Or.inr (Or.inr (Or.inl ⟨rfl, rfl⟩))) rfl rfl (hb hby d222) ?_
  refine k_pure (g' := (mkF m 131 #[.val (.ref x), .val (.ref q), .val (.int (0 : Int32)), .val (.int (3 : Int32)), .val (.ref t), .val (.int (0 : Int32)), .val (.int (1 : Int32)), .val (.ref tb), .val (.int (3 : Int32)), .val (.int (3 : Int32)), .val (.int bt)] [(.int ((en (((za &&& (15 : Int32)) <<< ((2 : Int32) &&& 31)) ||| (zb >>> ((6 : Int32) &&& 31)))).toInt8.toInt32)), (.int (2 : Int32)), (.ref t)])) (fun _ J _ j => XS.i2b J hx rfl (hb hby d223) rfl j) ?_
  refine k_stB hx V_16 ⟨by decide, by decide⟩ 2 (by decide) (Nat.le_of_ble_eq_true rfl) (by omega) (fun q => q) rfl rfl (hb hby d224) ?_
  intro h_18 O_19 W_20 A_21
  have z_22 := W_20.size
  have V_23 : Arv Z h_18 t kb .byte (4 : Int32) [(.int ((en (0 : Int32)).toInt8.toInt32)), (.int ((en ((16 : Int32) ||| (za >>> ((4 : Int32) &&& 31)))).toInt8.toInt32)), (.int ((en (((za &&& (15 : Int32)) <<< ((2 : Int32) &&& 31)) ||| (zb >>> ((6 : Int32) &&& 31)))).toInt8.toInt32)), (.int (0 : Int32))] (.int (0 : Int32)) := by rw [u_narb] at A_21; exact A_21
  refine k_pure (g' := (mkF m 141 #[.val (.ref x), .val (.ref q), .val (.int (0 : Int32)), .val (.int (3 : Int32)), .val (.ref t), .val (.int (0 : Int32)), .val (.int (1 : Int32)), .val (.ref tb), .val (.int (3 : Int32)), .val (.int (4 : Int32)), .val (.int bt)] [(.ref tb), (.int (3 : Int32)), (.ref t)])) (fun TT HH tt kk => XS.aload HH hx rfl (hb hby d225) rfl rfl (XS.iload HH hx rfl (hb hby d226) rfl (XS.iinc HH hx rfl (hb hby d227) rfl (l' := #[.val (.ref x), .val (.ref q), .val (.int (0 : Int32)), .val (.int (3 : Int32)), .val (.ref t), .val (.int (0 : Int32)), .val (.int (1 : Int32)), .val (.ref tb), .val (.int (3 : Int32)), .val (.int (4 : Int32)), .val (.int bt)]) rfl (XS.aload HH hx rfl (hb hby d228) rfl rfl kk)))) ?_
  refine k_pure (g' := (mkF m 146 #[.val (.ref x), .val (.ref q), .val (.int (0 : Int32)), .val (.int (3 : Int32)), .val (.ref t), .val (.int (0 : Int32)), .val (.int (1 : Int32)), .val (.ref tb), .val (.int (3 : Int32)), .val (.int (4 : Int32)), .val (.int bt)] [(.int (bt &&& (63 : Int32))), (.ref tb), (.int (3 : Int32)), (.ref t)])) (fun TT HH tt kk => XS.iload HH hx rfl (hb hby d229) rfl (XS.bipush HH hx rfl (hb hby d230) (XS.iand HH hx rfl (hb hby d231) rfl kk))) ?_
  have F_24 : Arv Z h_18 tb kt .char (64 : Int32) (T64.map Value.int) (.int (0 : Int32)) := a_t.ext O_19.2
  refine k_aget hx (v := (.int (en (zb &&& (63 : Int32))))) F_24 ⟨(by have r0 := rng32 bt; have r1 : (bt &&& (63 : Int32)).toInt = bt.toInt % 64 := (c_mask bt (63 : Int32) 6 (by decide) (by decide)); have r2 := rng32 (bt &&& (63 : Int32)); have r3 : (0 : Int32).toInt = 0 := (by decide); have r4 := hbits; have r5 := b_za; have r6 := b_zb; rw [Int32.lt_iff_toInt_lt]; omega), (by have r0 := rng32 bt; have r1 : (bt &&& (63 : Int32)).toInt = bt.toInt % 64 := (c_mask bt (63 : Int32) 6 (by decide) (by decide)); have r2 := rng32 (bt &&& (63 : Int32)); have r3 : (64 : Int32).toInt = 64 := (by decide); have r4 := hbits; have r5 := b_za; have r6 := b_zb; rw [Int32.lt_iff_toInt_lt]; omega)⟩ (en_at (by have r0 := rng32 bt; have r1 : (bt &&& (63 : Int32)).toInt = bt.toInt % 64 := (c_mask bt (63 : Int32) 6 (by decide) (by decide)); have r2 := rng32 (bt &&& (63 : Int32)); have r3 := rng32 zb; have r4 : (zb &&& (63 : Int32)).toInt = zb.toInt % 64 := (c_mask zb (63 : Int32) 6 (by decide) (by decide)); have r5 := rng32 (zb &&& (63 : Int32)); have r6 := hbits; have r7 := b_za; have r8 := b_zb; apply Int32.toInt_inj.mp; omega)) (Or.inr (Or.inr (Or.inl ⟨rfl, rfl⟩))) rfl rfl (hb hby d232) ?_
  refine k_pure (g' := (mkF m 148 #[.val (.ref x), .val (.ref q), .val (.int (0 : Int32)), .val (.int (3 : Int32)), .val (.ref t), .val (.int (0 : Int32)), .val (.int (1 : Int32)), .val (.ref tb), .val (.int (3 : Int32)), .val (.int (4 : Int32)), .val (.int bt)] [(.int ((en (zb &&& (63 : Int32))).toInt8.toInt32)), (.int (3 : Int32)), (.ref t)])) (fun _ J _ j => XS.i2b J hx rfl (hb hby d233) rfl j) ?_
  refine k_stB hx V_23 ⟨by decide, by decide⟩ 3 (by decide) (Nat.le_of_ble_eq_true rfl) (by omega) (fun q => q) rfl rfl (hb hby d234) ?_
  intro h_25 O_26 W_27 A_28
  have z_29 := W_27.size
  have V_30 : Arv Z h_25 t kb .byte (4 : Int32) [(.int ((en (0 : Int32)).toInt8.toInt32)), (.int ((en ((16 : Int32) ||| (za >>> ((4 : Int32) &&& 31)))).toInt8.toInt32)), (.int ((en (((za &&& (15 : Int32)) <<< ((2 : Int32) &&& 31)) ||| (zb >>> ((6 : Int32) &&& 31)))).toInt8.toInt32)), (.int ((en (zb &&& (63 : Int32))).toInt8.toInt32))] (.int (0 : Int32)) := by rw [u_narb] at A_28; exact A_28
  refine k_pure (g' := (mkF m 152 #[.val (.ref x), .val (.ref q), .val (.int (0 : Int32)), .val (.int (3 : Int32)), .val (.ref t), .val (.int (0 : Int32)), .val (.int (1 : Int32)), .val (.ref tb), .val (.int (3 : Int32)), .val (.int (4 : Int32)), .val (.int bt)] [])) (fun TT HH tt kk => XS.goto HH hx rfl (pc0 := 149) (pc' := 23) rfl (hb hby d235) (by decide) (by decide) (XS.iload HH hx rfl (hb hby d161) rfl (XS.iloadN HH hx rfl (hb hby d162) rfl (XS.icmpYes HH hx rfl (pc0 := 26) (pc' := 152) rfl (hb hby d163) rfl (flt (by decide : ¬ ((3 : Int32) < (3 : Int32)))).2.1 (by decide) (by decide) kk)))) ?_
  exact k_ret0 hx hlk hret (hb hby d236) (by decide) (by decide) ⟨rfl, rfl, (((((Keep.refl _ _).wr W_6 (Or.inl (by simp))).wr W_13 (Or.inl (by simp))).wr W_20 (Or.inl (by simp))).wr W_27 (Or.inl (by simp))), V_30⟩
def Q_ebk3 (Z : State) (G1 : Int32) (G3 : Value) (e0 tb : Addr) (kt : ClassId) (x : Addr) (q : Addr) (kq : ClassId) (t : Addr) (kb : ClassId) (za : Int32) (zb : Int32) (zc : Int32) (h0 : Heap) (n0 : Nat) (bk : Addr → Prop) (v : Option Value) (h : Heap) (bk' : Addr → Prop) : Prop := v = none ∧ NoB = bk' ∧ Keep h0 h [t] ∧ (Arv Z h t kb .byte (6 : Int32) [(.int ((en (0 : Int32)).toInt8.toInt32)), (.int ((en ((16 : Int32) ||| (za >>> ((4 : Int32) &&& 31)))).toInt8.toInt32)), (.int ((en (((za &&& (15 : Int32)) <<< ((2 : Int32) &&& 31)) ||| (zb >>> ((6 : Int32) &&& 31)))).toInt8.toInt32)), (.int ((en (zb &&& (63 : Int32))).toInt8.toInt32)), (.int (0 : Int32)), (.int (0 : Int32))] (.int (0 : Int32)))
abbrev RM_ebk3 : Room := { frames := 0, cells := 0, slots := 0, locals := 0 }
theorem ef_ebk3 (m : MethodId) (x0 : Addr) (x1 : Addr) (x2 : Int32) (x3 : Int32) (x4 : Addr) (x5 : Int32) (x6 : Int32) : entryFrame m #[(.ref x0), (.ref x1), (.int x2), (.int x3), (.ref x4), (.int x5), (.int x6)] 11 = mkF m 0 #[.val (.ref x0), .val (.ref x1), .val (.int x2), .val (.int x3), .val (.ref x4), .val (.int x5), .val (.int x6), .unset, .unset, .unset, .unset] [] := by first | (simp [entryFrame, mkF, argsToLocals, Value.category]; done) | rfl
set_option maxRecDepth 65536 in
set_option maxHeartbeats 40000000 in
theorem rm_ebk3 (l : Launch) (Z : State) (a0 : Array Value) (G1 : Int32) (G3 : Value) (e0 tb : Addr) (kt : ClassId) (hX : Ctx Z a0 G1 G3) (hY : More Z e0 tb kt) (n0 : Nat) (h0 : Heap) (O0 : Old Z n0 h0) (x : Addr) (q : Addr) (kq : ClassId) (t : Addr) (kb : ClassId) (za : Int32) (zb : Int32) (zc : Int32) (pf_0 : Arv Z h0 q kq .byte (4 : Int32) [(.int (1 : Int32)), (.int (za.toInt8.toInt32)), (.int (zb.toInt8.toInt32)), (.int (zc.toInt8.toInt32))] (.int (0 : Int32))) (pf_1 : Arv Z h0 t kb .byte (6 : Int32) [(.int (0 : Int32)), (.int (0 : Int32)), (.int (0 : Int32)), (.int (0 : Int32)), (.int (0 : Int32)), (.int (0 : Int32))] (.int (0 : Int32))) (gt : n0 ≤ t) (qt : @Ne Nat q t) (b_za : 0 ≤ za.toInt ∧ za.toInt ≤ 255) (b_zb : 0 ≤ zb.toInt ∧ zb.toInt ≤ 255) (b_zc : 0 ≤ zc.toInt ∧ zc.toInt ≤ 255) (ws : List Jvm.Cond) : Met l Z EL1 n0 NoB (⟨"java/util/Base64$Encoder", "encodeBlock", "([BII[BIZ)V"⟩ : MethodName) jdk_2452_method_9_code 11 (Option.none : Option FieldType) RM_ebk3 #[(.ref x), (.ref q), (.int (0 : Int32)), (.int (3 : Int32)), (.ref t), (.int (0 : Int32)), (.int (1 : Int32))] h0 (Q_ebk3 Z G1 G3 e0 tb kt x q kq t kb za zb zc h0 n0 NoB) ws := by
  have hX' := hX
  obtain ⟨hw, hE, S1, P1, S3, P3⟩ := hX'
  have hY' := hY
  obtain ⟨s_e, x_e, f_u, f_n, f_l, f_p, s_t, a_t⟩ := hY'
  have wT : ∀ (i : Nat) {d : Jvm.Cond}, tables_1[i]? = some d → d.before a0 Z = true := fun i d h => hw d (List.mem_of_getElem? h)
  have z0 : n0 ≤ h0.size := by rw [← O0.1]; exact O0.2.1
  refine Met.of (by decide +kernel) O0 hE ?_
  intro p e s m below meth c hx hby hml hret hlk hnm
  refine k_cast (ef_ebk3 m x q (0 : Int32) (3 : Int32) t (0 : Int32) (1 : Int32)) ?_
  show Run p l e _ s m _ below meth c Z EL1 _ n0 NoB h0 0 0 (mkF m 0 #[.val (.ref x), .val (.ref q), .val (.int (0 : Int32)), .val (.int (3 : Int32)), .val (.ref t), .val (.int (0 : Int32)), .val (.int (1 : Int32)), .unset, .unset, .unset, .unset] []) _
  have lt_1 : @LT.lt Nat _ q (Array.size h0) := pf_0.lt
  have lt_2 : @LT.lt Nat _ t (Array.size h0) := pf_1.lt
  refine k_pure (g' := (mkF m 5 #[.val (.ref x), .val (.ref q), .val (.int (0 : Int32)), .val (.int (3 : Int32)), .val (.ref t), .val (.int (0 : Int32)), .val (.int (1 : Int32)), .unset, .unset, .unset, .unset] [])) (fun TT HH tt kk => XS.iload HH hx rfl (hb hby d152) rfl (XS.ifNo HH hx rfl (hb hby d153) rfl ((if0 _ _).trans (feq (by decide : ¬ ((1 : Int32) = (0 : Int32)))).1) kk)) ?_
  refine k_getS hx (host := "") (Or.inl (wT 83 rfl)) Via.refl (s_t.ext O0.2) rfl (hb hby d154) ?_
  refine k_pure (g' := (mkF m 19 #[.val (.ref x), .val (.ref q), .val (.int (0 : Int32)), .val (.int (3 : Int32)), .val (.ref t), .val (.int (0 : Int32)), .val (.int (1 : Int32)), .val (.ref tb), .val (.int (0 : Int32)), .unset, .unset] [])) (fun TT HH tt kk => XS.goto HH hx rfl (pc0 := 8) (pc' := 14) rfl (hb hby d155) (by decide) (by decide) (XS.astore HH hx rfl (hb hby d156) rfl rfl (l' := #[.val (.ref x), .val (.ref q), .val (.int (0 : Int32)), .val (.int (3 : Int32)), .val (.ref t), .val (.int (0 : Int32)), .val (.int (1 : Int32)), .val (.ref tb), .unset, .unset, .unset]) rfl (XS.iloadN HH hx rfl (hb hby d157) rfl (XS.istore HH hx rfl (hb hby d158) rfl (l' := #[.val (.ref x), .val (.ref q), .val (.int (0 : Int32)), .val (.int (3 : Int32)), .val (.ref t), .val (.int (0 : Int32)), .val (.int (1 : Int32)), .val (.ref tb), .val (.int (0 : Int32)), .unset, .unset]) rfl kk)))) ?_
  refine k_pure (g' := (mkF m 26 #[.val (.ref x), .val (.ref q), .val (.int (0 : Int32)), .val (.int (3 : Int32)), .val (.ref t), .val (.int (0 : Int32)), .val (.int (1 : Int32)), .val (.ref tb), .val (.int (0 : Int32)), .val (.int (0 : Int32)), .unset] [(.int (3 : Int32)), (.int (0 : Int32))])) (fun TT HH tt kk => XS.iload HH hx rfl (hb hby d159) rfl (XS.istore HH hx rfl (hb hby d160) rfl (l' := #[.val (.ref x), .val (.ref q), .val (.int (0 : Int32)), .val (.int (3 : Int32)), .val (.ref t), .val (.int (0 : Int32)), .val (.int (1 : Int32)), .val (.ref tb), .val (.int (0 : Int32)), .val (.int (0 : Int32)), .unset]) rfl (XS.iload HH hx rfl (hb hby d161) rfl (XS.iloadN HH hx rfl (hb hby d162) rfl kk)))) ?_
  refine k_pure (g' := (mkF m 35 #[.val (.ref x), .val (.ref q), .val (.int (0 : Int32)), .val (.int (3 : Int32)), .val (.ref t), .val (.int (0 : Int32)), .val (.int (1 : Int32)), .val (.ref tb), .val (.int (1 : Int32)), .val (.int (0 : Int32)), .unset] [(.int (0 : Int32)), (.ref q)])) (fun TT HH tt kk => XS.icmpNo HH hx rfl (hb hby d163) rfl (tlt (by decide : ((0 : Int32) < (3 : Int32)))).2.1 (XS.aloadN HH hx rfl (hb hby d164) rfl rfl (XS.iload HH hx rfl (hb hby d165) rfl (XS.iinc HH hx rfl (hb hby d166) rfl (l' := #[.val (.ref x), .val (.ref q), .val (.int (0 : Int32)), .val (.int (3 : Int32)), .val (.ref t), .val (.int (0 : Int32)), .val (.int (1 : Int32)), .val (.ref tb), .val (.int (1 : Int32)), .val (.int (0 : Int32)), .unset]) rfl kk)))) ?_
  refine k_aget hx (v := (.int (1 : Int32))) pf_0 ⟨by decide, by decide⟩ rfl (Or.inr (Or.inr (Or.inr (Or.inl ⟨rfl, rfl⟩)))) rfl rfl (hb hby d167) ?_
  refine k_pure (g' := (mkF m 43 #[.val (.ref x), .val (.ref q), .val (.int (0 : Int32)), .val (.int (3 : Int32)), .val (.ref t), .val (.int (0 : Int32)), .val (.int (1 : Int32)), .val (.ref tb), .val (.int (1 : Int32)), .val (.int (0 : Int32)), .unset] [(.int (65536 : Int32))])) (fun TT HH tt kk => XS.sipush HH hx rfl (hb hby d168) (XS.iand HH hx rfl (hb hby d169) rfl (XS.bipush HH hx rfl (hb hby d170) (XS.ishl HH hx rfl (hb hby d171) rfl kk)))) ?_
  refine k_pure (g' := (mkF m 49 #[.val (.ref x), .val (.ref q), .val (.int (0 : Int32)), .val (.int (3 : Int32)), .val (.ref t), .val (.int (0 : Int32)), .val (.int (1 : Int32)), .val (.ref tb), .val (.int (2 : Int32)), .val (.int (0 : Int32)), .unset] [(.int (1 : Int32)), (.ref q), (.int (65536 : Int32))])) (fun TT HH tt kk => XS.aloadN HH hx rfl (hb hby d172) rfl rfl (XS.iload HH hx rfl (hb hby d173) rfl (XS.iinc HH hx rfl (hb hby d174) rfl (l' := #[.val (.ref x), .val (.ref q), .val (.int (0 : Int32)), .val (.int (3 : Int32)), .val (.ref t), .val (.int (0 : Int32)), .val (.int (1 : Int32)), .val (.ref tb), .val (.int (2 : Int32)), .val (.int (0 : Int32)), .unset]) rfl kk))) ?_
  refine k_aget hx (v := (.int (za.toInt8.toInt32))) pf_0 ⟨by decide, by decide⟩ rfl (Or.inr (Or.inr (Or.inr (Or.inl ⟨rfl, rfl⟩)))) rfl rfl (hb hby d175) ?_
  refine k_pure (g' := (mkF m 54 #[.val (.ref x), .val (.ref q), .val (.int (0 : Int32)), .val (.int (3 : Int32)), .val (.ref t), .val (.int (0 : Int32)), .val (.int (1 : Int32)), .val (.ref tb), .val (.int (2 : Int32)), .val (.int (0 : Int32)), .unset] [(.int ((za.toInt8.toInt32) &&& (255 : Int32))), (.int (65536 : Int32))])) (fun TT HH tt kk => XS.sipush HH hx rfl (hb hby d176) (XS.iand HH hx rfl (hb hby d177) rfl kk)) ?_
  rw [m8 b_za]
  refine k_pure (g' := (mkF m 59 #[.val (.ref x), .val (.ref q), .val (.int (0 : Int32)), .val (.int (3 : Int32)), .val (.ref t), .val (.int (0 : Int32)), .val (.int (1 : Int32)), .val (.ref tb), .val (.int (2 : Int32)), .val (.int (0 : Int32)), .unset] [(.ref q), (.int ((65536 : Int32) ||| (za <<< ((8 : Int32) &&& 31))))])) (fun TT HH tt kk => XS.bipush HH hx rfl (hb hby d178) (XS.ishl HH hx rfl (hb hby d179) rfl (XS.ior HH hx rfl (hb hby d180) rfl (XS.aloadN HH hx rfl (hb hby d181) rfl rfl kk)))) ?_
  refine k_pure (g' := (mkF m 64 #[.val (.ref x), .val (.ref q), .val (.int (0 : Int32)), .val (.int (3 : Int32)), .val (.ref t), .val (.int (0 : Int32)), .val (.int (1 : Int32)), .val (.ref tb), .val (.int (3 : Int32)), .val (.int (0 : Int32)), .unset] [(.int (2 : Int32)), (.ref q), (.int ((65536 : Int32) ||| (za <<< ((8 : Int32) &&& 31))))])) (fun TT HH tt kk => XS.iload HH hx rfl (hb hby d182) rfl (XS.iinc HH hx rfl (hb hby d183) rfl (l' := #[.val (.ref x), .val (.ref q), .val (.int (0 : Int32)), .val (.int (3 : Int32)), .val (.ref t), .val (.int (0 : Int32)), .val (.int (1 : Int32)), .val (.ref tb), .val (.int (3 : Int32)), .val (.int (0 : Int32)), .unset]) rfl kk)) ?_
  refine k_aget hx (v := (.int (zb.toInt8.toInt32))) pf_0 ⟨by decide, by decide⟩ rfl (Or.inr (Or.inr (Or.inr (Or.inl ⟨rfl, rfl⟩)))) rfl rfl (hb hby d184) ?_
  refine k_pure (g' := (mkF m 69 #[.val (.ref x), .val (.ref q), .val (.int (0 : Int32)), .val (.int (3 : Int32)), .val (.ref t), .val (.int (0 : Int32)), .val (.int (1 : Int32)), .val (.ref tb), .val (.int (3 : Int32)), .val (.int (0 : Int32)), .unset] [(.int ((zb.toInt8.toInt32) &&& (255 : Int32))), (.int ((65536 : Int32) ||| (za <<< ((8 : Int32) &&& 31))))])) (fun TT HH tt kk => XS.sipush HH hx rfl (hb hby d185) (XS.iand HH hx rfl (hb hby d186) rfl kk)) ?_
  rw [m8 b_zb]
  refine k_pure (g' := (mkF m 72 #[.val (.ref x), .val (.ref q), .val (.int (0 : Int32)), .val (.int (3 : Int32)), .val (.ref t), .val (.int (0 : Int32)), .val (.int (1 : Int32)), .val (.ref tb), .val (.int (3 : Int32)), .val (.int (0 : Int32)), .val (.int (((65536 : Int32) ||| (za <<< ((8 : Int32) &&& 31))) ||| zb))] [])) (fun TT HH tt kk => XS.ior HH hx rfl (hb hby d187) rfl (XS.istore HH hx rfl (hb hby d188) rfl (l' := #[.val (.ref x), .val (.ref q), .val (.int (0 : Int32)), .val (.int (3 : Int32)), .val (.ref t), .val (.int (0 : Int32)), .val (.int (1 : Int32)), .val (.ref tb), .val (.int (3 : Int32)), .val (.int (0 : Int32)), .val (.int (((65536 : Int32) ||| (za <<< ((8 : Int32) &&& 31))) ||| zb))]) rfl kk)) ?_
  have hbits : ((((65536 : Int32) ||| (za <<< ((8 : Int32) &&& 31))) ||| zb)).toInt = 65536 + 256 * za.toInt + zb.toInt := t_bits b_za b_zb
  generalize (((65536 : Int32) ||| (za <<< ((8 : Int32) &&& 31))) ||| zb) = bt at hbits ⊢
  refine k_pure (g' := (mkF m 81 #[.val (.ref x), .val (.ref q), .val (.int (0 : Int32)), .val (.int (3 : Int32)), .val (.ref t), .val (.int (0 : Int32)), .val (.int (1 : Int32)), .val (.ref tb), .val (.int (3 : Int32)), .val (.int (1 : Int32)), .val (.int bt)] [(.ref tb), (.int (0 : Int32)), (.ref t)])) (fun TT HH tt kk => XS.aload HH hx rfl (hb hby d189) rfl rfl (XS.iload HH hx rfl (hb hby d190) rfl (XS.iinc HH hx rfl (hb hby d191) rfl (l' := #[.val (.ref x), .val (.ref q), .val (.int (0 : Int32)), .val (.int (3 : Int32)), .val (.ref t), .val (.int (0 : Int32)), .val (.int (1 : Int32)), .val (.ref tb), .val (.int (3 : Int32)), .val (.int (1 : Int32)), .val (.int bt)]) rfl (XS.aload HH hx rfl (hb hby d192) rfl rfl kk)))) ?_
  refine k_pure (g' := (mkF m 88 #[.val (.ref x), .val (.ref q), .val (.int (0 : Int32)), .val (.int (3 : Int32)), .val (.ref t), .val (.int (0 : Int32)), .val (.int (1 : Int32)), .val (.ref tb), .val (.int (3 : Int32)), .val (.int (1 : Int32)), .val (.int bt)] [(.int (63 : Int32)), (.int ((bt.toUInt32 >>> ((18 : Int32) &&& 31).toUInt32).toInt32)), (.ref tb), (.int (0 : Int32)), (.ref t)])) (fun TT HH tt kk => XS.iload HH hx rfl (hb hby d193) rfl (XS.bipush HH hx rfl (hb hby d194) (XS.iushr HH hx rfl (hb hby d195) rfl (XS.bipush HH hx rfl (hb hby d196) kk)))) ?_
  refine k_pure (g' := (mkF m 89 #[.val (.ref x), .val (.ref q), .val (.int (0 : Int32)), .val (.int (3 : Int32)), .val (.ref t), .val (.int (0 : Int32)), .val (.int (1 : Int32)), .val (.ref tb), .val (.int (3 : Int32)), .val (.int (1 : Int32)), .val (.int bt)] [(.int (((bt.toUInt32 >>> ((18 : Int32) &&& 31).toUInt32).toInt32) &&& (63 : Int32))), (.ref tb), (.int (0 : Int32)), (.ref t)])) (fun _ J _ j => XS.iand J hx rfl (hb hby d197) rfl j) ?_
  have F_3 : Arv Z h0 tb kt .char (64 : Int32) (T64.map Value.int) (.int (0 : Int32)) := a_t.ext O0.2
  refine k_aget hx (v := (.int (en (0 : Int32)))) F_3 ⟨(by have r0 := rng32 bt; have r1 : ((bt.toUInt32 >>> ((18 : Int32) &&& 31).toUInt32).toInt32).toInt = (bt.toInt % 4294967296) / 262144 := (c_iushr bt (18 : Int32) 18 (by decide) (by decide)); have r2 := rng32 ((bt.toUInt32 >>> ((18 : Int32) &&& 31).toUInt32).toInt32); have r3 : (((bt.toUInt32 >>> ((18 : Int32) &&& 31).toUInt32).toInt32) &&& (63 : Int32)).toInt = ((bt.toUInt32 >>> ((18 : Int32) &&& 31).toUInt32).toInt32).toInt % 64 := (c_mask ((bt.toUInt32 >>> ((18 : Int32) &&& 31).toUInt32).toInt32) (63 : Int32) 6 (by decide) (by decide)); have r4 := rng32 (((bt.toUInt32 >>> ((18 : Int32) &&& 31).toUInt32).toInt32) &&& (63 : Int32)); have r5 : (0 : Int32).toInt = 0 := (by decide); have r6 := hbits; have r7 := b_za; have r8 := b_zb; rw [Int32.lt_iff_toInt_lt]; omega), (by have r0 := rng32 bt; have r1 : ((bt.toUInt32 >>> ((18 : Int32) &&& 31).toUInt32).toInt32).toInt = (bt.toInt % 4294967296) / 262144 := (c_iushr bt (18 : Int32) 18 (by decide) (by decide)); have r2 := rng32 ((bt.toUInt32 >>> ((18 : Int32) &&& 31).toUInt32).toInt32); have r3 : (((bt.toUInt32 >>> ((18 : Int32) &&& 31).toUInt32).toInt32) &&& (63 : Int32)).toInt = ((bt.toUInt32 >>> ((18 : Int32) &&& 31).toUInt32).toInt32).toInt % 64 := (c_mask ((bt.toUInt32 >>> ((18 : Int32) &&& 31).toUInt32).toInt32) (63 : Int32) 6 (by decide) (by decide)); have r4 := rng32 (((bt.toUInt32 >>> ((18 : Int32) &&& 31).toUInt32).toInt32) &&& (63 : Int32)); have r5 : (64 : Int32).toInt = 64 := (by decide); have r6 := hbits; have r7 := b_za; have r8 := b_zb; rw [Int32.lt_iff_toInt_lt]; omega)⟩ (en_at (by have r0 := rng32 bt; have r1 : ((bt.toUInt32 >>> ((18 : Int32) &&& 31).toUInt32).toInt32).toInt = (bt.toInt % 4294967296) / 262144 := (c_iushr bt (18 : Int32) 18 (by decide) (by decide)); have r2 := rng32 ((bt.toUInt32 >>> ((18 : Int32) &&& 31).toUInt32).toInt32); have r3 : (((bt.toUInt32 >>> ((18 : Int32) &&& 31).toUInt32).toInt32) &&& (63 : Int32)).toInt = ((bt.toUInt32 >>> ((18 : Int32) &&& 31).toUInt32).toInt32).toInt % 64 := (c_mask ((bt.toUInt32 >>> ((18 : Int32) &&& 31).toUInt32).toInt32) (63 : Int32) 6 (by decide) (by decide)); have r4 := rng32 (((bt.toUInt32 >>> ((18 : Int32) &&& 31).toUInt32).toInt32) &&& (63 : Int32)); have r5 : (0 : Int32).toInt = 0 := (by decide); have r6 := hbits; have r7 := b_za; have r8 := b_zb; apply Int32.toInt_inj.mp; omega)) (Or.inr (Or.inr (Or.inl ⟨rfl, rfl⟩))) rfl rfl (hb hby d198) ?_
  refine k_pure (g' := (mkF m 91 #[.val (.ref x), .val (.ref q), .val (.int (0 : Int32)), .val (.int (3 : Int32)), .val (.ref t), .val (.int (0 : Int32)), .val (.int (1 : Int32)), .val (.ref tb), .val (.int (3 : Int32)), .val (.int (1 : Int32)), .val (.int bt)] [(.int ((en (0 : Int32)).toInt8.toInt32)), (.int (0 : Int32)), (.ref t)])) (fun _ J _ j => XS.i2b J hx rfl (hb hby d199) rfl j) ?_
  refine k_stB hx pf_1 ⟨by decide, by decide⟩ 0 (by decide) (Nat.le_of_ble_eq_true rfl) (by omega) (fun q => q) rfl rfl (hb hby d200) ?_
  intro h_4 O_5 W_6 A_7
  have z_8 := W_6.size
  have V_9 : Arv Z h_4 t kb .byte (6 : Int32) [(.int ((en (0 : Int32)).toInt8.toInt32)), (.int (0 : Int32)), (.int (0 : Int32)), (.int (0 : Int32)), (.int (0 : Int32)), (.int (0 : Int32))] (.int (0 : Int32)) := by rw [u_narb] at A_7; exact A_7
  refine k_pure (g' := (mkF m 101 #[.val (.ref x), .val (.ref q), .val (.int (0 : Int32)), .val (.int (3 : Int32)), .val (.ref t), .val (.int (0 : Int32)), .val (.int (1 : Int32)), .val (.ref tb), .val (.int (3 : Int32)), .val (.int (2 : Int32)), .val (.int bt)] [(.ref tb), (.int (1 : Int32)), (.ref t)])) (fun TT HH tt kk => XS.aload HH hx rfl (hb hby d201) rfl rfl (XS.iload HH hx rfl (hb hby d202) rfl (XS.iinc HH hx rfl (hb hby d203) rfl (l' := #[.val (.ref x), .val (.ref q), .val (.int (0 : Int32)), .val (.int (3 : Int32)), .val (.ref t), .val (.int (0 : Int32)), .val (.int (1 : Int32)), .val (.ref tb), .val (.int (3 : Int32)), .val (.int (2 : Int32)), .val (.int bt)]) rfl (XS.aload HH hx rfl (hb hby d204) rfl rfl kk)))) ?_
  refine k_pure (g' := (mkF m 108 #[.val (.ref x), .val (.ref q), .val (.int (0 : Int32)), .val (.int (3 : Int32)), .val (.ref t), .val (.int (0 : Int32)), .val (.int (1 : Int32)), .val (.ref tb), .val (.int (3 : Int32)), .val (.int (2 : Int32)), .val (.int bt)] [(.int (63 : Int32)), (.int ((bt.toUInt32 >>> ((12 : Int32) &&& 31).toUInt32).toInt32)), (.ref tb), (.int (1 : Int32)), (.ref t)])) (fun TT HH tt kk => XS.iload HH hx rfl (hb hby d205) rfl (XS.bipush HH hx rfl (hb hby d206) (XS.iushr HH hx rfl (hb hby d207) rfl (XS.bipush HH hx rfl (hb hby d208) kk)))) ?_
  refine k_pure (g' := (mkF m 109 #[.val (.ref x), .val (.ref q), .val (.int (0 : Int32)), .val (.int (3 : Int32)), .val (.ref t), .val (.int (0 : Int32)), .val (.int (1 : Int32)), .val (.ref tb), .val (.int (3 : Int32)), .val (.int (2 : Int32)), .val (.int bt)] [(.int (((bt.toUInt32 >>> ((12 : Int32) &&& 31).toUInt32).toInt32) &&& (63 : Int32))), (.ref tb), (.int (1 : Int32)), (.ref t)])) (fun _ J _ j => XS.iand J hx rfl (hb hby d209) rfl j) ?_
  have F_10 : Arv Z h_4 tb kt .char (64 : Int32) (T64.map Value.int) (.int (0 : Int32)) := a_t.ext O_5.2
  refine k_aget hx (v := (.int (en ((16 : Int32) ||| (za >>> ((4 : Int32) &&& 31)))))) F_10 ⟨(by have r0 := rng32 bt; have r1 : ((bt.toUInt32 >>> ((12 : Int32) &&& 31).toUInt32).toInt32).toInt = (bt.toInt % 4294967296) / 4096 := (c_iushr bt (12 : Int32) 12 (by decide) (by decide)); have r2 := rng32 ((bt.toUInt32 >>> ((12 : Int32) &&& 31).toUInt32).toInt32); have r3 : (((bt.toUInt32 >>> ((12 : Int32) &&& 31).toUInt32).toInt32) &&& (63 : Int32)).toInt = ((bt.toUInt32 >>> ((12 : Int32) &&& 31).toUInt32).toInt32).toInt % 64 := (c_mask ((bt.toUInt32 >>> ((12 : Int32) &&& 31).toUInt32).toInt32) (63 : Int32) 6 (by decide) (by decide)); have r4 := rng32 (((bt.toUInt32 >>> ((12 : Int32) &&& 31).toUInt32).toInt32) &&& (63 : Int32)); have r5 : (0 : Int32).toInt = 0 := (by decide); have r6 := hbits; have r7 := b_za; have r8 := b_zb; have r9 := t1 b_za; rw [Int32.lt_iff_toInt_lt]; omega), (by have r0 := rng32 bt; have r1 : ((bt.toUInt32 >>> ((12 : Int32) &&& 31).toUInt32).toInt32).toInt = (bt.toInt % 4294967296) / 4096 := (c_iushr bt (12 : Int32) 12 (by decide) (by decide)); have r2 := rng32 ((bt.toUInt32 >>> ((12 : Int32) &&& 31).toUInt32).toInt32); have r3 : (((bt.toUInt32 >>> ((12 : Int32) &&& 31).toUInt32).toInt32) &&& (63 : Int32)).toInt = ((bt.toUInt32 >>> ((12 : Int32) &&& 31).toUInt32).toInt32).toInt % 64 := (c_mask ((bt.toUInt32 >>> ((12 : Int32) &&& 31).toUInt32).toInt32) (63 : Int32) 6 (by decide) (by decide)); have r4 := rng32 (((bt.toUInt32 >>> ((12 : Int32) &&& 31).toUInt32).toInt32) &&& (63 : Int32)); have r5 : (64 : Int32).toInt = 64 := (by decide); have r6 := hbits; have r7 := b_za; have r8 := b_zb; have r9 := t1 b_za; rw [Int32.lt_iff_toInt_lt]; omega)⟩ (en_at (by have r0 := rng32 bt; have r1 : ((bt.toUInt32 >>> ((12 : Int32) &&& 31).toUInt32).toInt32).toInt = (bt.toInt % 4294967296) / 4096 := (c_iushr bt (12 : Int32) 12 (by decide) (by decide)); have r2 := rng32 ((bt.toUInt32 >>> ((12 : Int32) &&& 31).toUInt32).toInt32); have r3 : (((bt.toUInt32 >>> ((12 : Int32) &&& 31).toUInt32).toInt32) &&& (63 : Int32)).toInt = ((bt.toUInt32 >>> ((12 : Int32) &&& 31).toUInt32).toInt32).toInt % 64 := (c_mask ((bt.toUInt32 >>> ((12 : Int32) &&& 31).toUInt32).toInt32) (63 : Int32) 6 (by decide) (by decide)); have r4 := rng32 (((bt.toUInt32 >>> ((12 : Int32) &&& 31).toUInt32).toInt32) &&& (63 : Int32)); have r5 : (16 : Int32).toInt = 16 := (by decide); have r6 := rng32 za; have r7 : (za >>> ((4 : Int32) &&& 31)).toInt = za.toInt / 16 := (c_ishr za (4 : Int32) 4 (by decide)); have r8 := rng32 (za >>> ((4 : Int32) &&& 31)); have r9 := rng32 ((16 : Int32) ||| (za >>> ((4 : Int32) &&& 31))); have r10 := hbits; have r11 := b_za; have r12 := b_zb; have r13 := t1 b_za; apply Int32.toInt_inj.mp; omega)) (Or.inr (Or.inr (Or.inl ⟨rfl, rfl⟩))) rfl rfl (hb hby d210) ?_
  refine k_pure (g' := (mkF m 111 #[.val (.ref x), .val (.ref q), .val (.int (0 : Int32)), .val (.int (3 : Int32)), .val (.ref t), .val (.int (0 : Int32)), .val (.int (1 : Int32)), .val (.ref tb), .val (.int (3 : Int32)), .val (.int (2 : Int32)), .val (.int bt)] [(.int ((en ((16 : Int32) ||| (za >>> ((4 : Int32) &&& 31)))).toInt8.toInt32)), (.int (1 : Int32)), (.ref t)])) (fun _ J _ j => XS.i2b J hx rfl (hb hby d211) rfl j) ?_
  refine k_stB hx V_9 ⟨by decide, by decide⟩ 1 (by decide) (Nat.le_of_ble_eq_true rfl) (by omega) (fun q => q) rfl rfl (hb hby d212) ?_
  intro h_11 O_12 W_13 A_14
  have z_15 := W_13.size
  have V_16 : Arv Z h_11 t kb .byte (6 : Int32) [(.int ((en (0 : Int32)).toInt8.toInt32)), (.int ((en ((16 : Int32) ||| (za >>> ((4 : Int32) &&& 31)))).toInt8.toInt32)), (.int (0 : Int32)), (.int (0 : Int32)), (.int (0 : Int32)), (.int (0 : Int32))] (.int (0 : Int32)) := by rw [u_narb] at A_14; exact A_14
  refine k_pure (g' := (mkF m 121 #[.val (.ref x), .val (.ref q), .val (.int (0 : Int32)), .val (.int (3 : Int32)), .val (.ref t), .val (.int (0 : Int32)), .val (.int (1 : Int32)), .val (.ref tb), .val (.int (3 : Int32)), .val (.int (3 : Int32)), .val (.int bt)] [(.ref tb), (.int (2 : Int32)), (.ref t)])) (fun TT HH tt kk => XS.aload HH hx rfl (hb hby d213) rfl rfl (XS.iload HH hx rfl (hb hby d214) rfl (XS.iinc HH hx rfl (hb hby d215) rfl (l' := #[.val (.ref x), .val (.ref q), .val (.int (0 : Int32)), .val (.int (3 : Int32)), .val (.ref t), .val (.int (0 : Int32)), .val (.int (1 : Int32)), .val (.ref tb), .val (.int (3 : Int32)), .val (.int (3 : Int32)), .val (.int bt)]) rfl (XS.aload HH hx rfl (hb hby d216) rfl rfl kk)))) ?_
  refine k_pure (g' := (mkF m 128 #[.val (.ref x), .val (.ref q), .val (.int (0 : Int32)), .val (.int (3 : Int32)), .val (.ref t), .val (.int (0 : Int32)), .val (.int (1 : Int32)), .val (.ref tb), .val (.int (3 : Int32)), .val (.int (3 : Int32)), .val (.int bt)] [(.int (63 : Int32)), (.int ((bt.toUInt32 >>> ((6 : Int32) &&& 31).toUInt32).toInt32)), (.ref tb), (.int (2 : Int32)), (.ref t)])) (fun TT HH tt kk => XS.iload HH hx rfl (hb hby d217) rfl (XS.bipush HH hx rfl (hb hby d218) (XS.iushr HH hx rfl (hb hby d219) rfl (XS.bipush HH hx rfl (hb hby d220) kk)))) ?_
  refine k_pure (g' := (mkF m 129 #[.val (.ref x), .val (.ref q), .val (.int (0 : Int32)), .val (.int (3 : Int32)), .val (.ref t), .val (.int (0 : Int32)), .val (.int (1 : Int32)), .val (.ref tb), .val (.int (3 : Int32)), .val (.int (3 : Int32)), .val (.int bt)] [(.int (((bt.toUInt32 >>> ((6 : Int32) &&& 31).toUInt32).toInt32) &&& (63 : Int32))), (.ref tb), (.int (2 : Int32)), (.ref t)])) (fun _ J _ j => XS.iand J hx rfl (hb hby d221) rfl j) ?_
  have F_17 : Arv Z h_11 tb kt .char (64 : Int32) (T64.map Value.int) (.int (0 : Int32)) := a_t.ext O_12.2
  refine k_aget hx (v := (.int (en (((za &&& (15 : Int32)) <<< ((2 : Int32) &&& 31)) ||| (zb >>> ((6 : Int32) &&& 31)))))) F_17 ⟨(by have r0 := rng32 bt; have r1 : ((bt.toUInt32 >>> ((6 : Int32) &&& 31).toUInt32).toInt32).toInt = (bt.toInt % 4294967296) / 64 := (c_iushr bt (6 : Int32) 6 (by decide) (by decide)); have r2 := rng32 ((bt.toUInt32 >>> ((6 : Int32) &&& 31).toUInt32).toInt32); have r3 : (((bt.toUInt32 >>> ((6 : Int32) &&& 31).toUInt32).toInt32) &&& (63 : Int32)).toInt = ((bt.toUInt32 >>> ((6 : Int32) &&& 31).toUInt32).toInt32).toInt % 64 := (c_mask ((bt.toUInt32 >>> ((6 : Int32) &&& 31).toUInt32).toInt32) (63 : Int32) 6 (by decide) (by decide)); have r4 := rng32 (((bt.toUInt32 >>> ((6 : Int32) &&& 31).toUInt32).toInt32) &&& (63 : Int32)); have r5 : (0 : Int32).toInt = 0 := (by decide); have r6 := hbits; have r7 := b_za; have r8 := b_zb; have r9 := t2 b_za b_zb; rw [Int32.lt_iff_toInt_lt]; omega), (by have r0 := rng32 bt; have r1 : ((bt.toUInt32 >>> ((6 : Int32) &&& 31).toUInt32).toInt32).toInt = (bt.toInt % 4294967296) / 64 := (c_iushr bt (6 : Int32) 6 (by decide) (by decide)); have r2 := rng32 ((bt.toUInt32 >>> ((6 : Int32) &&& 31).toUInt32).toInt32); have r3 : (((bt.toUInt32 >>> ((6 : Int32) &&& 31).toUInt32).toInt32) &&& (63 : Int32)).toInt = ((bt.toUInt32 >>> ((6 : Int32) &&& 31).toUInt32).toInt32).toInt % 64 := (c_mask ((bt.toUInt32 >>> ((6 : Int32) &&& 31).toUInt32).toInt32) (63 : Int32) 6 (by decide) (by decide)); have r4 := rng32 (((bt.toUInt32 >>> ((6 : Int32) &&& 31).toUInt32).toInt32) &&& (63 : Int32)); have r5 : (64 : Int32).toInt = 64 := (by decide); have r6 := hbits; have r7 := b_za; have r8 := b_zb; have r9 := t2 b_za b_zb; rw [Int32.lt_iff_toInt_lt]; omega)⟩ (en_at (by have r0 := rng32 bt; have r1 : ((bt.toUInt32 >>> ((6 : Int32) &&& 31).toUInt32).toInt32).toInt = (bt.toInt % 4294967296) / 64 := (c_iushr bt (6 : Int32) 6 (by decide) (by decide)); have r2 := rng32 ((bt.toUInt32 >>> ((6 : Int32) &&& 31).toUInt32).toInt32); have r3 : (((bt.toUInt32 >>> ((6 : Int32) &&& 31).toUInt32).toInt32) &&& (63 : Int32)).toInt = ((bt.toUInt32 >>> ((6 : Int32) &&& 31).toUInt32).toInt32).toInt % 64 := (c_mask ((bt.toUInt32 >>> ((6 : Int32) &&& 31).toUInt32).toInt32) (63 : Int32) 6 (by decide) (by decide)); have r4 := rng32 (((bt.toUInt32 >>> ((6 : Int32) &&& 31).toUInt32).toInt32) &&& (63 : Int32)); have r5 := rng32 za; have r6 : (za &&& (15 : Int32)).toInt = za.toInt % 16 := (c_mask za (15 : Int32) 4 (by decide) (by decide)); have r7 := rng32 (za &&& (15 : Int32)); have r8 : (((za &&& (15 : Int32)) <<< ((2 : Int32) &&& 31)).toInt - (za &&& (15 : Int32)).toInt * 4) % 4294967296 = 0 := (c_ishl (za &&& (15 : Int32)) (2 : Int32) 2 (by decide)); have r9 := rng32 ((za &&& (15 : Int32)) <<< ((2 : Int32) &&& 31)); have r10 := rng32 zb; have r11 : (zb >>> ((6 : Int32) &&& 31)).toInt = zb.toInt / 64 := (c_ishr zb (6 : Int32) 6 (by decide)); have r12 := rng32 (zb >>> ((6 : Int32) &&& 31)); have r13 := rng32 (((za &&& (15 : Int32)) <<< ((2 : Int32) &&& 31)) ||| (zb >>> ((6 : Int32) &&& 31))); have r14 := hbits; have r15 := b_za; have r16 := b_zb; have r17 := t2 b_za b_zb; apply Int32.toInt_inj.mp; omega)) (Or.inr (Or.inr (Or.inl ⟨rfl, rfl⟩))) rfl rfl (hb hby d222) ?_
  refine k_pure (g' := (mkF m 131 #[.val (.ref x), .val (.ref q), .val (.int (0 : Int32)), .val (.int (3 : Int32)), .val (.ref t), .val (.int (0 : Int32)), .val (.int (1 : Int32)), .val (.ref tb), .val (.int (3 : Int32)), .val (.int (3 : Int32)), .val (.int bt)] [(.int ((en (((za &&& (15 : Int32)) <<< ((2 : Int32) &&& 31)) ||| (zb >>> ((6 : Int32) &&& 31)))).toInt8.toInt32)), (.int (2 : Int32)), (.ref t)])) (fun _ J _ j => XS.i2b J hx rfl (hb hby d223) rfl j) ?_
  refine k_stB hx V_16 ⟨by decide, by decide⟩ 2 (by decide) (Nat.le_of_ble_eq_true rfl) (by omega) (fun q => q) rfl rfl (hb hby d224) ?_
  intro h_18 O_19 W_20 A_21
  have z_22 := W_20.size
  have V_23 : Arv Z h_18 t kb .byte (6 : Int32) [(.int ((en (0 : Int32)).toInt8.toInt32)), (.int ((en ((16 : Int32) ||| (za >>> ((4 : Int32) &&& 31)))).toInt8.toInt32)), (.int ((en (((za &&& (15 : Int32)) <<< ((2 : Int32) &&& 31)) ||| (zb >>> ((6 : Int32) &&& 31)))).toInt8.toInt32)), (.int (0 : Int32)), (.int (0 : Int32)), (.int (0 : Int32))] (.int (0 : Int32)) := by rw [u_narb] at A_21; exact A_21
  refine k_pure (g' := (mkF m 141 #[.val (.ref x), .val (.ref q), .val (.int (0 : Int32)), .val (.int (3 : Int32)), .val (.ref t), .val (.int (0 : Int32)), .val (.int (1 : Int32)), .val (.ref tb), .val (.int (3 : Int32)), .val (.int (4 : Int32)), .val (.int bt)] [(.ref tb), (.int (3 : Int32)), (.ref t)])) (fun TT HH tt kk => XS.aload HH hx rfl (hb hby d225) rfl rfl (XS.iload HH hx rfl (hb hby d226) rfl (XS.iinc HH hx rfl (hb hby d227) rfl (l' := #[.val (.ref x), .val (.ref q), .val (.int (0 : Int32)), .val (.int (3 : Int32)), .val (.ref t), .val (.int (0 : Int32)), .val (.int (1 : Int32)), .val (.ref tb), .val (.int (3 : Int32)), .val (.int (4 : Int32)), .val (.int bt)]) rfl (XS.aload HH hx rfl (hb hby d228) rfl rfl kk)))) ?_
  refine k_pure (g' := (mkF m 146 #[.val (.ref x), .val (.ref q), .val (.int (0 : Int32)), .val (.int (3 : Int32)), .val (.ref t), .val (.int (0 : Int32)), .val (.int (1 : Int32)), .val (.ref tb), .val (.int (3 : Int32)), .val (.int (4 : Int32)), .val (.int bt)] [(.int (bt &&& (63 : Int32))), (.ref tb), (.int (3 : Int32)), (.ref t)])) (fun TT HH tt kk => XS.iload HH hx rfl (hb hby d229) rfl (XS.bipush HH hx rfl (hb hby d230) (XS.iand HH hx rfl (hb hby d231) rfl kk))) ?_
  have F_24 : Arv Z h_18 tb kt .char (64 : Int32) (T64.map Value.int) (.int (0 : Int32)) := a_t.ext O_19.2
  refine k_aget hx (v := (.int (en (zb &&& (63 : Int32))))) F_24 ⟨(by have r0 := rng32 bt; have r1 : (bt &&& (63 : Int32)).toInt = bt.toInt % 64 := (c_mask bt (63 : Int32) 6 (by decide) (by decide)); have r2 := rng32 (bt &&& (63 : Int32)); have r3 : (0 : Int32).toInt = 0 := (by decide); have r4 := hbits; have r5 := b_za; have r6 := b_zb; rw [Int32.lt_iff_toInt_lt]; omega), (by have r0 := rng32 bt; have r1 : (bt &&& (63 : Int32)).toInt = bt.toInt % 64 := (c_mask bt (63 : Int32) 6 (by decide) (by decide)); have r2 := rng32 (bt &&& (63 : Int32)); have r3 : (64 : Int32).toInt = 64 := (by decide); have r4 := hbits; have r5 := b_za; have r6 := b_zb; rw [Int32.lt_iff_toInt_lt]; omega)⟩ (en_at (by have r0 := rng32 bt; have r1 : (bt &&& (63 : Int32)).toInt = bt.toInt % 64 := (c_mask bt (63 : Int32) 6 (by decide) (by decide)); have r2 := rng32 (bt &&& (63 : Int32)); have r3 := rng32 zb; have r4 : (zb &&& (63 : Int32)).toInt = zb.toInt % 64 := (c_mask zb (63 : Int32) 6 (by decide) (by decide)); have r5 := rng32 (zb &&& (63 : Int32)); have r6 := hbits; have r7 := b_za; have r8 := b_zb; apply Int32.toInt_inj.mp; omega)) (Or.inr (Or.inr (Or.inl ⟨rfl, rfl⟩))) rfl rfl (hb hby d232) ?_
  refine k_pure (g' := (mkF m 148 #[.val (.ref x), .val (.ref q), .val (.int (0 : Int32)), .val (.int (3 : Int32)), .val (.ref t), .val (.int (0 : Int32)), .val (.int (1 : Int32)), .val (.ref tb), .val (.int (3 : Int32)), .val (.int (4 : Int32)), .val (.int bt)] [(.int ((en (zb &&& (63 : Int32))).toInt8.toInt32)), (.int (3 : Int32)), (.ref t)])) (fun _ J _ j => XS.i2b J hx rfl (hb hby d233) rfl j) ?_
  refine k_stB hx V_23 ⟨by decide, by decide⟩ 3 (by decide) (Nat.le_of_ble_eq_true rfl) (by omega) (fun q => q) rfl rfl (hb hby d234) ?_
  intro h_25 O_26 W_27 A_28
  have z_29 := W_27.size
  have V_30 : Arv Z h_25 t kb .byte (6 : Int32) [(.int ((en (0 : Int32)).toInt8.toInt32)), (.int ((en ((16 : Int32) ||| (za >>> ((4 : Int32) &&& 31)))).toInt8.toInt32)), (.int ((en (((za &&& (15 : Int32)) <<< ((2 : Int32) &&& 31)) ||| (zb >>> ((6 : Int32) &&& 31)))).toInt8.toInt32)), (.int ((en (zb &&& (63 : Int32))).toInt8.toInt32)), (.int (0 : Int32)), (.int (0 : Int32))] (.int (0 : Int32)) := by rw [u_narb] at A_28; exact A_28
  refine k_pure (g' := (mkF m 152 #[.val (.ref x), .val (.ref q), .val (.int (0 : Int32)), .val (.int (3 : Int32)), .val (.ref t), .val (.int (0 : Int32)), .val (.int (1 : Int32)), .val (.ref tb), .val (.int (3 : Int32)), .val (.int (4 : Int32)), .val (.int bt)] [])) (fun TT HH tt kk => XS.goto HH hx rfl (pc0 := 149) (pc' := 23) rfl (hb hby d235) (by decide) (by decide) (XS.iload HH hx rfl (hb hby d161) rfl (XS.iloadN HH hx rfl (hb hby d162) rfl (XS.icmpYes HH hx rfl (pc0 := 26) (pc' := 152) rfl (hb hby d163) rfl (flt (by decide : ¬ ((3 : Int32) < (3 : Int32)))).2.1 (by decide) (by decide) kk)))) ?_
  exact k_ret0 hx hlk hret (hb hby d236) (by decide) (by decide) ⟨rfl, rfl, (((((Keep.refl _ _).wr W_6 (Or.inl (by simp))).wr W_13 (Or.inl (by simp))).wr W_20 (Or.inl (by simp))).wr W_27 (Or.inl (by simp))), V_30⟩
def Q_en00 (Z : State) (G1 : Int32) (G3 : Value) (e0 tb : Addr) (kt : ClassId) (x : Addr) (q : Addr) (kq : ClassId) (t : Addr) (kb : ClassId) (h0 : Heap) (n0 : Nat) (bk : Addr → Prop) (v : Option Value) (h : Heap) (bk' : Addr → Prop) : Prop := v = some (.int (2 : Int32)) ∧ NoB = bk' ∧ Keep h0 h [t] ∧ (Arv Z h t kb .byte (2 : Int32) [(.int ((en (0 : Int32)).toInt8.toInt32)), (.int ((en (16 : Int32)).toInt8.toInt32))] (.int (0 : Int32)))
theorem d237 : decode jdk_2452_method_10_code 0 = .ok (.aload_n 0, 1) := by decide +kernel
theorem d238 : decode jdk_2452_method_10_code 1 = .ok (.getfield 7, 3) := by decide +kernel
theorem d239 : decode jdk_2452_method_10_code 4 = .ok (.ifCond .eq 9, 3) := by decide +kernel
theorem d240 : decode jdk_2452_method_10_code 7 = .ok (.getstatic 111, 3) := by decide +kernel
theorem d241 : decode jdk_2452_method_10_code 10 = .ok (.goto 6, 3) := by decide +kernel
theorem d242 : decode jdk_2452_method_10_code 16 = .ok (.astore 5, 2) := by decide +kernel
theorem d243 : decode jdk_2452_method_10_code 18 = .ok (.iload_n 2, 1) := by decide +kernel
theorem d244 : decode jdk_2452_method_10_code 19 = .ok (.istore 6, 2) := by decide +kernel
theorem d245 : decode jdk_2452_method_10_code 21 = .ok (.iload_n 3, 1) := by decide +kernel
theorem d246 : decode jdk_2452_method_10_code 22 = .ok (.iload_n 2, 1) := by decide +kernel
theorem d247 : decode jdk_2452_method_10_code 23 = .ok (.isub, 1) := by decide +kernel
theorem d248 : decode jdk_2452_method_10_code 24 = .ok (.iconst 3, 1) := by decide +kernel
theorem d249 : decode jdk_2452_method_10_code 25 = .ok (.idiv, 1) := by decide +kernel
theorem d250 : decode jdk_2452_method_10_code 26 = .ok (.iconst 3, 1) := by decide +kernel
theorem d251 : decode jdk_2452_method_10_code 27 = .ok (.imul, 1) := by decide +kernel
theorem d252 : decode jdk_2452_method_10_code 28 = .ok (.istore 7, 2) := by decide +kernel
theorem d253 : decode jdk_2452_method_10_code 30 = .ok (.iload_n 2, 1) := by decide +kernel
theorem d254 : decode jdk_2452_method_10_code 31 = .ok (.iload 7, 2) := by decide +kernel
theorem d255 : decode jdk_2452_method_10_code 33 = .ok (.iadd, 1) := by decide +kernel
theorem d256 : decode jdk_2452_method_10_code 34 = .ok (.istore 8, 2) := by decide +kernel
theorem d257 : decode jdk_2452_method_10_code 36 = .ok (.aload_n 0, 1) := by decide +kernel
theorem d258 : decode jdk_2452_method_10_code 37 = .ok (.getfield 17, 3) := by decide +kernel
theorem d259 : decode jdk_2452_method_10_code 40 = .ok (.ifCond .le 26, 3) := by decide +kernel
theorem d260 : decode jdk_2452_method_10_code 66 = .ok (.iconst 0, 1) := by decide +kernel
theorem d261 : decode jdk_2452_method_10_code 67 = .ok (.istore 9, 2) := by decide +kernel
theorem d262 : decode jdk_2452_method_10_code 69 = .ok (.iload 6, 2) := by decide +kernel
theorem d263 : decode jdk_2452_method_10_code 71 = .ok (.iload 8, 2) := by decide +kernel
theorem d264 : decode jdk_2452_method_10_code 73 = .ok (.if_icmp .ge 116, 3) := by decide +kernel
theorem d265 : decode jdk_2452_method_10_code 189 = .ok (.iload 6, 2) := by decide +kernel
theorem d266 : decode jdk_2452_method_10_code 191 = .ok (.iload_n 3, 1) := by decide +kernel
theorem d267 : decode jdk_2452_method_10_code 192 = .ok (.if_icmp .ge 160, 3) := by decide +kernel
theorem d268 : decode jdk_2452_method_10_code 195 = .ok (.aload_n 1, 1) := by decide +kernel
theorem d269 : decode jdk_2452_method_10_code 196 = .ok (.iload 6, 2) := by decide +kernel
theorem d270 : decode jdk_2452_method_10_code 198 = .ok (.iinc 6 1, 3) := by decide +kernel
theorem d271 : decode jdk_2452_method_10_code 201 = .ok (.baload, 1) := by decide +kernel
theorem d272 : decode jdk_2452_method_10_code 202 = .ok (.sipush 255, 3) := by decide +kernel
theorem d273 : decode jdk_2452_method_10_code 205 = .ok (.iand, 1) := by decide +kernel
theorem d274 : decode jdk_2452_method_10_code 206 = .ok (.istore 10, 2) := by decide +kernel
theorem d275 : decode jdk_2452_method_10_code 208 = .ok (.aload 4, 2) := by decide +kernel
theorem d276 : decode jdk_2452_method_10_code 210 = .ok (.iload 9, 2) := by decide +kernel
theorem d277 : decode jdk_2452_method_10_code 212 = .ok (.iinc 9 1, 3) := by decide +kernel
theorem d278 : decode jdk_2452_method_10_code 215 = .ok (.aload 5, 2) := by decide +kernel
theorem d279 : decode jdk_2452_method_10_code 217 = .ok (.iload 10, 2) := by decide +kernel
theorem d280 : decode jdk_2452_method_10_code 219 = .ok (.iconst 2, 1) := by decide +kernel
theorem d281 : decode jdk_2452_method_10_code 220 = .ok (.ishr, 1) := by decide +kernel
theorem d282 : decode jdk_2452_method_10_code 221 = .ok (.caload, 1) := by decide +kernel
theorem d283 : decode jdk_2452_method_10_code 222 = .ok (.i2b, 1) := by decide +kernel
theorem d284 : decode jdk_2452_method_10_code 223 = .ok (.bastore, 1) := by decide +kernel
theorem d285 : decode jdk_2452_method_10_code 224 = .ok (.iload 6, 2) := by decide +kernel
theorem d286 : decode jdk_2452_method_10_code 226 = .ok (.iload_n 3, 1) := by decide +kernel
theorem d287 : decode jdk_2452_method_10_code 227 = .ok (.if_icmp .ne 52, 3) := by decide +kernel
theorem d288 : decode jdk_2452_method_10_code 230 = .ok (.aload 4, 2) := by decide +kernel
theorem d289 : decode jdk_2452_method_10_code 232 = .ok (.iload 9, 2) := by decide +kernel
theorem d290 : decode jdk_2452_method_10_code 234 = .ok (.iinc 9 1, 3) := by decide +kernel
theorem d291 : decode jdk_2452_method_10_code 237 = .ok (.aload 5, 2) := by decide +kernel
theorem d292 : decode jdk_2452_method_10_code 239 = .ok (.iload 10, 2) := by decide +kernel
theorem d293 : decode jdk_2452_method_10_code 241 = .ok (.iconst 4, 1) := by decide +kernel
theorem d294 : decode jdk_2452_method_10_code 242 = .ok (.ishl, 1) := by decide +kernel
theorem d295 : decode jdk_2452_method_10_code 243 = .ok (.bipush 63, 2) := by decide +kernel
theorem d296 : decode jdk_2452_method_10_code 245 = .ok (.iand, 1) := by decide +kernel
theorem d297 : decode jdk_2452_method_10_code 246 = .ok (.caload, 1) := by decide +kernel
theorem d298 : decode jdk_2452_method_10_code 247 = .ok (.i2b, 1) := by decide +kernel
theorem d299 : decode jdk_2452_method_10_code 248 = .ok (.bastore, 1) := by decide +kernel
theorem d300 : decode jdk_2452_method_10_code 249 = .ok (.aload_n 0, 1) := by decide +kernel
theorem d301 : decode jdk_2452_method_10_code 250 = .ok (.getfield 21, 3) := by decide +kernel
theorem d302 : decode jdk_2452_method_10_code 253 = .ok (.ifCond .eq 99, 3) := by decide +kernel
theorem d303 : decode jdk_2452_method_10_code 352 = .ok (.iload 9, 2) := by decide +kernel
theorem d304 : decode jdk_2452_method_10_code 354 = .ok (.ireturn, 1) := by decide +kernel
abbrev RM_en00 : Room := { frames := 0, cells := 0, slots := 0, locals := 0 }
theorem ef_en00 (m : MethodId) (x0 : Addr) (x1 : Addr) (x2 : Int32) (x3 : Int32) (x4 : Addr) : entryFrame m #[(.ref x0), (.ref x1), (.int x2), (.int x3), (.ref x4)] 16 = mkF m 0 #[.val (.ref x0), .val (.ref x1), .val (.int x2), .val (.int x3), .val (.ref x4), .unset, .unset, .unset, .unset, .unset, .unset, .unset, .unset, .unset, .unset, .unset] [] := by first | (simp [entryFrame, mkF, argsToLocals, Value.category]; done) | rfl
set_option maxRecDepth 65536 in
set_option maxHeartbeats 40000000 in
theorem rm_en00 (l : Launch) (Z : State) (a0 : Array Value) (G1 : Int32) (G3 : Value) (e0 tb : Addr) (kt : ClassId) (hX : Ctx Z a0 G1 G3) (hY : More Z e0 tb kt) (n0 : Nat) (h0 : Heap) (O0 : Old Z n0 h0) (x : Addr) (q : Addr) (kq : ClassId) (t : Addr) (kb : ClassId) (pf_0 : Exa Z h0 x "java/util/Base64$Encoder") (pf_1 : Fld Z h0 x "java/util/Base64$Encoder" "isURL" "Z" (.int (1 : Int32))) (pf_2 : Fld Z h0 x "java/util/Base64$Encoder" "newline" "[B" .null) (pf_3 : Fld Z h0 x "java/util/Base64$Encoder" "linemax" "I" (.int ((-1) : Int32))) (pf_4 : Fld Z h0 x "java/util/Base64$Encoder" "doPadding" "Z" (.int (0 : Int32))) (pf_5 : Arv Z h0 q kq .byte (1 : Int32) [(.int (1 : Int32))] (.int (0 : Int32))) (pf_6 : Arv Z h0 t kb .byte (2 : Int32) [(.int (0 : Int32)), (.int (0 : Int32))] (.int (0 : Int32))) (gt : n0 ≤ t) (qt : @Ne Nat q t) (xt : @Ne Nat x t) (ws : List Jvm.Cond) : Met l Z EL1 n0 NoB (⟨"java/util/Base64$Encoder", "encode0", "([BII[B)I"⟩ : MethodName) jdk_2452_method_10_code 16 (Option.some FieldType.int) RM_en00 #[(.ref x), (.ref q), (.int (0 : Int32)), (.int (1 : Int32)), (.ref t)] h0 (Q_en00 Z G1 G3 e0 tb kt x q kq t kb h0 n0 NoB) ws := by
  have hX' := hX
  obtain ⟨hw, hE, S1, P1, S3, P3⟩ := hX'
  have hY' := hY
  obtain ⟨s_e, x_e, f_u, f_n, f_l, f_p, s_t, a_t⟩ := hY'
  have wT : ∀ (i : Nat) {d : Jvm.Cond}, tables_1[i]? = some d → d.before a0 Z = true := fun i d h => hw d (List.mem_of_getElem? h)
  have z0 : n0 ≤ h0.size := by rw [← O0.1]; exact O0.2.1
  refine Met.of (by decide +kernel) O0 hE ?_
  intro p e s m below meth c hx hby hml hret hlk hnm
  refine k_cast (ef_en00 m x q (0 : Int32) (1 : Int32) t) ?_
  show Run p l e _ s m _ below meth c Z EL1 _ n0 NoB h0 0 0 (mkF m 0 #[.val (.ref x), .val (.ref q), .val (.int (0 : Int32)), .val (.int (1 : Int32)), .val (.ref t), .unset, .unset, .unset, .unset, .unset, .unset, .unset, .unset, .unset, .unset, .unset] []) _
  have lt_1 : @LT.lt Nat _ x (Array.size h0) := pf_0.lt
  have lt_2 : @LT.lt Nat _ x (Array.size h0) := pf_1.lt
  have lt_3 : @LT.lt Nat _ x (Array.size h0) := pf_2.lt
  have lt_4 : @LT.lt Nat _ x (Array.size h0) := pf_3.lt
  have lt_5 : @LT.lt Nat _ x (Array.size h0) := pf_4.lt
  have lt_6 : @LT.lt Nat _ q (Array.size h0) := pf_5.lt
  have lt_7 : @LT.lt Nat _ t (Array.size h0) := pf_6.lt
  refine k_pure (g' := (mkF m 1 #[.val (.ref x), .val (.ref q), .val (.int (0 : Int32)), .val (.int (1 : Int32)), .val (.ref t), .unset, .unset, .unset, .unset, .unset, .unset, .unset, .unset, .unset, .unset, .unset] [(.ref x)])) (fun _ J _ j => XS.aloadN J hx rfl (hb hby d237) rfl rfl j) ?_
  refine k_getF hx (host := "") (Or.inl (wT 45 rfl)) Via.refl pf_1 rfl rfl (hb hby d238) ?_
  refine k_pure (g' := (mkF m 7 #[.val (.ref x), .val (.ref q), .val (.int (0 : Int32)), .val (.int (1 : Int32)), .val (.ref t), .unset, .unset, .unset, .unset, .unset, .unset, .unset, .unset, .unset, .unset, .unset] [])) (fun _ J _ j => XS.ifNo J hx rfl (hb hby d239) rfl ((if0 _ _).trans (feq (by decide : ¬ ((1 : Int32) = (0 : Int32)))).1) j) ?_
  refine k_getS hx (host := "") (Or.inl (wT 83 rfl)) Via.refl (s_t.ext O0.2) rfl (hb hby d240) ?_
  refine k_pure (g' := (mkF m 21 #[.val (.ref x), .val (.ref q), .val (.int (0 : Int32)), .val (.int (1 : Int32)), .val (.ref t), .val (.ref tb), .val (.int (0 : Int32)), .unset, .unset, .unset, .unset, .unset, .unset, .unset, .unset, .unset] [])) (fun TT HH tt kk => XS.goto HH hx rfl (pc0 := 10) (pc' := 16) rfl (hb hby d241) (by decide) (by decide) (XS.astore HH hx rfl (hb hby d242) rfl rfl (l' := #[.val (.ref x), .val (.ref q), .val (.int (0 : Int32)), .val (.int (1 : Int32)), .val (.ref t), .val (.ref tb), .unset, .unset, .unset, .unset, .unset, .unset, .unset, .unset, .unset, .unset]) rfl (XS.iloadN HH hx rfl (hb hby d243) rfl (XS.istore HH hx rfl (hb hby d244) rfl (l' := #[.val (.ref x), .val (.ref q), .val (.int (0 : Int32)), .val (.int (1 : Int32)), .val (.ref t), .val (.ref tb), .val (.int (0 : Int32)), .unset, .unset, .unset, .unset, .unset, .unset, .unset, .unset, .unset]) rfl kk)))) ?_
  refine k_pure (g' := (mkF m 25 #[.val (.ref x), .val (.ref q), .val (.int (0 : Int32)), .val (.int (1 : Int32)), .val (.ref t), .val (.ref tb), .val (.int (0 : Int32)), .unset, .unset, .unset, .unset, .unset, .unset, .unset, .unset, .unset] [(.int (3 : Int32)), (.int (1 : Int32))])) (fun TT HH tt kk => XS.iloadN HH hx rfl (hb hby d245) rfl (XS.iloadN HH hx rfl (hb hby d246) rfl (XS.isub HH hx rfl (hb hby d247) rfl (XS.iconst HH hx rfl (hb hby d248) kk)))) ?_
  refine k_pure (g' := (mkF m 28 #[.val (.ref x), .val (.ref q), .val (.int (0 : Int32)), .val (.int (1 : Int32)), .val (.ref t), .val (.ref tb), .val (.int (0 : Int32)), .unset, .unset, .unset, .unset, .unset, .unset, .unset, .unset, .unset] [(.int ((0 : Int32) * (3 : Int32)))])) (fun TT HH tt kk => XS.idiv HH hx rfl (hb hby d249) rfl (by decide) (XS.iconst HH hx rfl (hb hby d250) (XS.imul HH hx rfl (hb hby d251) rfl kk))) ?_
  rw [show ((0 : Int32) * (3 : Int32)) = (0 : Int32) from by decide]
  refine k_pure (g' := (mkF m 34 #[.val (.ref x), .val (.ref q), .val (.int (0 : Int32)), .val (.int (1 : Int32)), .val (.ref t), .val (.ref tb), .val (.int (0 : Int32)), .val (.int (0 : Int32)), .unset, .unset, .unset, .unset, .unset, .unset, .unset, .unset] [(.int (0 : Int32))])) (fun TT HH tt kk => XS.istore HH hx rfl (hb hby d252) rfl (l' := #[.val (.ref x), .val (.ref q), .val (.int (0 : Int32)), .val (.int (1 : Int32)), .val (.ref t), .val (.ref tb), .val (.int (0 : Int32)), .val (.int (0 : Int32)), .unset, .unset, .unset, .unset, .unset, .unset, .unset, .unset]) rfl (XS.iloadN HH hx rfl (hb hby d253) rfl (XS.iload HH hx rfl (hb hby d254) rfl (XS.iadd HH hx rfl (hb hby d255) rfl kk)))) ?_
  refine k_pure (g' := (mkF m 37 #[.val (.ref x), .val (.ref q), .val (.int (0 : Int32)), .val (.int (1 : Int32)), .val (.ref t), .val (.ref tb), .val (.int (0 : Int32)), .val (.int (0 : Int32)), .val (.int (0 : Int32)), .unset, .unset, .unset, .unset, .unset, .unset, .unset] [(.ref x)])) (fun TT HH tt kk => XS.istore HH hx rfl (hb hby d256) rfl (l' := #[.val (.ref x), .val (.ref q), .val (.int (0 : Int32)), .val (.int (1 : Int32)), .val (.ref t), .val (.ref tb), .val (.int (0 : Int32)), .val (.int (0 : Int32)), .val (.int (0 : Int32)), .unset, .unset, .unset, .unset, .unset, .unset, .unset]) rfl (XS.aloadN HH hx rfl (hb hby d257) rfl rfl kk)) ?_
  refine k_getF hx (host := "") (Or.inl (wT 49 rfl)) Via.refl pf_3 rfl rfl (hb hby d258) ?_
  refine k_pure (g' := (mkF m 71 #[.val (.ref x), .val (.ref q), .val (.int (0 : Int32)), .val (.int (1 : Int32)), .val (.ref t), .val (.ref tb), .val (.int (0 : Int32)), .val (.int (0 : Int32)), .val (.int (0 : Int32)), .val (.int (0 : Int32)), .unset, .unset, .unset, .unset, .unset, .unset] [(.int (0 : Int32))])) (fun TT HH tt kk => XS.ifYes HH hx rfl (pc0 := 40) (pc' := 66) rfl (hb hby d259) rfl ((if0 _ _).trans (flt (by decide : ¬ ((0 : Int32) < ((-1) : Int32)))).2.2.2) (by decide) (by decide) (XS.iconst HH hx rfl (hb hby d260) (XS.istore HH hx rfl (hb hby d261) rfl (l' := #[.val (.ref x), .val (.ref q), .val (.int (0 : Int32)), .val (.int (1 : Int32)), .val (.ref t), .val (.ref tb), .val (.int (0 : Int32)), .val (.int (0 : Int32)), .val (.int (0 : Int32)), .val (.int (0 : Int32)), .unset, .unset, .unset, .unset, .unset, .unset]) rfl (XS.iload HH hx rfl (hb hby d262) rfl kk)))) ?_
  refine k_pure (g' := (mkF m 192 #[.val (.ref x), .val (.ref q), .val (.int (0 : Int32)), .val (.int (1 : Int32)), .val (.ref t), .val (.ref tb), .val (.int (0 : Int32)), .val (.int (0 : Int32)), .val (.int (0 : Int32)), .val (.int (0 : Int32)), .unset, .unset, .unset, .unset, .unset, .unset] [(.int (1 : Int32)), (.int (0 : Int32))])) (fun TT HH tt kk => XS.iload HH hx rfl (hb hby d263) rfl (XS.icmpYes HH hx rfl (pc0 := 73) (pc' := 189) rfl (hb hby d264) rfl (flt (by decide : ¬ ((0 : Int32) < (0 : Int32)))).2.1 (by decide) (by decide) (XS.iload HH hx rfl (hb hby d265) rfl (XS.iloadN HH hx rfl (hb hby d266) rfl kk)))) ?_
  refine k_pure (g' := (mkF m 201 #[.val (.ref x), .val (.ref q), .val (.int (0 : Int32)), .val (.int (1 : Int32)), .val (.ref t), .val (.ref tb), .val (.int (1 : Int32)), .val (.int (0 : Int32)), .val (.int (0 : Int32)), .val (.int (0 : Int32)), .unset, .unset, .unset, .unset, .unset, .unset] [(.int (0 : Int32)), (.ref q)])) (fun TT HH tt kk => XS.icmpNo HH hx rfl (hb hby d267) rfl (tlt (by decide : ((0 : Int32) < (1 : Int32)))).2.1 (XS.aloadN HH hx rfl (hb hby d268) rfl rfl (XS.iload HH hx rfl (hb hby d269) rfl (XS.iinc HH hx rfl (hb hby d270) rfl (l' := #[.val (.ref x), .val (.ref q), .val (.int (0 : Int32)), .val (.int (1 : Int32)), .val (.ref t), .val (.ref tb), .val (.int (1 : Int32)), .val (.int (0 : Int32)), .val (.int (0 : Int32)), .val (.int (0 : Int32)), .unset, .unset, .unset, .unset, .unset, .unset]) rfl kk)))) ?_
  refine k_aget hx (v := (.int (1 : Int32))) pf_5 ⟨by decide, by decide⟩ rfl (Or.inr (Or.inr (Or.inr (Or.inl ⟨rfl, rfl⟩)))) rfl rfl (hb hby d271) ?_
  refine k_pure (g' := (mkF m 210 #[.val (.ref x), .val (.ref q), .val (.int (0 : Int32)), .val (.int (1 : Int32)), .val (.ref t), .val (.ref tb), .val (.int (1 : Int32)), .val (.int (0 : Int32)), .val (.int (0 : Int32)), .val (.int (0 : Int32)), .val (.int (1 : Int32)), .unset, .unset, .unset, .unset, .unset] [(.ref t)])) (fun TT HH tt kk => XS.sipush HH hx rfl (hb hby d272) (XS.iand HH hx rfl (hb hby d273) rfl (XS.istore HH hx rfl (hb hby d274) rfl (l' := #[.val (.ref x), .val (.ref q), .val (.int (0 : Int32)), .val (.int (1 : Int32)), .val (.ref t), .val (.ref tb), .val (.int (1 : Int32)), .val (.int (0 : Int32)), .val (.int (0 : Int32)), .val (.int (0 : Int32)), .val (.int (1 : Int32)), .unset, .unset, .unset, .unset, .unset]) rfl (XS.aload HH hx rfl (hb hby d275) rfl rfl kk)))) ?_
  refine k_pure (g' := (mkF m 219 #[.val (.ref x), .val (.ref q), .val (.int (0 : Int32)), .val (.int (1 : Int32)), .val (.ref t), .val (.ref tb), .val (.int (1 : Int32)), .val (.int (0 : Int32)), .val (.int (0 : Int32)), .val (.int (1 : Int32)), .val (.int (1 : Int32)), .unset, .unset, .unset, .unset, .unset] [(.int (1 : Int32)), (.ref tb), (.int (0 : Int32)), (.ref t)])) (fun TT HH tt kk => XS.iload HH hx rfl (hb hby d276) rfl (XS.iinc HH hx rfl (hb hby d277) rfl (l' := #[.val (.ref x), .val (.ref q), .val (.int (0 : Int32)), .val (.int (1 : Int32)), .val (.ref t), .val (.ref tb), .val (.int (1 : Int32)), .val (.int (0 : Int32)), .val (.int (0 : Int32)), .val (.int (1 : Int32)), .val (.int (1 : Int32)), .unset, .unset, .unset, .unset, .unset]) rfl (XS.aload HH hx rfl (hb hby d278) rfl rfl (XS.iload HH hx rfl (hb hby d279) rfl kk)))) ?_
  refine k_pure (g' := (mkF m 221 #[.val (.ref x), .val (.ref q), .val (.int (0 : Int32)), .val (.int (1 : Int32)), .val (.ref t), .val (.ref tb), .val (.int (1 : Int32)), .val (.int (0 : Int32)), .val (.int (0 : Int32)), .val (.int (1 : Int32)), .val (.int (1 : Int32)), .unset, .unset, .unset, .unset, .unset] [(.int (0 : Int32)), (.ref tb), (.int (0 : Int32)), (.ref t)])) (fun TT HH tt kk => XS.iconst HH hx rfl (hb hby d280) (XS.ishr HH hx rfl (hb hby d281) rfl kk)) ?_
  have F_8 : Arv Z h0 tb kt .char (64 : Int32) (T64.map Value.int) (.int (0 : Int32)) := a_t.ext O0.2
  refine k_aget hx (v := (.int (en (0 : Int32)))) F_8 ⟨by decide, by decide⟩ (en_at rfl) (Or.inr (Or.inr (Or.inl ⟨rfl, rfl⟩))) rfl rfl (hb hby d282) ?_
  refine k_pure (g' := (mkF m 223 #[.val (.ref x), .val (.ref q), .val (.int (0 : Int32)), .val (.int (1 : Int32)), .val (.ref t), .val (.ref tb), .val (.int (1 : Int32)), .val (.int (0 : Int32)), .val (.int (0 : Int32)), .val (.int (1 : Int32)), .val (.int (1 : Int32)), .unset, .unset, .unset, .unset, .unset] [(.int ((en (0 : Int32)).toInt8.toInt32)), (.int (0 : Int32)), (.ref t)])) (fun _ J _ j => XS.i2b J hx rfl (hb hby d283) rfl j) ?_
  refine k_stB hx pf_6 ⟨by decide, by decide⟩ 0 (by decide) (Nat.le_of_ble_eq_true rfl) (by omega) (fun q => q) rfl rfl (hb hby d284) ?_
  intro h_9 O_10 W_11 A_12
  have z_13 := W_11.size
  have V_14 : Arv Z h_9 t kb .byte (2 : Int32) [(.int ((en (0 : Int32)).toInt8.toInt32)), (.int (0 : Int32))] (.int (0 : Int32)) := by rw [u_narb] at A_12; exact A_12
  refine k_pure (g' := (mkF m 232 #[.val (.ref x), .val (.ref q), .val (.int (0 : Int32)), .val (.int (1 : Int32)), .val (.ref t), .val (.ref tb), .val (.int (1 : Int32)), .val (.int (0 : Int32)), .val (.int (0 : Int32)), .val (.int (1 : Int32)), .val (.int (1 : Int32)), .unset, .unset, .unset, .unset, .unset] [(.ref t)])) (fun TT HH tt kk => XS.iload HH hx rfl (hb hby d285) rfl (XS.iloadN HH hx rfl (hb hby d286) rfl (XS.icmpNo HH hx rfl (hb hby d287) rfl (teq (by decide : ((1 : Int32) = (1 : Int32)))).2 (XS.aload HH hx rfl (hb hby d288) rfl rfl kk)))) ?_
  refine k_pure (g' := (mkF m 241 #[.val (.ref x), .val (.ref q), .val (.int (0 : Int32)), .val (.int (1 : Int32)), .val (.ref t), .val (.ref tb), .val (.int (1 : Int32)), .val (.int (0 : Int32)), .val (.int (0 : Int32)), .val (.int (2 : Int32)), .val (.int (1 : Int32)), .unset, .unset, .unset, .unset, .unset] [(.int (1 : Int32)), (.ref tb), (.int (1 : Int32)), (.ref t)])) (fun TT HH tt kk => XS.iload HH hx rfl (hb hby d289) rfl (XS.iinc HH hx rfl (hb hby d290) rfl (l' := #[.val (.ref x), .val (.ref q), .val (.int (0 : Int32)), .val (.int (1 : Int32)), .val (.ref t), .val (.ref tb), .val (.int (1 : Int32)), .val (.int (0 : Int32)), .val (.int (0 : Int32)), .val (.int (2 : Int32)), .val (.int (1 : Int32)), .unset, .unset, .unset, .unset, .unset]) rfl (XS.aload HH hx rfl (hb hby d291) rfl rfl (XS.iload HH hx rfl (hb hby d292) rfl kk)))) ?_
  refine k_pure (g' := (mkF m 246 #[.val (.ref x), .val (.ref q), .val (.int (0 : Int32)), .val (.int (1 : Int32)), .val (.ref t), .val (.ref tb), .val (.int (1 : Int32)), .val (.int (0 : Int32)), .val (.int (0 : Int32)), .val (.int (2 : Int32)), .val (.int (1 : Int32)), .unset, .unset, .unset, .unset, .unset] [(.int (16 : Int32)), (.ref tb), (.int (1 : Int32)), (.ref t)])) (fun TT HH tt kk => XS.iconst HH hx rfl (hb hby d293) (XS.ishl HH hx rfl (hb hby d294) rfl (XS.bipush HH hx rfl (hb hby d295) (XS.iand HH hx rfl (hb hby d296) rfl kk)))) ?_
  have F_15 : Arv Z h_9 tb kt .char (64 : Int32) (T64.map Value.int) (.int (0 : Int32)) := a_t.ext O_10.2
  refine k_aget hx (v := (.int (en (16 : Int32)))) F_15 ⟨by decide, by decide⟩ (en_at rfl) (Or.inr (Or.inr (Or.inl ⟨rfl, rfl⟩))) rfl rfl (hb hby d297) ?_
  refine k_pure (g' := (mkF m 248 #[.val (.ref x), .val (.ref q), .val (.int (0 : Int32)), .val (.int (1 : Int32)), .val (.ref t), .val (.ref tb), .val (.int (1 : Int32)), .val (.int (0 : Int32)), .val (.int (0 : Int32)), .val (.int (2 : Int32)), .val (.int (1 : Int32)), .unset, .unset, .unset, .unset, .unset] [(.int ((en (16 : Int32)).toInt8.toInt32)), (.int (1 : Int32)), (.ref t)])) (fun _ J _ j => XS.i2b J hx rfl (hb hby d298) rfl j) ?_
  refine k_stB hx V_14 ⟨by decide, by decide⟩ 1 (by decide) (Nat.le_of_ble_eq_true rfl) (by omega) (fun q => q) rfl rfl (hb hby d299) ?_
  intro h_16 O_17 W_18 A_19
  have z_20 := W_18.size
  have V_21 : Arv Z h_16 t kb .byte (2 : Int32) [(.int ((en (0 : Int32)).toInt8.toInt32)), (.int ((en (16 : Int32)).toInt8.toInt32))] (.int (0 : Int32)) := by rw [u_narb] at A_19; exact A_19
  refine k_pure (g' := (mkF m 250 #[.val (.ref x), .val (.ref q), .val (.int (0 : Int32)), .val (.int (1 : Int32)), .val (.ref t), .val (.ref tb), .val (.int (1 : Int32)), .val (.int (0 : Int32)), .val (.int (0 : Int32)), .val (.int (2 : Int32)), .val (.int (1 : Int32)), .unset, .unset, .unset, .unset, .unset] [(.ref x)])) (fun _ J _ j => XS.aloadN J hx rfl (hb hby d300) rfl rfl j) ?_
  have F_22 : Fld Z h_16 x "java/util/Base64$Encoder" "doPadding" "Z" (.int (0 : Int32)) := ((pf_4.other W_11 (Or.inl (ne_ad (by omega)))).other W_18 (Or.inl (ne_ad (by omega))))
  refine k_getF hx (host := "") (Or.inl (wT 41 rfl)) Via.refl F_22 rfl rfl (hb hby d301) ?_
  refine k_pure (g' := (mkF m 354 #[.val (.ref x), .val (.ref q), .val (.int (0 : Int32)), .val (.int (1 : Int32)), .val (.ref t), .val (.ref tb), .val (.int (1 : Int32)), .val (.int (0 : Int32)), .val (.int (0 : Int32)), .val (.int (2 : Int32)), .val (.int (1 : Int32)), .unset, .unset, .unset, .unset, .unset] [(.int (2 : Int32))])) (fun TT HH tt kk => XS.ifYes HH hx rfl (pc0 := 253) (pc' := 352) rfl (hb hby d302) rfl ((if0 _ _).trans (teq (by decide : ((0 : Int32) = (0 : Int32)))).1) (by decide) (by decide) (XS.iload HH hx rfl (hb hby d303) rfl kk)) ?_
  exact k_retI hx hlk hret (hb hby d304) (by decide) (by decide) ⟨rfl, rfl, (((Keep.refl _ _).wr W_11 (Or.inl (by simp))).wr W_18 (Or.inl (by simp))), V_21⟩
def Q_en01 (Z : State) (G1 : Int32) (G3 : Value) (e0 tb : Addr) (kt : ClassId) (x : Addr) (q : Addr) (kq : ClassId) (t : Addr) (kb : ClassId) (za : Int32) (h0 : Heap) (n0 : Nat) (bk : Addr → Prop) (v : Option Value) (h : Heap) (bk' : Addr → Prop) : Prop := v = some (.int (3 : Int32)) ∧ NoB = bk' ∧ Keep h0 h [t] ∧ (Arv Z h t kb .byte (3 : Int32) [(.int ((en (0 : Int32)).toInt8.toInt32)), (.int ((en ((16 : Int32) ||| (za >>> ((4 : Int32) &&& 31)))).toInt8.toInt32)), (.int ((en (((za &&& (15 : Int32)) <<< ((2 : Int32) &&& 31)) ||| (0 : Int32))).toInt8.toInt32))] (.int (0 : Int32)))
theorem d305 : decode jdk_2452_method_10_code 279 = .ok (.aload_n 1, 1) := by decide +kernel
theorem d306 : decode jdk_2452_method_10_code 280 = .ok (.iload 6, 2) := by decide +kernel
theorem d307 : decode jdk_2452_method_10_code 282 = .ok (.iinc 6 1, 3) := by decide +kernel
theorem d308 : decode jdk_2452_method_10_code 285 = .ok (.baload, 1) := by decide +kernel
theorem d309 : decode jdk_2452_method_10_code 286 = .ok (.sipush 255, 3) := by decide +kernel
theorem d310 : decode jdk_2452_method_10_code 289 = .ok (.iand, 1) := by decide +kernel
theorem d311 : decode jdk_2452_method_10_code 290 = .ok (.istore 11, 2) := by decide +kernel
theorem d312 : decode jdk_2452_method_10_code 292 = .ok (.aload 4, 2) := by decide +kernel
theorem d313 : decode jdk_2452_method_10_code 294 = .ok (.iload 9, 2) := by decide +kernel
theorem d314 : decode jdk_2452_method_10_code 296 = .ok (.iinc 9 1, 3) := by decide +kernel
theorem d315 : decode jdk_2452_method_10_code 299 = .ok (.aload 5, 2) := by decide +kernel
theorem d316 : decode jdk_2452_method_10_code 301 = .ok (.iload 10, 2) := by decide +kernel
theorem d317 : decode jdk_2452_method_10_code 303 = .ok (.iconst 4, 1) := by decide +kernel
theorem d318 : decode jdk_2452_method_10_code 304 = .ok (.ishl, 1) := by decide +kernel
theorem d319 : decode jdk_2452_method_10_code 305 = .ok (.bipush 63, 2) := by decide +kernel
theorem d320 : decode jdk_2452_method_10_code 307 = .ok (.iand, 1) := by decide +kernel
theorem d321 : decode jdk_2452_method_10_code 308 = .ok (.iload 11, 2) := by decide +kernel
theorem d322 : decode jdk_2452_method_10_code 310 = .ok (.iconst 4, 1) := by decide +kernel
theorem d323 : decode jdk_2452_method_10_code 311 = .ok (.ishr, 1) := by decide +kernel
theorem d324 : decode jdk_2452_method_10_code 312 = .ok (.ior, 1) := by decide +kernel
theorem d325 : decode jdk_2452_method_10_code 313 = .ok (.caload, 1) := by decide +kernel
theorem d326 : decode jdk_2452_method_10_code 314 = .ok (.i2b, 1) := by decide +kernel
theorem d327 : decode jdk_2452_method_10_code 315 = .ok (.bastore, 1) := by decide +kernel
theorem d328 : decode jdk_2452_method_10_code 316 = .ok (.aload 4, 2) := by decide +kernel
theorem d329 : decode jdk_2452_method_10_code 318 = .ok (.iload 9, 2) := by decide +kernel
theorem d330 : decode jdk_2452_method_10_code 320 = .ok (.iinc 9 1, 3) := by decide +kernel
theorem d331 : decode jdk_2452_method_10_code 323 = .ok (.aload 5, 2) := by decide +kernel
theorem d332 : decode jdk_2452_method_10_code 325 = .ok (.iload 11, 2) := by decide +kernel
theorem d333 : decode jdk_2452_method_10_code 327 = .ok (.iconst 2, 1) := by decide +kernel
theorem d334 : decode jdk_2452_method_10_code 328 = .ok (.ishl, 1) := by decide +kernel
theorem d335 : decode jdk_2452_method_10_code 329 = .ok (.bipush 63, 2) := by decide +kernel
theorem d336 : decode jdk_2452_method_10_code 331 = .ok (.iand, 1) := by decide +kernel
theorem d337 : decode jdk_2452_method_10_code 332 = .ok (.caload, 1) := by decide +kernel
theorem d338 : decode jdk_2452_method_10_code 333 = .ok (.i2b, 1) := by decide +kernel
theorem d339 : decode jdk_2452_method_10_code 334 = .ok (.bastore, 1) := by decide +kernel
theorem d340 : decode jdk_2452_method_10_code 335 = .ok (.aload_n 0, 1) := by decide +kernel
theorem d341 : decode jdk_2452_method_10_code 336 = .ok (.getfield 21, 3) := by decide +kernel
theorem d342 : decode jdk_2452_method_10_code 339 = .ok (.ifCond .eq 13, 3) := by decide +kernel
abbrev RM_en01 : Room := { frames := 0, cells := 0, slots := 0, locals := 0 }
theorem ef_en01 (m : MethodId) (x0 : Addr) (x1 : Addr) (x2 : Int32) (x3 : Int32) (x4 : Addr) : entryFrame m #[(.ref x0), (.ref x1), (.int x2), (.int x3), (.ref x4)] 16 = mkF m 0 #[.val (.ref x0), .val (.ref x1), .val (.int x2), .val (.int x3), .val (.ref x4), .unset, .unset, .unset, .unset, .unset, .unset, .unset, .unset, .unset, .unset, .unset] [] := by first | (simp [entryFrame, mkF, argsToLocals, Value.category]; done) | rfl
set_option maxRecDepth 65536 in
set_option maxHeartbeats 40000000 in
theorem rm_en01 (l : Launch) (Z : State) (a0 : Array Value) (G1 : Int32) (G3 : Value) (e0 tb : Addr) (kt : ClassId) (hX : Ctx Z a0 G1 G3) (hY : More Z e0 tb kt) (n0 : Nat) (h0 : Heap) (O0 : Old Z n0 h0) (x : Addr) (q : Addr) (kq : ClassId) (t : Addr) (kb : ClassId) (za : Int32) (pf_0 : Exa Z h0 x "java/util/Base64$Encoder") (pf_1 : Fld Z h0 x "java/util/Base64$Encoder" "isURL" "Z" (.int (1 : Int32))) (pf_2 : Fld Z h0 x "java/util/Base64$Encoder" "newline" "[B" .null) (pf_3 : Fld Z h0 x "java/util/Base64$Encoder" "linemax" "I" (.int ((-1) : Int32))) (pf_4 : Fld Z h0 x "java/util/Base64$Encoder" "doPadding" "Z" (.int (0 : Int32))) (pf_5 : Arv Z h0 q kq .byte (2 : Int32) [(.int (1 : Int32)), (.int (za.toInt8.toInt32))] (.int (0 : Int32))) (pf_6 : Arv Z h0 t kb .byte (3 : Int32) [(.int (0 : Int32)), (.int (0 : Int32)), (.int (0 : Int32))] (.int (0 : Int32))) (gt : n0 ≤ t) (qt : @Ne Nat q t) (xt : @Ne Nat x t) (b_za : 0 ≤ za.toInt ∧ za.toInt ≤ 255) (ws : List Jvm.Cond) : Met l Z EL1 n0 NoB (⟨"java/util/Base64$Encoder", "encode0", "([BII[B)I"⟩ : MethodName) jdk_2452_method_10_code 16 (Option.some FieldType.int) RM_en01 #[(.ref x), (.ref q), (.int (0 : Int32)), (.int (2 : Int32)), (.ref t)] h0 (Q_en01 Z G1 G3 e0 tb kt x q kq t kb za h0 n0 NoB) ws := by
  have hX' := hX
  obtain ⟨hw, hE, S1, P1, S3, P3⟩ := hX'
  have hY' := hY
  obtain ⟨s_e, x_e, f_u, f_n, f_l, f_p, s_t, a_t⟩ := hY'
  have wT : ∀ (i : Nat) {d : Jvm.Cond}, tables_1[i]? = some d → d.before a0 Z = true := fun i d h => hw d (List.mem_of_getElem? h)
  have z0 : n0 ≤ h0.size := by rw [← O0.1]; exact O0.2.1
  refine Met.of (by decide +kernel) O0 hE ?_
  intro p e s m below meth c hx hby hml hret hlk hnm
  refine k_cast (ef_en01 m x q (0 : Int32) (2 : Int32) t) ?_
  show Run p l e _ s m _ below meth c Z EL1 _ n0 NoB h0 0 0 (mkF m 0 #[.val (.ref x), .val (.ref q), .val (.int (0 : Int32)), .val (.int (2 : Int32)), .val (.ref t), .unset, .unset, .unset, .unset, .unset, .unset, .unset, .unset, .unset, .unset, .unset] []) _
  have lt_1 : @LT.lt Nat _ x (Array.size h0) := pf_0.lt
  have lt_2 : @LT.lt Nat _ x (Array.size h0) := pf_1.lt
  have lt_3 : @LT.lt Nat _ x (Array.size h0) := pf_2.lt
  have lt_4 : @LT.lt Nat _ x (Array.size h0) := pf_3.lt
  have lt_5 : @LT.lt Nat _ x (Array.size h0) := pf_4.lt
  have lt_6 : @LT.lt Nat _ q (Array.size h0) := pf_5.lt
  have lt_7 : @LT.lt Nat _ t (Array.size h0) := pf_6.lt
  refine k_pure (g' := (mkF m 1 #[.val (.ref x), .val (.ref q), .val (.int (0 : Int32)), .val (.int (2 : Int32)), .val (.ref t), .unset, .unset, .unset, .unset, .unset, .unset, .unset, .unset, .unset, .unset, .unset] [(.ref x)])) (fun _ J _ j => XS.aloadN J hx rfl (hb hby d237) rfl rfl j) ?_
  refine k_getF hx (host := "") (Or.inl (wT 45 rfl)) Via.refl pf_1 rfl rfl (hb hby d238) ?_
  refine k_pure (g' := (mkF m 7 #[.val (.ref x), .val (.ref q), .val (.int (0 : Int32)), .val (.int (2 : Int32)), .val (.ref t), .unset, .unset, .unset, .unset, .unset, .unset, .unset, .unset, .unset, .unset, .unset] [])) (fun _ J _ j => XS.ifNo J hx rfl (hb hby d239) rfl ((if0 _ _).trans (feq (by decide : ¬ ((1 : Int32) = (0 : Int32)))).1) j) ?_
  refine k_getS hx (host := "") (Or.inl (wT 83 rfl)) Via.refl (s_t.ext O0.2) rfl (hb hby d240) ?_
  refine k_pure (g' := (mkF m 21 #[.val (.ref x), .val (.ref q), .val (.int (0 : Int32)), .val (.int (2 : Int32)), .val (.ref t), .val (.ref tb), .val (.int (0 : Int32)), .unset, .unset, .unset, .unset, .unset, .unset, .unset, .unset, .unset] [])) (fun TT HH tt kk => XS.goto HH hx rfl (pc0 := 10) (pc' := 16) rfl (hb hby d241) (by decide) (by decide) (XS.astore HH hx rfl (hb hby d242) rfl rfl (l' := #[.val (.ref x), .val (.ref q), .val (.int (0 : Int32)), .val (.int (2 : Int32)), .val (.ref t), .val (.ref tb), .unset, .unset, .unset, .unset, .unset, .unset, .unset, .unset, .unset, .unset]) rfl (XS.iloadN HH hx rfl (hb hby d243) rfl (XS.istore HH hx rfl (hb hby d244) rfl (l' := #[.val (.ref x), .val (.ref q), .val (.int (0 : Int32)), .val (.int (2 : Int32)), .val (.ref t), .val (.ref tb), .val (.int (0 : Int32)), .unset, .unset, .unset, .unset, .unset, .unset, .unset, .unset, .unset]) rfl kk)))) ?_
  refine k_pure (g' := (mkF m 25 #[.val (.ref x), .val (.ref q), .val (.int (0 : Int32)), .val (.int (2 : Int32)), .val (.ref t), .val (.ref tb), .val (.int (0 : Int32)), .unset, .unset, .unset, .unset, .unset, .unset, .unset, .unset, .unset] [(.int (3 : Int32)), (.int (2 : Int32))])) (fun TT HH tt kk => XS.iloadN HH hx rfl (hb hby d245) rfl (XS.iloadN HH hx rfl (hb hby d246) rfl (XS.isub HH hx rfl (hb hby d247) rfl (XS.iconst HH hx rfl (hb hby d248) kk)))) ?_
  refine k_pure (g' := (mkF m 28 #[.val (.ref x), .val (.ref q), .val (.int (0 : Int32)), .val (.int (2 : Int32)), .val (.ref t), .val (.ref tb), .val (.int (0 : Int32)), .unset, .unset, .unset, .unset, .unset, .unset, .unset, .unset, .unset] [(.int ((0 : Int32) * (3 : Int32)))])) (fun TT HH tt kk => XS.idiv HH hx rfl (hb hby d249) rfl (by decide) (XS.iconst HH hx rfl (hb hby d250) (XS.imul HH hx rfl (hb hby d251) rfl kk))) ?_
  rw [show ((0 : Int32) * (3 : Int32)) = (0 : Int32) from by decide]
  refine k_pure (g' := (mkF m 34 #[.val (.ref x), .val (.ref q), .val (.int (0 : Int32)), .val (.int (2 : Int32)), .val (.ref t), .val (.ref tb), .val (.int (0 : Int32)), .val (.int (0 : Int32)), .unset, .unset, .unset, .unset, .unset, .unset, .unset, .unset] [(.int (0 : Int32))])) (fun TT HH tt kk => XS.istore HH hx rfl (hb hby d252) rfl (l' := #[.val (.ref x), .val (.ref q), .val (.int (0 : Int32)), .val (.int (2 : Int32)), .val (.ref t), .val (.ref tb), .val (.int (0 : Int32)), .val (.int (0 : Int32)), .unset, .unset, .unset, .unset, .unset, .unset, .unset, .unset]) rfl (XS.iloadN HH hx rfl (hb hby d253) rfl (XS.iload HH hx rfl (hb hby d254) rfl (XS.iadd HH hx rfl (hb hby d255) rfl kk)))) ?_
  refine k_pure (g' := (mkF m 37 #[.val (.ref x), .val (.ref q), .val (.int (0 : Int32)), .val (.int (2 : Int32)), .val (.ref t), .val (.ref tb), .val (.int (0 : Int32)), .val (.int (0 : Int32)), .val (.int (0 : Int32)), .unset, .unset, .unset, .unset, .unset, .unset, .unset] [(.ref x)])) (fun TT HH tt kk => XS.istore HH hx rfl (hb hby d256) rfl (l' := #[.val (.ref x), .val (.ref q), .val (.int (0 : Int32)), .val (.int (2 : Int32)), .val (.ref t), .val (.ref tb), .val (.int (0 : Int32)), .val (.int (0 : Int32)), .val (.int (0 : Int32)), .unset, .unset, .unset, .unset, .unset, .unset, .unset]) rfl (XS.aloadN HH hx rfl (hb hby d257) rfl rfl kk)) ?_
  refine k_getF hx (host := "") (Or.inl (wT 49 rfl)) Via.refl pf_3 rfl rfl (hb hby d258) ?_
  refine k_pure (g' := (mkF m 71 #[.val (.ref x), .val (.ref q), .val (.int (0 : Int32)), .val (.int (2 : Int32)), .val (.ref t), .val (.ref tb), .val (.int (0 : Int32)), .val (.int (0 : Int32)), .val (.int (0 : Int32)), .val (.int (0 : Int32)), .unset, .unset, .unset, .unset, .unset, .unset] [(.int (0 : Int32))])) (fun TT HH tt kk => XS.ifYes HH hx rfl (pc0 := 40) (pc' := 66) rfl (hb hby d259) rfl ((if0 _ _).trans (flt (by decide : ¬ ((0 : Int32) < ((-1) : Int32)))).2.2.2) (by decide) (by decide) (XS.iconst HH hx rfl (hb hby d260) (XS.istore HH hx rfl (hb hby d261) rfl (l' := #[.val (.ref x), .val (.ref q), .val (.int (0 : Int32)), .val (.int (2 : Int32)), .val (.ref t), .val (.ref tb), .val (.int (0 : Int32)), .val (.int (0 : Int32)), .val (.int (0 : Int32)), .val (.int (0 : Int32)), .unset, .unset, .unset, .unset, .unset, .unset]) rfl (XS.iload HH hx rfl (hb hby d262) rfl kk)))) ?_
  refine k_pure (g' := (mkF m 192 #[.val (.ref x), .val (.ref q), .val (.int (0 : Int32)), .val (.int (2 : Int32)), .val (.ref t), .val (.ref tb), .val (.int (0 : Int32)), .val (.int (0 : Int32)), .val (.int (0 : Int32)), .val (.int (0 : Int32)), .unset, .unset, .unset, .unset, .unset, .unset] [(.int (2 : Int32)), (.int (0 : Int32))])) (fun TT HH tt kk => XS.iload HH hx rfl (hb hby d263) rfl (XS.icmpYes HH hx rfl (pc0 := 73) (pc' := 189) rfl (hb hby d264) rfl (flt (by decide : ¬ ((0 : Int32) < (0 : Int32)))).2.1 (by decide) (by decide) (XS.iload HH hx rfl (hb hby d265) rfl (XS.iloadN HH hx rfl (hb hby d266) rfl kk)))) ?_
  refine k_pure (g' := (mkF m 201 #[.val (.ref x), .val (.ref q), .val (.int (0 : Int32)), .val (.int (2 : Int32)), .val (.ref t), .val (.ref tb), .val (.int (1 : Int32)), .val (.int (0 : Int32)), .val (.int (0 : Int32)), .val (.int (0 : Int32)), .unset, .unset, .unset, .unset, .unset, .unset] [(.int (0 : Int32)), (.ref q)])) (fun TT HH tt kk => XS.icmpNo HH hx rfl (hb hby d267) rfl (tlt (by decide : ((0 : Int32) < (2 : Int32)))).2.1 (XS.aloadN HH hx rfl (hb hby d268) rfl rfl (XS.iload HH hx rfl (hb hby d269) rfl (XS.iinc HH hx rfl (hb hby d270) rfl (l' := #[.val (.ref x), .val (.ref q), .val (.int (0 : Int32)), .val (.int (2 : Int32)), .val (.ref t), .val (.ref tb), .val (.int (1 : Int32)), .val (.int (0 : Int32)), .val (.int (0 : Int32)), .val (.int (0 : Int32)), .unset, .unset, .unset, .unset, .unset, .unset]) rfl kk)))) ?_
  refine k_aget hx (v := (.int (1 : Int32))) pf_5 ⟨by decide, by decide⟩ rfl (Or.inr (Or.inr (Or.inr (Or.inl ⟨rfl, rfl⟩)))) rfl rfl (hb hby d271) ?_
  refine k_pure (g' := (mkF m 210 #[.val (.ref x), .val (.ref q), .val (.int (0 : Int32)), .val (.int (2 : Int32)), .val (.ref t), .val (.ref tb), .val (.int (1 : Int32)), .val (.int (0 : Int32)), .val (.int (0 : Int32)), .val (.int (0 : Int32)), .val (.int (1 : Int32)), .unset, .unset, .unset, .unset, .unset] [(.ref t)])) (fun TT HH tt kk => XS.sipush HH hx rfl (hb hby d272) (XS.iand HH hx rfl (hb hby d273) rfl (XS.istore HH hx rfl (hb hby d274) rfl (l' := #[.val (.ref x), .val (.ref q), .val (.int (0 : Int32)), .val (.int (2 : Int32)), .val (.ref t), .val (.ref tb), .val (.int (1 : Int32)), .val (.int (0 : Int32)), .val (.int (0 : Int32)), .val (.int (0 : Int32)), .val (.int (1 : Int32)), .unset, .unset, .unset, .unset, .unset]) rfl (XS.aload HH hx rfl (hb hby d275) rfl rfl kk)))) ?_
  refine k_pure (g' := (mkF m 219 #[.val (.ref x), .val (.ref q), .val (.int (0 : Int32)), .val (.int (2 : Int32)), .val (.ref t), .val (.ref tb), .val (.int (1 : Int32)), .val (.int (0 : Int32)), .val (.int (0 : Int32)), .val (.int (1 : Int32)), .val (.int (1 : Int32)), .unset, .unset, .unset, .unset, .unset] [(.int (1 : Int32)), (.ref tb), (.int (0 : Int32)), (.ref t)])) (fun TT HH tt kk => XS.iload HH hx rfl (hb hby d276) rfl (XS.iinc HH hx rfl (hb hby d277) rfl (l' := #[.val (.ref x), .val (.ref q), .val (.int (0 : Int32)), .val (.int (2 : Int32)), .val (.ref t), .val (.ref tb), .val (.int (1 : Int32)), .val (.int (0 : Int32)), .val (.int (0 : Int32)), .val (.int (1 : Int32)), .val (.int (1 : Int32)), .unset, .unset, .unset, .unset, .unset]) rfl (XS.aload HH hx rfl (hb hby d278) rfl rfl (XS.iload HH hx rfl (hb hby d279) rfl kk)))) ?_
  refine k_pure (g' := (mkF m 221 #[.val (.ref x), .val (.ref q), .val (.int (0 : Int32)), .val (.int (2 : Int32)), .val (.ref t), .val (.ref tb), .val (.int (1 : Int32)), .val (.int (0 : Int32)), .val (.int (0 : Int32)), .val (.int (1 : Int32)), .val (.int (1 : Int32)), .unset, .unset, .unset, .unset, .unset] [(.int (0 : Int32)), (.ref tb), (.int (0 : Int32)), (.ref t)])) (fun TT HH tt kk => XS.iconst HH hx rfl (hb hby d280) (XS.ishr HH hx rfl (hb hby d281) rfl kk)) ?_
  have F_8 : Arv Z h0 tb kt .char (64 : Int32) (T64.map Value.int) (.int (0 : Int32)) := a_t.ext O0.2
  refine k_aget hx (v := (.int (en (0 : Int32)))) F_8 ⟨by decide, by decide⟩ (en_at rfl) (Or.inr (Or.inr (Or.inl ⟨rfl, rfl⟩))) rfl rfl (hb hby d282) ?_
  refine k_pure (g' := (mkF m 223 #[.val (.ref x), .val (.ref q), .val (.int (0 : Int32)), .val (.int (2 : Int32)), .val (.ref t), .val (.ref tb), .val (.int (1 : Int32)), .val (.int (0 : Int32)), .val (.int (0 : Int32)), .val (.int (1 : Int32)), .val (.int (1 : Int32)), .unset, .unset, .unset, .unset, .unset] [(.int ((en (0 : Int32)).toInt8.toInt32)), (.int (0 : Int32)), (.ref t)])) (fun _ J _ j => XS.i2b J hx rfl (hb hby d283) rfl j) ?_
  refine k_stB hx pf_6 ⟨by decide, by decide⟩ 0 (by decide) (Nat.le_of_ble_eq_true rfl) (by omega) (fun q => q) rfl rfl (hb hby d284) ?_
  intro h_9 O_10 W_11 A_12
  have z_13 := W_11.size
  have V_14 : Arv Z h_9 t kb .byte (3 : Int32) [(.int ((en (0 : Int32)).toInt8.toInt32)), (.int (0 : Int32)), (.int (0 : Int32))] (.int (0 : Int32)) := by rw [u_narb] at A_12; exact A_12
  refine k_pure (g' := (mkF m 280 #[.val (.ref x), .val (.ref q), .val (.int (0 : Int32)), .val (.int (2 : Int32)), .val (.ref t), .val (.ref tb), .val (.int (1 : Int32)), .val (.int (0 : Int32)), .val (.int (0 : Int32)), .val (.int (1 : Int32)), .val (.int (1 : Int32)), .unset, .unset, .unset, .unset, .unset] [(.ref q)])) (fun TT HH tt kk => XS.iload HH hx rfl (hb hby d285) rfl (XS.iloadN HH hx rfl (hb hby d286) rfl (XS.icmpYes HH hx rfl (pc0 := 227) (pc' := 279) rfl (hb hby d287) rfl (feq (by decide : ¬ ((1 : Int32) = (2 : Int32)))).2 (by decide) (by decide) (XS.aloadN HH hx rfl (hb hby d305) rfl rfl kk)))) ?_
  refine k_pure (g' := (mkF m 285 #[.val (.ref x), .val (.ref q), .val (.int (0 : Int32)), .val (.int (2 : Int32)), .val (.ref t), .val (.ref tb), .val (.int (2 : Int32)), .val (.int (0 : Int32)), .val (.int (0 : Int32)), .val (.int (1 : Int32)), .val (.int (1 : Int32)), .unset, .unset, .unset, .unset, .unset] [(.int (1 : Int32)), (.ref q)])) (fun TT HH tt kk => XS.iload HH hx rfl (hb hby d306) rfl (XS.iinc HH hx rfl (hb hby d307) rfl (l' := #[.val (.ref x), .val (.ref q), .val (.int (0 : Int32)), .val (.int (2 : Int32)), .val (.ref t), .val (.ref tb), .val (.int (2 : Int32)), .val (.int (0 : Int32)), .val (.int (0 : Int32)), .val (.int (1 : Int32)), .val (.int (1 : Int32)), .unset, .unset, .unset, .unset, .unset]) rfl kk)) ?_
  have F_15 : Arv Z h_9 q kq .byte (2 : Int32) [(.int (1 : Int32)), (.int (za.toInt8.toInt32))] (.int (0 : Int32)) := (pf_5.other W_11 (ne_ad (by omega)))
  refine k_aget hx (v := (.int (za.toInt8.toInt32))) F_15 ⟨by decide, by decide⟩ rfl (Or.inr (Or.inr (Or.inr (Or.inl ⟨rfl, rfl⟩)))) rfl rfl (hb hby d308) ?_
  refine k_pure (g' := (mkF m 290 #[.val (.ref x), .val (.ref q), .val (.int (0 : Int32)), .val (.int (2 : Int32)), .val (.ref t), .val (.ref tb), .val (.int (2 : Int32)), .val (.int (0 : Int32)), .val (.int (0 : Int32)), .val (.int (1 : Int32)), .val (.int (1 : Int32)), .unset, .unset, .unset, .unset, .unset] [(.int ((za.toInt8.toInt32) &&& (255 : Int32)))])) (fun TT HH tt kk => XS.sipush HH hx rfl (hb hby d309) (XS.iand HH hx rfl (hb hby d310) rfl kk)) ?_
  rw [m8 b_za]
  refine k_pure (g' := (mkF m 299 #[.val (.ref x), .val (.ref q), .val (.int (0 : Int32)), .val (.int (2 : Int32)), .val (.ref t), .val (.ref tb), .val (.int (2 : Int32)), .val (.int (0 : Int32)), .val (.int (0 : Int32)), .val (.int (2 : Int32)), .val (.int (1 : Int32)), .val (.int za), .unset, .unset, .unset, .unset] [(.int (1 : Int32)), (.ref t)])) (fun TT HH tt kk => XS.istore HH hx rfl (hb hby d311) rfl (l' := #[.val (.ref x), .val (.ref q), .val (.int (0 : Int32)), .val (.int (2 : Int32)), .val (.ref t), .val (.ref tb), .val (.int (2 : Int32)), .val (.int (0 : Int32)), .val (.int (0 : Int32)), .val (.int (1 : Int32)), .val (.int (1 : Int32)), .val (.int za), .unset, .unset, .unset, .unset]) rfl (XS.aload HH hx rfl (hb hby d312) rfl rfl (XS.iload HH hx rfl (hb hby d313) rfl (XS.iinc HH hx rfl (hb hby d314) rfl (l' := #[.val (.ref x), .val (.ref q), .val (.int (0 : Int32)), .val (.int (2 : Int32)), .val (.ref t), .val (.ref tb), .val (.int (2 : Int32)), .val (.int (0 : Int32)), .val (.int (0 : Int32)), .val (.int (2 : Int32)), .val (.int (1 : Int32)), .val (.int za), .unset, .unset, .unset, .unset]) rfl kk)))) ?_
  refine k_pure (g' := (mkF m 305 #[.val (.ref x), .val (.ref q), .val (.int (0 : Int32)), .val (.int (2 : Int32)), .val (.ref t), .val (.ref tb), .val (.int (2 : Int32)), .val (.int (0 : Int32)), .val (.int (0 : Int32)), .val (.int (2 : Int32)), .val (.int (1 : Int32)), .val (.int za), .unset, .unset, .unset, .unset] [(.int (16 : Int32)), (.ref tb), (.int (1 : Int32)), (.ref t)])) (fun TT HH tt kk => XS.aload HH hx rfl (hb hby d315) rfl rfl (XS.iload HH hx rfl (hb hby d316) rfl (XS.iconst HH hx rfl (hb hby d317) (XS.ishl HH hx rfl (hb hby d318) rfl kk)))) ?_
  refine k_pure (g' := (mkF m 311 #[.val (.ref x), .val (.ref q), .val (.int (0 : Int32)), .val (.int (2 : Int32)), .val (.ref t), .val (.ref tb), .val (.int (2 : Int32)), .val (.int (0 : Int32)), .val (.int (0 : Int32)), .val (.int (2 : Int32)), .val (.int (1 : Int32)), .val (.int za), .unset, .unset, .unset, .unset] [(.int (4 : Int32)), (.int za), (.int (16 : Int32)), (.ref tb), (.int (1 : Int32)), (.ref t)])) (fun TT HH tt kk => XS.bipush HH hx rfl (hb hby d319) (XS.iand HH hx rfl (hb hby d320) rfl (XS.iload HH hx rfl (hb hby d321) rfl (XS.iconst HH hx rfl (hb hby d322) kk)))) ?_
  refine k_pure (g' := (mkF m 313 #[.val (.ref x), .val (.ref q), .val (.int (0 : Int32)), .val (.int (2 : Int32)), .val (.ref t), .val (.ref tb), .val (.int (2 : Int32)), .val (.int (0 : Int32)), .val (.int (0 : Int32)), .val (.int (2 : Int32)), .val (.int (1 : Int32)), .val (.int za), .unset, .unset, .unset, .unset] [(.int ((16 : Int32) ||| (za >>> ((4 : Int32) &&& 31)))), (.ref tb), (.int (1 : Int32)), (.ref t)])) (fun TT HH tt kk => XS.ishr HH hx rfl (hb hby d323) rfl (XS.ior HH hx rfl (hb hby d324) rfl kk)) ?_
  have F_16 : Arv Z h_9 tb kt .char (64 : Int32) (T64.map Value.int) (.int (0 : Int32)) := a_t.ext O_10.2
  refine k_aget hx (v := (.int (en ((16 : Int32) ||| (za >>> ((4 : Int32) &&& 31)))))) F_16 ⟨(by have r0 : (16 : Int32).toInt = 16 := (by decide); have r1 := rng32 za; have r2 : (za >>> ((4 : Int32) &&& 31)).toInt = za.toInt / 16 := (c_ishr za (4 : Int32) 4 (by decide)); have r3 := rng32 (za >>> ((4 : Int32) &&& 31)); have r4 := rng32 ((16 : Int32) ||| (za >>> ((4 : Int32) &&& 31))); have r5 : (0 : Int32).toInt = 0 := (by decide); have r6 := b_za; have r7 := t1 b_za; rw [Int32.lt_iff_toInt_lt]; omega), (by have r0 : (16 : Int32).toInt = 16 := (by decide); have r1 := rng32 za; have r2 : (za >>> ((4 : Int32) &&& 31)).toInt = za.toInt / 16 := (c_ishr za (4 : Int32) 4 (by decide)); have r3 := rng32 (za >>> ((4 : Int32) &&& 31)); have r4 := rng32 ((16 : Int32) ||| (za >>> ((4 : Int32) &&& 31))); have r5 : (64 : Int32).toInt = 64 := (by decide); have r6 := b_za; have r7 := t1 b_za; rw [Int32.lt_iff_toInt_lt]; omega)⟩ (en_at rfl) (Or.inr (Or.inr (Or.inl ⟨rfl, rfl⟩))) rfl rfl (hb hby d325) ?_
  refine k_pure (g' := (mkF m 315 #[.val (.ref x), .val (.ref q), .val (.int (0 : Int32)), .val (.int (2 : Int32)), .val (.ref t), .val (.ref tb), .val (.int (2 : Int32)), .val (.int (0 : Int32)), .val (.int (0 : Int32)), .val (.int (2 : Int32)), .val (.int (1 : Int32)), .val (.int za), .unset, .unset, .unset, .unset] [(.int ((en ((16 : Int32) ||| (za >>> ((4 : Int32) &&& 31)))).toInt8.toInt32)), (.int (1 : Int32)), (.ref t)])) (fun _ J _ j => XS.i2b J hx rfl (hb hby d326) rfl j) ?_
  refine k_stB hx V_14 ⟨by decide, by decide⟩ 1 (by decide) (Nat.le_of_ble_eq_true rfl) (by omega) (fun q => q) rfl rfl (hb hby d327) ?_
  intro h_17 O_18 W_19 A_20
  have z_21 := W_19.size
  have V_22 : Arv Z h_17 t kb .byte (3 : Int32) [(.int ((en (0 : Int32)).toInt8.toInt32)), (.int ((en ((16 : Int32) ||| (za >>> ((4 : Int32) &&& 31)))).toInt8.toInt32)), (.int (0 : Int32))] (.int (0 : Int32)) := by rw [u_narb] at A_20; exact A_20
  refine k_pure (g' := (mkF m 325 #[.val (.ref x), .val (.ref q), .val (.int (0 : Int32)), .val (.int (2 : Int32)), .val (.ref t), .val (.ref tb), .val (.int (2 : Int32)), .val (.int (0 : Int32)), .val (.int (0 : Int32)), .val (.int (3 : Int32)), .val (.int (1 : Int32)), .val (.int za), .unset, .unset, .unset, .unset] [(.ref tb), (.int (2 : Int32)), (.ref t)])) (fun TT HH tt kk => XS.aload HH hx rfl (hb hby d328) rfl rfl (XS.iload HH hx rfl (hb hby d329) rfl (XS.iinc HH hx rfl (hb hby d330) rfl (l' := #[.val (.ref x), .val (.ref q), .val (.int (0 : Int32)), .val (.int (2 : Int32)), .val (.ref t), .val (.ref tb), .val (.int (2 : Int32)), .val (.int (0 : Int32)), .val (.int (0 : Int32)), .val (.int (3 : Int32)), .val (.int (1 : Int32)), .val (.int za), .unset, .unset, .unset, .unset]) rfl (XS.aload HH hx rfl (hb hby d331) rfl rfl kk)))) ?_
  refine k_pure (g' := (mkF m 331 #[.val (.ref x), .val (.ref q), .val (.int (0 : Int32)), .val (.int (2 : Int32)), .val (.ref t), .val (.ref tb), .val (.int (2 : Int32)), .val (.int (0 : Int32)), .val (.int (0 : Int32)), .val (.int (3 : Int32)), .val (.int (1 : Int32)), .val (.int za), .unset, .unset, .unset, .unset] [(.int (63 : Int32)), (.int (za <<< ((2 : Int32) &&& 31))), (.ref tb), (.int (2 : Int32)), (.ref t)])) (fun TT HH tt kk => XS.iload HH hx rfl (hb hby d332) rfl (XS.iconst HH hx rfl (hb hby d333) (XS.ishl HH hx rfl (hb hby d334) rfl (XS.bipush HH hx rfl (hb hby d335) kk)))) ?_
  refine k_pure (g' := (mkF m 332 #[.val (.ref x), .val (.ref q), .val (.int (0 : Int32)), .val (.int (2 : Int32)), .val (.ref t), .val (.ref tb), .val (.int (2 : Int32)), .val (.int (0 : Int32)), .val (.int (0 : Int32)), .val (.int (3 : Int32)), .val (.int (1 : Int32)), .val (.int za), .unset, .unset, .unset, .unset] [(.int ((za <<< ((2 : Int32) &&& 31)) &&& (63 : Int32))), (.ref tb), (.int (2 : Int32)), (.ref t)])) (fun _ J _ j => XS.iand J hx rfl (hb hby d336) rfl j) ?_
  have F_23 : Arv Z h_17 tb kt .char (64 : Int32) (T64.map Value.int) (.int (0 : Int32)) := a_t.ext O_18.2
  refine k_aget hx (v := (.int (en (((za &&& (15 : Int32)) <<< ((2 : Int32) &&& 31)) ||| (0 : Int32))))) F_23 ⟨(by have r0 := rng32 za; have r1 : ((za <<< ((2 : Int32) &&& 31)).toInt - za.toInt * 4) % 4294967296 = 0 := (c_ishl za (2 : Int32) 2 (by decide)); have r2 := rng32 (za <<< ((2 : Int32) &&& 31)); have r3 : ((za <<< ((2 : Int32) &&& 31)) &&& (63 : Int32)).toInt = (za <<< ((2 : Int32) &&& 31)).toInt % 64 := (c_mask (za <<< ((2 : Int32) &&& 31)) (63 : Int32) 6 (by decide) (by decide)); have r4 := rng32 ((za <<< ((2 : Int32) &&& 31)) &&& (63 : Int32)); have r5 : (0 : Int32).toInt = 0 := (by decide); have r6 := b_za; have r7 := t2z b_za; rw [Int32.lt_iff_toInt_lt]; omega), (by have r0 := rng32 za; have r1 : ((za <<< ((2 : Int32) &&& 31)).toInt - za.toInt * 4) % 4294967296 = 0 := (c_ishl za (2 : Int32) 2 (by decide)); have r2 := rng32 (za <<< ((2 : Int32) &&& 31)); have r3 : ((za <<< ((2 : Int32) &&& 31)) &&& (63 : Int32)).toInt = (za <<< ((2 : Int32) &&& 31)).toInt % 64 := (c_mask (za <<< ((2 : Int32) &&& 31)) (63 : Int32) 6 (by decide) (by decide)); have r4 := rng32 ((za <<< ((2 : Int32) &&& 31)) &&& (63 : Int32)); have r5 : (64 : Int32).toInt = 64 := (by decide); have r6 := b_za; have r7 := t2z b_za; rw [Int32.lt_iff_toInt_lt]; omega)⟩ (en_at (by have r0 := rng32 za; have r1 : ((za <<< ((2 : Int32) &&& 31)).toInt - za.toInt * 4) % 4294967296 = 0 := (c_ishl za (2 : Int32) 2 (by decide)); have r2 := rng32 (za <<< ((2 : Int32) &&& 31)); have r3 : ((za <<< ((2 : Int32) &&& 31)) &&& (63 : Int32)).toInt = (za <<< ((2 : Int32) &&& 31)).toInt % 64 := (c_mask (za <<< ((2 : Int32) &&& 31)) (63 : Int32) 6 (by decide) (by decide)); have r4 := rng32 ((za <<< ((2 : Int32) &&& 31)) &&& (63 : Int32)); have r5 : (za &&& (15 : Int32)).toInt = za.toInt % 16 := (c_mask za (15 : Int32) 4 (by decide) (by decide)); have r6 := rng32 (za &&& (15 : Int32)); have r7 : (((za &&& (15 : Int32)) <<< ((2 : Int32) &&& 31)).toInt - (za &&& (15 : Int32)).toInt * 4) % 4294967296 = 0 := (c_ishl (za &&& (15 : Int32)) (2 : Int32) 2 (by decide)); have r8 := rng32 ((za &&& (15 : Int32)) <<< ((2 : Int32) &&& 31)); have r9 : (0 : Int32).toInt = 0 := (by decide); have r10 := rng32 (((za &&& (15 : Int32)) <<< ((2 : Int32) &&& 31)) ||| (0 : Int32)); have r11 := b_za; have r12 := t2z b_za; apply Int32.toInt_inj.mp; omega)) (Or.inr (Or.inr (Or.inl ⟨rfl, rfl⟩))) rfl rfl (hb hby d337) ?_
  refine k_pure (g' := (mkF m 334 #[.val (.ref x), .val (.ref q), .val (.int (0 : Int32)), .val (.int (2 : Int32)), .val (.ref t), .val (.ref tb), .val (.int (2 : Int32)), .val (.int (0 : Int32)), .val (.int (0 : Int32)), .val (.int (3 : Int32)), .val (.int (1 : Int32)), .val (.int za), .unset, .unset, .unset, .unset] [(.int ((en (((za &&& (15 : Int32)) <<< ((2 : Int32) &&& 31)) ||| (0 : Int32))).toInt8.toInt32)), (.int (2 : Int32)), (.ref t)])) (fun _ J _ j => XS.i2b J hx rfl (hb hby d338) rfl j) ?_
  refine k_stB hx V_22 ⟨by decide, by decide⟩ 2 (by decide) (Nat.le_of_ble_eq_true rfl) (by omega) (fun q => q) rfl rfl (hb hby d339) ?_
  intro h_24 O_25 W_26 A_27
  have z_28 := W_26.size
  have V_29 : Arv Z h_24 t kb .byte (3 : Int32) [(.int ((en (0 : Int32)).toInt8.toInt32)), (.int ((en ((16 : Int32) ||| (za >>> ((4 : Int32) &&& 31)))).toInt8.toInt32)), (.int ((en (((za &&& (15 : Int32)) <<< ((2 : Int32) &&& 31)) ||| (0 : Int32))).toInt8.toInt32))] (.int (0 : Int32)) := by rw [u_narb] at A_27; exact A_27
  refine k_pure (g' := (mkF m 336 #[.val (.ref x), .val (.ref q), .val (.int (0 : Int32)), .val (.int (2 : Int32)), .val (.ref t), .val (.ref tb), .val (.int (2 : Int32)), .val (.int (0 : Int32)), .val (.int (0 : Int32)), .val (.int (3 : Int32)), .val (.int (1 : Int32)), .val (.int za), .unset, .unset, .unset, .unset] [(.ref x)])) (fun _ J _ j => XS.aloadN J hx rfl (hb hby d340) rfl rfl j) ?_
  have F_30 : Fld Z h_24 x "java/util/Base64$Encoder" "doPadding" "Z" (.int (0 : Int32)) := (((pf_4.other W_11 (Or.inl (ne_ad (by omega)))).other W_19 (Or.inl (ne_ad (by omega)))).other W_26 (Or.inl (ne_ad (by omega))))
  refine k_getF hx (host := "") (Or.inl (wT 41 rfl)) Via.refl F_30 rfl rfl (hb hby d341) ?_
  refine k_pure (g' := (mkF m 354 #[.val (.ref x), .val (.ref q), .val (.int (0 : Int32)), .val (.int (2 : Int32)), .val (.ref t), .val (.ref tb), .val (.int (2 : Int32)), .val (.int (0 : Int32)), .val (.int (0 : Int32)), .val (.int (3 : Int32)), .val (.int (1 : Int32)), .val (.int za), .unset, .unset, .unset, .unset] [(.int (3 : Int32))])) (fun TT HH tt kk => XS.ifYes HH hx rfl (pc0 := 339) (pc' := 352) rfl (hb hby d342) rfl ((if0 _ _).trans (teq (by decide : ((0 : Int32) = (0 : Int32)))).1) (by decide) (by decide) (XS.iload HH hx rfl (hb hby d303) rfl kk)) ?_
  exact k_retI hx hlk hret (hb hby d304) (by decide) (by decide) ⟨rfl, rfl, ((((Keep.refl _ _).wr W_11 (Or.inl (by simp))).wr W_19 (Or.inl (by simp))).wr W_26 (Or.inl (by simp))), V_29⟩
def Q_en02 (Z : State) (G1 : Int32) (G3 : Value) (e0 tb : Addr) (kt : ClassId) (x : Addr) (q : Addr) (kq : ClassId) (t : Addr) (kb : ClassId) (za : Int32) (zb : Int32) (h0 : Heap) (n0 : Nat) (bk : Addr → Prop) (v : Option Value) (h : Heap) (bk' : Addr → Prop) : Prop := v = some (.int (4 : Int32)) ∧ NoB = bk' ∧ Keep h0 h [t] ∧ (Arv Z h t kb .byte (4 : Int32) [(.int ((en (0 : Int32)).toInt8.toInt32)), (.int ((en ((16 : Int32) ||| (za >>> ((4 : Int32) &&& 31)))).toInt8.toInt32)), (.int ((en (((za &&& (15 : Int32)) <<< ((2 : Int32) &&& 31)) ||| (zb >>> ((6 : Int32) &&& 31)))).toInt8.toInt32)), (.int ((en (zb &&& (63 : Int32))).toInt8.toInt32))] (.int (0 : Int32)))
theorem d343 : decode jdk_2452_method_10_code 76 = .ok (.iload 6, 2) := by decide +kernel
theorem d344 : decode jdk_2452_method_10_code 78 = .ok (.iload 7, 2) := by decide +kernel
theorem d345 : decode jdk_2452_method_10_code 80 = .ok (.iadd, 1) := by decide +kernel
theorem d346 : decode jdk_2452_method_10_code 81 = .ok (.iload 8, 2) := by decide +kernel
theorem d347 : decode jdk_2452_method_10_code 83 = .ok (.invokestatic 124, 3) := by decide +kernel
theorem d348 : decode jdk_2452_method_10_code 86 = .ok (.istore 10, 2) := by decide +kernel
theorem d349 : decode jdk_2452_method_10_code 88 = .ok (.aload_n 0, 1) := by decide +kernel
theorem d350 : decode jdk_2452_method_10_code 89 = .ok (.aload_n 1, 1) := by decide +kernel
theorem d351 : decode jdk_2452_method_10_code 90 = .ok (.iload 6, 2) := by decide +kernel
theorem d352 : decode jdk_2452_method_10_code 92 = .ok (.iload 10, 2) := by decide +kernel
theorem d353 : decode jdk_2452_method_10_code 94 = .ok (.aload 4, 2) := by decide +kernel
theorem d354 : decode jdk_2452_method_10_code 96 = .ok (.iload 9, 2) := by decide +kernel
theorem d355 : decode jdk_2452_method_10_code 98 = .ok (.aload_n 0, 1) := by decide +kernel
theorem d356 : decode jdk_2452_method_10_code 99 = .ok (.getfield 7, 3) := by decide +kernel
theorem d357 : decode jdk_2452_method_10_code 102 = .ok (.invokevirtual 127, 3) := by decide +kernel
theorem pd__28__5b_BII_5b_BIZ_29_V : parseMethodDescriptor "([BII[BIZ)V" = some ⟨[(.array .byte), .int, .int, (.array .byte), .int, .boolean], none⟩ := by decide +kernel
theorem d358 : decode jdk_2452_method_10_code 105 = .ok (.iload 10, 2) := by decide +kernel
theorem d359 : decode jdk_2452_method_10_code 107 = .ok (.iload 6, 2) := by decide +kernel
theorem d360 : decode jdk_2452_method_10_code 109 = .ok (.isub, 1) := by decide +kernel
theorem d361 : decode jdk_2452_method_10_code 110 = .ok (.iconst 3, 1) := by decide +kernel
theorem d362 : decode jdk_2452_method_10_code 111 = .ok (.idiv, 1) := by decide +kernel
theorem d363 : decode jdk_2452_method_10_code 112 = .ok (.iconst 4, 1) := by decide +kernel
theorem d364 : decode jdk_2452_method_10_code 113 = .ok (.imul, 1) := by decide +kernel
theorem d365 : decode jdk_2452_method_10_code 114 = .ok (.istore 11, 2) := by decide +kernel
theorem d366 : decode jdk_2452_method_10_code 116 = .ok (.iload 9, 2) := by decide +kernel
theorem d367 : decode jdk_2452_method_10_code 118 = .ok (.iload 11, 2) := by decide +kernel
theorem d368 : decode jdk_2452_method_10_code 120 = .ok (.iadd, 1) := by decide +kernel
theorem d369 : decode jdk_2452_method_10_code 121 = .ok (.istore 9, 2) := by decide +kernel
theorem d370 : decode jdk_2452_method_10_code 123 = .ok (.iload 10, 2) := by decide +kernel
theorem d371 : decode jdk_2452_method_10_code 125 = .ok (.istore 6, 2) := by decide +kernel
theorem d372 : decode jdk_2452_method_10_code 127 = .ok (.iload 11, 2) := by decide +kernel
theorem d373 : decode jdk_2452_method_10_code 129 = .ok (.aload_n 0, 1) := by decide +kernel
theorem d374 : decode jdk_2452_method_10_code 130 = .ok (.getfield 17, 3) := by decide +kernel
theorem d375 : decode jdk_2452_method_10_code 133 = .ok (.if_icmp .ne 53, 3) := by decide +kernel
theorem d376 : decode jdk_2452_method_10_code 186 = .ok (.goto (-117), 3) := by decide +kernel
abbrev RM_en02 : Room := { frames := 1, cells := 0, slots := 0, locals := 22 }
theorem ef_en02 (m : MethodId) (x0 : Addr) (x1 : Addr) (x2 : Int32) (x3 : Int32) (x4 : Addr) : entryFrame m #[(.ref x0), (.ref x1), (.int x2), (.int x3), (.ref x4)] 16 = mkF m 0 #[.val (.ref x0), .val (.ref x1), .val (.int x2), .val (.int x3), .val (.ref x4), .unset, .unset, .unset, .unset, .unset, .unset, .unset, .unset, .unset, .unset, .unset] [] := by first | (simp [entryFrame, mkF, argsToLocals, Value.category]; done) | rfl
set_option maxRecDepth 65536 in
set_option maxHeartbeats 40000000 in
theorem rm_en02 (l : Launch) (Z : State) (a0 : Array Value) (G1 : Int32) (G3 : Value) (e0 tb : Addr) (kt : ClassId) (hX : Ctx Z a0 G1 G3) (hY : More Z e0 tb kt) (n0 : Nat) (h0 : Heap) (O0 : Old Z n0 h0) (x : Addr) (q : Addr) (kq : ClassId) (t : Addr) (kb : ClassId) (za : Int32) (zb : Int32) (pf_0 : Exa Z h0 x "java/util/Base64$Encoder") (pf_1 : Fld Z h0 x "java/util/Base64$Encoder" "isURL" "Z" (.int (1 : Int32))) (pf_2 : Fld Z h0 x "java/util/Base64$Encoder" "newline" "[B" .null) (pf_3 : Fld Z h0 x "java/util/Base64$Encoder" "linemax" "I" (.int ((-1) : Int32))) (pf_4 : Fld Z h0 x "java/util/Base64$Encoder" "doPadding" "Z" (.int (0 : Int32))) (pf_5 : Arv Z h0 q kq .byte (3 : Int32) [(.int (1 : Int32)), (.int (za.toInt8.toInt32)), (.int (zb.toInt8.toInt32))] (.int (0 : Int32))) (pf_6 : Arv Z h0 t kb .byte (4 : Int32) [(.int (0 : Int32)), (.int (0 : Int32)), (.int (0 : Int32)), (.int (0 : Int32))] (.int (0 : Int32))) (gt : n0 ≤ t) (qt : @Ne Nat q t) (xt : @Ne Nat x t) (b_za : 0 ≤ za.toInt ∧ za.toInt ≤ 255) (b_zb : 0 ≤ zb.toInt ∧ zb.toInt ≤ 255) (ws : List Jvm.Cond) : Met l Z EL1 n0 NoB (⟨"java/util/Base64$Encoder", "encode0", "([BII[B)I"⟩ : MethodName) jdk_2452_method_10_code 16 (Option.some FieldType.int) RM_en02 #[(.ref x), (.ref q), (.int (0 : Int32)), (.int (3 : Int32)), (.ref t)] h0 (Q_en02 Z G1 G3 e0 tb kt x q kq t kb za zb h0 n0 NoB) ws := by
  have hX' := hX
  obtain ⟨hw, hE, S1, P1, S3, P3⟩ := hX'
  have hY' := hY
  obtain ⟨s_e, x_e, f_u, f_n, f_l, f_p, s_t, a_t⟩ := hY'
  have wT : ∀ (i : Nat) {d : Jvm.Cond}, tables_1[i]? = some d → d.before a0 Z = true := fun i d h => hw d (List.mem_of_getElem? h)
  have z0 : n0 ≤ h0.size := by rw [← O0.1]; exact O0.2.1
  refine Met.of (by decide +kernel) O0 hE ?_
  intro p e s m below meth c hx hby hml hret hlk hnm
  refine k_cast (ef_en02 m x q (0 : Int32) (3 : Int32) t) ?_
  show Run p l e _ s m _ below meth c Z EL1 _ n0 NoB h0 0 0 (mkF m 0 #[.val (.ref x), .val (.ref q), .val (.int (0 : Int32)), .val (.int (3 : Int32)), .val (.ref t), .unset, .unset, .unset, .unset, .unset, .unset, .unset, .unset, .unset, .unset, .unset] []) _
  have lt_1 : @LT.lt Nat _ x (Array.size h0) := pf_0.lt
  have lt_2 : @LT.lt Nat _ x (Array.size h0) := pf_1.lt
  have lt_3 : @LT.lt Nat _ x (Array.size h0) := pf_2.lt
  have lt_4 : @LT.lt Nat _ x (Array.size h0) := pf_3.lt
  have lt_5 : @LT.lt Nat _ x (Array.size h0) := pf_4.lt
  have lt_6 : @LT.lt Nat _ q (Array.size h0) := pf_5.lt
  have lt_7 : @LT.lt Nat _ t (Array.size h0) := pf_6.lt
  refine k_pure (g' := (mkF m 1 #[.val (.ref x), .val (.ref q), .val (.int (0 : Int32)), .val (.int (3 : Int32)), .val (.ref t), .unset, .unset, .unset, .unset, .unset, .unset, .unset, .unset, .unset, .unset, .unset] [(.ref x)])) (fun _ J _ j => XS.aloadN J hx rfl (hb hby d237) rfl rfl j) ?_
  refine k_getF hx (host := "") (Or.inl (wT 45 rfl)) Via.refl pf_1 rfl rfl (hb hby d238) ?_
  refine k_pure (g' := (mkF m 7 #[.val (.ref x), .val (.ref q), .val (.int (0 : Int32)), .val (.int (3 : Int32)), .val (.ref t), .unset, .unset, .unset, .unset, .unset, .unset, .unset, .unset, .unset, .unset, .unset] [])) (fun _ J _ j => XS.ifNo J hx rfl (hb hby d239) rfl ((if0 _ _).trans (feq (by decide : ¬ ((1 : Int32) = (0 : Int32)))).1) j) ?_
  refine k_getS hx (host := "") (Or.inl (wT 83 rfl)) Via.refl (s_t.ext O0.2) rfl (hb hby d240) ?_
  refine k_pure (g' := (mkF m 21 #[.val (.ref x), .val (.ref q), .val (.int (0 : Int32)), .val (.int (3 : Int32)), .val (.ref t), .val (.ref tb), .val (.int (0 : Int32)), .unset, .unset, .unset, .unset, .unset, .unset, .unset, .unset, .unset] [])) (fun TT HH tt kk => XS.goto HH hx rfl (pc0 := 10) (pc' := 16) rfl (hb hby d241) (by decide) (by decide) (XS.astore HH hx rfl (hb hby d242) rfl rfl (l' := #[.val (.ref x), .val (.ref q), .val (.int (0 : Int32)), .val (.int (3 : Int32)), .val (.ref t), .val (.ref tb), .unset, .unset, .unset, .unset, .unset, .unset, .unset, .unset, .unset, .unset]) rfl (XS.iloadN HH hx rfl (hb hby d243) rfl (XS.istore HH hx rfl (hb hby d244) rfl (l' := #[.val (.ref x), .val (.ref q), .val (.int (0 : Int32)), .val (.int (3 : Int32)), .val (.ref t), .val (.ref tb), .val (.int (0 : Int32)), .unset, .unset, .unset, .unset, .unset, .unset, .unset, .unset, .unset]) rfl kk)))) ?_
  refine k_pure (g' := (mkF m 25 #[.val (.ref x), .val (.ref q), .val (.int (0 : Int32)), .val (.int (3 : Int32)), .val (.ref t), .val (.ref tb), .val (.int (0 : Int32)), .unset, .unset, .unset, .unset, .unset, .unset, .unset, .unset, .unset] [(.int (3 : Int32)), (.int (3 : Int32))])) (fun TT HH tt kk => XS.iloadN HH hx rfl (hb hby d245) rfl (XS.iloadN HH hx rfl (hb hby d246) rfl (XS.isub HH hx rfl (hb hby d247) rfl (XS.iconst HH hx rfl (hb hby d248) kk)))) ?_
  refine k_pure (g' := (mkF m 28 #[.val (.ref x), .val (.ref q), .val (.int (0 : Int32)), .val (.int (3 : Int32)), .val (.ref t), .val (.ref tb), .val (.int (0 : Int32)), .unset, .unset, .unset, .unset, .unset, .unset, .unset, .unset, .unset] [(.int ((1 : Int32) * (3 : Int32)))])) (fun TT HH tt kk => XS.idiv HH hx rfl (hb hby d249) rfl (by decide) (XS.iconst HH hx rfl (hb hby d250) (XS.imul HH hx rfl (hb hby d251) rfl kk))) ?_
  rw [show ((1 : Int32) * (3 : Int32)) = (3 : Int32) from by decide]
  refine k_pure (g' := (mkF m 34 #[.val (.ref x), .val (.ref q), .val (.int (0 : Int32)), .val (.int (3 : Int32)), .val (.ref t), .val (.ref tb), .val (.int (0 : Int32)), .val (.int (3 : Int32)), .unset, .unset, .unset, .unset, .unset, .unset, .unset, .unset] [(.int (3 : Int32))])) (fun TT HH tt kk => XS.istore HH hx rfl (hb hby d252) rfl (l' := #[.val (.ref x), .val (.ref q), .val (.int (0 : Int32)), .val (.int (3 : Int32)), .val (.ref t), .val (.ref tb), .val (.int (0 : Int32)), .val (.int (3 : Int32)), .unset, .unset, .unset, .unset, .unset, .unset, .unset, .unset]) rfl (XS.iloadN HH hx rfl (hb hby d253) rfl (XS.iload HH hx rfl (hb hby d254) rfl (XS.iadd HH hx rfl (hb hby d255) rfl kk)))) ?_
  refine k_pure (g' := (mkF m 37 #[.val (.ref x), .val (.ref q), .val (.int (0 : Int32)), .val (.int (3 : Int32)), .val (.ref t), .val (.ref tb), .val (.int (0 : Int32)), .val (.int (3 : Int32)), .val (.int (3 : Int32)), .unset, .unset, .unset, .unset, .unset, .unset, .unset] [(.ref x)])) (fun TT HH tt kk => XS.istore HH hx rfl (hb hby d256) rfl (l' := #[.val (.ref x), .val (.ref q), .val (.int (0 : Int32)), .val (.int (3 : Int32)), .val (.ref t), .val (.ref tb), .val (.int (0 : Int32)), .val (.int (3 : Int32)), .val (.int (3 : Int32)), .unset, .unset, .unset, .unset, .unset, .unset, .unset]) rfl (XS.aloadN HH hx rfl (hb hby d257) rfl rfl kk)) ?_
  refine k_getF hx (host := "") (Or.inl (wT 49 rfl)) Via.refl pf_3 rfl rfl (hb hby d258) ?_
  refine k_pure (g' := (mkF m 71 #[.val (.ref x), .val (.ref q), .val (.int (0 : Int32)), .val (.int (3 : Int32)), .val (.ref t), .val (.ref tb), .val (.int (0 : Int32)), .val (.int (3 : Int32)), .val (.int (3 : Int32)), .val (.int (0 : Int32)), .unset, .unset, .unset, .unset, .unset, .unset] [(.int (0 : Int32))])) (fun TT HH tt kk => XS.ifYes HH hx rfl (pc0 := 40) (pc' := 66) rfl (hb hby d259) rfl ((if0 _ _).trans (flt (by decide : ¬ ((0 : Int32) < ((-1) : Int32)))).2.2.2) (by decide) (by decide) (XS.iconst HH hx rfl (hb hby d260) (XS.istore HH hx rfl (hb hby d261) rfl (l' := #[.val (.ref x), .val (.ref q), .val (.int (0 : Int32)), .val (.int (3 : Int32)), .val (.ref t), .val (.ref tb), .val (.int (0 : Int32)), .val (.int (3 : Int32)), .val (.int (3 : Int32)), .val (.int (0 : Int32)), .unset, .unset, .unset, .unset, .unset, .unset]) rfl (XS.iload HH hx rfl (hb hby d262) rfl kk)))) ?_
  refine k_pure (g' := (mkF m 80 #[.val (.ref x), .val (.ref q), .val (.int (0 : Int32)), .val (.int (3 : Int32)), .val (.ref t), .val (.ref tb), .val (.int (0 : Int32)), .val (.int (3 : Int32)), .val (.int (3 : Int32)), .val (.int (0 : Int32)), .unset, .unset, .unset, .unset, .unset, .unset] [(.int (3 : Int32)), (.int (0 : Int32))])) (fun TT HH tt kk => XS.iload HH hx rfl (hb hby d263) rfl (XS.icmpNo HH hx rfl (hb hby d264) rfl (tlt (by decide : ((0 : Int32) < (3 : Int32)))).2.1 (XS.iload HH hx rfl (hb hby d343) rfl (XS.iload HH hx rfl (hb hby d344) rfl kk)))) ?_
  refine k_pure (g' := (mkF m 83 #[.val (.ref x), .val (.ref q), .val (.int (0 : Int32)), .val (.int (3 : Int32)), .val (.ref t), .val (.ref tb), .val (.int (0 : Int32)), .val (.int (3 : Int32)), .val (.int (3 : Int32)), .val (.int (0 : Int32)), .unset, .unset, .unset, .unset, .unset, .unset] [(.int (3 : Int32)), (.int (3 : Int32))])) (fun TT HH tt kk => XS.iadd HH hx rfl (hb hby d345) rfl (XS.iload HH hx rfl (hb hby d346) rfl kk)) ?_
  refine k_callS hx (y := (⟨"java/lang/Math", "min", "(II)I"⟩ : MethodName)) (wT 145 rfl) (wT 146 rfl) (wT 73 rfl) (wT 147 rfl) (by decide) (W := 0) (argsL := [(.int (3 : Int32)), (.int (3 : Int32))]) (rest := []) (Pays.of_met (rm_mn33 l Z a0 G1 G3 e0 tb kt hX hY n0 h0 O0   []) (wT 147 rfl) (wT 73 rfl) (by decide) (by decide)) rfl (by rw [hml]; rfl) (lenOf pd__28_II_29_I rfl) rfl (by show 2 * 0 + _ ≤ _; exact Nat.le_of_eq rfl) (hb hby d347) (by decide) (by decide) ?_
  intro v_8 h_9 bk_10 O_11 z_12 Q_13
  obtain ⟨rfl, rfl, rfl⟩ := Q_13
  refine k_pure (g' := (mkF m 92 #[.val (.ref x), .val (.ref q), .val (.int (0 : Int32)), .val (.int (3 : Int32)), .val (.ref t), .val (.ref tb), .val (.int (0 : Int32)), .val (.int (3 : Int32)), .val (.int (3 : Int32)), .val (.int (0 : Int32)), .val (.int (3 : Int32)), .unset, .unset, .unset, .unset, .unset] [(.int (0 : Int32)), (.ref q), (.ref x)])) (fun TT HH tt kk => XS.istore HH hx rfl (hb hby d348) rfl (l' := #[.val (.ref x), .val (.ref q), .val (.int (0 : Int32)), .val (.int (3 : Int32)), .val (.ref t), .val (.ref tb), .val (.int (0 : Int32)), .val (.int (3 : Int32)), .val (.int (3 : Int32)), .val (.int (0 : Int32)), .val (.int (3 : Int32)), .unset, .unset, .unset, .unset, .unset]) rfl (XS.aloadN HH hx rfl (hb hby d349) rfl rfl (XS.aloadN HH hx rfl (hb hby d350) rfl rfl (XS.iload HH hx rfl (hb hby d351) rfl kk)))) ?_
  refine k_pure (g' := (mkF m 99 #[.val (.ref x), .val (.ref q), .val (.int (0 : Int32)), .val (.int (3 : Int32)), .val (.ref t), .val (.ref tb), .val (.int (0 : Int32)), .val (.int (3 : Int32)), .val (.int (3 : Int32)), .val (.int (0 : Int32)), .val (.int (3 : Int32)), .unset, .unset, .unset, .unset, .unset] [(.ref x), (.int (0 : Int32)), (.ref t), (.int (3 : Int32)), (.int (0 : Int32)), (.ref q), (.ref x)])) (fun TT HH tt kk => XS.iload HH hx rfl (hb hby d352) rfl (XS.aload HH hx rfl (hb hby d353) rfl rfl (XS.iload HH hx rfl (hb hby d354) rfl (XS.aloadN HH hx rfl (hb hby d355) rfl rfl kk)))) ?_
  refine k_getF hx (host := "") (Or.inl (wT 45 rfl)) Via.refl pf_1 rfl rfl (hb hby d356) ?_
  show Run p l e _ s m _ below meth c Z EL1 _ n0 NoB h0 0 0 (mkF m 102 #[.val (.ref x), .val (.ref q), .val (.int (0 : Int32)), .val (.int (3 : Int32)), .val (.ref t), .val (.ref tb), .val (.int (0 : Int32)), .val (.int (3 : Int32)), .val (.int (3 : Int32)), .val (.int (0 : Int32)), .val (.int (3 : Int32)), .unset, .unset, .unset, .unset, .unset] [(.int (1 : Int32)), (.int (0 : Int32)), (.ref t), (.int (3 : Int32)), (.int (0 : Int32)), (.ref q), (.ref x)]) _
  refine k_callV hx (y := (⟨"java/util/Base64$Encoder", "encodeBlock", "([BII[BIZ)V"⟩ : MethodName)) (z := (⟨"java/util/Base64$Encoder", "encodeBlock", "([BII[BIZ)V"⟩ : MethodName)) (wT 148 rfl) (decl_of (wT 149 rfl) (wT 152 rfl)) (fun s' hZ => notFace_of_selects (args := #[]) (mv hZ (wT 151 rfl))) (wT 151 rfl) (wT 149 rfl) (by decide) (W := 0) (a := x) (argsL := [(.ref q), (.int (0 : Int32)), (.int (3 : Int32)), (.ref t), (.int (0 : Int32)), (.int (1 : Int32))]) (rest := []) (Pays.of_met (rm_ebk2 l Z a0 G1 G3 e0 tb kt hX hY n0 h0 O0 x q kq t kb za zb pf_5 pf_6 (by omega) (by omega) b_za b_zb []) (wT 152 rfl) (wT 35 rfl) (by decide) (by decide)) pf_0 rfl (by rw [hml]; rfl) (lenOf pd__28__5b_BII_5b_BIZ_29_V rfl) rfl (by show 2 * 0 + _ ≤ _; exact Nat.le_of_eq rfl) (hb hby d357) (by decide) (by decide) ?_
  intro v_14 h_15 bk_16 O_17 z_18 Q_19
  obtain ⟨rfl, rfl, K_20, F_21⟩ := Q_19
  have lt_22 : @LT.lt Nat _ t (Array.size h_15) := F_21.lt
  refine k_pure (g' := (mkF m 111 #[.val (.ref x), .val (.ref q), .val (.int (0 : Int32)), .val (.int (3 : Int32)), .val (.ref t), .val (.ref tb), .val (.int (0 : Int32)), .val (.int (3 : Int32)), .val (.int (3 : Int32)), .val (.int (0 : Int32)), .val (.int (3 : Int32)), .unset, .unset, .unset, .unset, .unset] [(.int (3 : Int32)), (.int (3 : Int32))])) (fun TT HH tt kk => XS.iload HH hx rfl (hb hby d358) rfl (XS.iload HH hx rfl (hb hby d359) rfl (XS.isub HH hx rfl (hb hby d360) rfl (XS.iconst HH hx rfl (hb hby d361) kk)))) ?_
  refine k_pure (g' := (mkF m 114 #[.val (.ref x), .val (.ref q), .val (.int (0 : Int32)), .val (.int (3 : Int32)), .val (.ref t), .val (.ref tb), .val (.int (0 : Int32)), .val (.int (3 : Int32)), .val (.int (3 : Int32)), .val (.int (0 : Int32)), .val (.int (3 : Int32)), .unset, .unset, .unset, .unset, .unset] [(.int ((1 : Int32) * (4 : Int32)))])) (fun TT HH tt kk => XS.idiv HH hx rfl (hb hby d362) rfl (by decide) (XS.iconst HH hx rfl (hb hby d363) (XS.imul HH hx rfl (hb hby d364) rfl kk))) ?_
  rw [show ((1 : Int32) * (4 : Int32)) = (4 : Int32) from by decide]
  refine k_pure (g' := (mkF m 121 #[.val (.ref x), .val (.ref q), .val (.int (0 : Int32)), .val (.int (3 : Int32)), .val (.ref t), .val (.ref tb), .val (.int (0 : Int32)), .val (.int (3 : Int32)), .val (.int (3 : Int32)), .val (.int (0 : Int32)), .val (.int (3 : Int32)), .val (.int (4 : Int32)), .unset, .unset, .unset, .unset] [(.int (4 : Int32))])) (fun TT HH tt kk => XS.istore HH hx rfl (hb hby d365) rfl (l' := #[.val (.ref x), .val (.ref q), .val (.int (0 : Int32)), .val (.int (3 : Int32)), .val (.ref t), .val (.ref tb), .val (.int (0 : Int32)), .val (.int (3 : Int32)), .val (.int (3 : Int32)), .val (.int (0 : Int32)), .val (.int (3 : Int32)), .val (.int (4 : Int32)), .unset, .unset, .unset, .unset]) rfl (XS.iload HH hx rfl (hb hby d366) rfl (XS.iload HH hx rfl (hb hby d367) rfl (XS.iadd HH hx rfl (hb hby d368) rfl kk)))) ?_
  refine k_pure (g' := (mkF m 129 #[.val (.ref x), .val (.ref q), .val (.int (0 : Int32)), .val (.int (3 : Int32)), .val (.ref t), .val (.ref tb), .val (.int (3 : Int32)), .val (.int (3 : Int32)), .val (.int (3 : Int32)), .val (.int (4 : Int32)), .val (.int (3 : Int32)), .val (.int (4 : Int32)), .unset, .unset, .unset, .unset] [(.int (4 : Int32))])) (fun TT HH tt kk => XS.istore HH hx rfl (hb hby d369) rfl (l' := #[.val (.ref x), .val (.ref q), .val (.int (0 : Int32)), .val (.int (3 : Int32)), .val (.ref t), .val (.ref tb), .val (.int (0 : Int32)), .val (.int (3 : Int32)), .val (.int (3 : Int32)), .val (.int (4 : Int32)), .val (.int (3 : Int32)), .val (.int (4 : Int32)), .unset, .unset, .unset, .unset]) rfl (XS.iload HH hx rfl (hb hby d370) rfl (XS.istore HH hx rfl (hb hby d371) rfl (l' := #[.val (.ref x), .val (.ref q), .val (.int (0 : Int32)), .val (.int (3 : Int32)), .val (.ref t), .val (.ref tb), .val (.int (3 : Int32)), .val (.int (3 : Int32)), .val (.int (3 : Int32)), .val (.int (4 : Int32)), .val (.int (3 : Int32)), .val (.int (4 : Int32)), .unset, .unset, .unset, .unset]) rfl (XS.iload HH hx rfl (hb hby d372) rfl kk)))) ?_
  refine k_pure (g' := (mkF m 130 #[.val (.ref x), .val (.ref q), .val (.int (0 : Int32)), .val (.int (3 : Int32)), .val (.ref t), .val (.ref tb), .val (.int (3 : Int32)), .val (.int (3 : Int32)), .val (.int (3 : Int32)), .val (.int (4 : Int32)), .val (.int (3 : Int32)), .val (.int (4 : Int32)), .unset, .unset, .unset, .unset] [(.ref x), (.int (4 : Int32))])) (fun _ J _ j => XS.aloadN J hx rfl (hb hby d373) rfl rfl j) ?_
  have F_23 : Fld Z h_15 x "java/util/Base64$Encoder" "linemax" "I" (.int ((-1) : Int32)) := (pf_3.keep K_20 (ninS (ne_ad (by omega)) nin0))
  refine k_getF hx (host := "") (Or.inl (wT 49 rfl)) Via.refl F_23 rfl rfl (hb hby d374) ?_
  refine k_pure (g' := (mkF m 73 #[.val (.ref x), .val (.ref q), .val (.int (0 : Int32)), .val (.int (3 : Int32)), .val (.ref t), .val (.ref tb), .val (.int (3 : Int32)), .val (.int (3 : Int32)), .val (.int (3 : Int32)), .val (.int (4 : Int32)), .val (.int (3 : Int32)), .val (.int (4 : Int32)), .unset, .unset, .unset, .unset] [(.int (3 : Int32)), (.int (3 : Int32))])) (fun TT HH tt kk => XS.icmpYes HH hx rfl (pc0 := 133) (pc' := 186) rfl (hb hby d375) rfl (feq (by decide : ¬ ((4 : Int32) = ((-1) : Int32)))).2 (by decide) (by decide) (XS.goto HH hx rfl (pc0 := 186) (pc' := 69) rfl (hb hby d376) (by decide) (by decide) (XS.iload HH hx rfl (hb hby d262) rfl (XS.iload HH hx rfl (hb hby d263) rfl kk)))) ?_
  refine k_pure (g' := (mkF m 352 #[.val (.ref x), .val (.ref q), .val (.int (0 : Int32)), .val (.int (3 : Int32)), .val (.ref t), .val (.ref tb), .val (.int (3 : Int32)), .val (.int (3 : Int32)), .val (.int (3 : Int32)), .val (.int (4 : Int32)), .val (.int (3 : Int32)), .val (.int (4 : Int32)), .unset, .unset, .unset, .unset] [])) (fun TT HH tt kk => XS.icmpYes HH hx rfl (pc0 := 73) (pc' := 189) rfl (hb hby d264) rfl (flt (by decide : ¬ ((3 : Int32) < (3 : Int32)))).2.1 (by decide) (by decide) (XS.iload HH hx rfl (hb hby d265) rfl (XS.iloadN HH hx rfl (hb hby d266) rfl (XS.icmpYes HH hx rfl (pc0 := 192) (pc' := 352) rfl (hb hby d267) rfl (flt (by decide : ¬ ((3 : Int32) < (3 : Int32)))).2.1 (by decide) (by decide) kk)))) ?_
  refine k_pure (g' := (mkF m 354 #[.val (.ref x), .val (.ref q), .val (.int (0 : Int32)), .val (.int (3 : Int32)), .val (.ref t), .val (.ref tb), .val (.int (3 : Int32)), .val (.int (3 : Int32)), .val (.int (3 : Int32)), .val (.int (4 : Int32)), .val (.int (3 : Int32)), .val (.int (4 : Int32)), .unset, .unset, .unset, .unset] [(.int (4 : Int32))])) (fun _ J _ j => XS.iload J hx rfl (hb hby d303) rfl j) ?_
  exact k_retI hx hlk hret (hb hby d304) (by decide) (by decide) ⟨rfl, rfl, ((Keep.refl _ _).trans K_20 (kkS (Or.inl (by simp)) kk0)), F_21⟩
def Q_en03 (Z : State) (G1 : Int32) (G3 : Value) (e0 tb : Addr) (kt : ClassId) (x : Addr) (q : Addr) (kq : ClassId) (t : Addr) (kb : ClassId) (za : Int32) (zb : Int32) (zc : Int32) (h0 : Heap) (n0 : Nat) (bk : Addr → Prop) (v : Option Value) (h : Heap) (bk' : Addr → Prop) : Prop := v = some (.int (6 : Int32)) ∧ NoB = bk' ∧ Keep h0 h [t] ∧ (Arv Z h t kb .byte (6 : Int32) [(.int ((en (0 : Int32)).toInt8.toInt32)), (.int ((en ((16 : Int32) ||| (za >>> ((4 : Int32) &&& 31)))).toInt8.toInt32)), (.int ((en (((za &&& (15 : Int32)) <<< ((2 : Int32) &&& 31)) ||| (zb >>> ((6 : Int32) &&& 31)))).toInt8.toInt32)), (.int ((en (zb &&& (63 : Int32))).toInt8.toInt32)), (.int ((en (zc >>> ((2 : Int32) &&& 31))).toInt8.toInt32)), (.int ((en ((zc &&& (3 : Int32)) <<< ((4 : Int32) &&& 31))).toInt8.toInt32))] (.int (0 : Int32)))
abbrev RM_en03 : Room := { frames := 1, cells := 0, slots := 0, locals := 22 }
theorem ef_en03 (m : MethodId) (x0 : Addr) (x1 : Addr) (x2 : Int32) (x3 : Int32) (x4 : Addr) : entryFrame m #[(.ref x0), (.ref x1), (.int x2), (.int x3), (.ref x4)] 16 = mkF m 0 #[.val (.ref x0), .val (.ref x1), .val (.int x2), .val (.int x3), .val (.ref x4), .unset, .unset, .unset, .unset, .unset, .unset, .unset, .unset, .unset, .unset, .unset] [] := by first | (simp [entryFrame, mkF, argsToLocals, Value.category]; done) | rfl
set_option maxRecDepth 65536 in
set_option maxHeartbeats 40000000 in
theorem rm_en03 (l : Launch) (Z : State) (a0 : Array Value) (G1 : Int32) (G3 : Value) (e0 tb : Addr) (kt : ClassId) (hX : Ctx Z a0 G1 G3) (hY : More Z e0 tb kt) (n0 : Nat) (h0 : Heap) (O0 : Old Z n0 h0) (x : Addr) (q : Addr) (kq : ClassId) (t : Addr) (kb : ClassId) (za : Int32) (zb : Int32) (zc : Int32) (pf_0 : Exa Z h0 x "java/util/Base64$Encoder") (pf_1 : Fld Z h0 x "java/util/Base64$Encoder" "isURL" "Z" (.int (1 : Int32))) (pf_2 : Fld Z h0 x "java/util/Base64$Encoder" "newline" "[B" .null) (pf_3 : Fld Z h0 x "java/util/Base64$Encoder" "linemax" "I" (.int ((-1) : Int32))) (pf_4 : Fld Z h0 x "java/util/Base64$Encoder" "doPadding" "Z" (.int (0 : Int32))) (pf_5 : Arv Z h0 q kq .byte (4 : Int32) [(.int (1 : Int32)), (.int (za.toInt8.toInt32)), (.int (zb.toInt8.toInt32)), (.int (zc.toInt8.toInt32))] (.int (0 : Int32))) (pf_6 : Arv Z h0 t kb .byte (6 : Int32) [(.int (0 : Int32)), (.int (0 : Int32)), (.int (0 : Int32)), (.int (0 : Int32)), (.int (0 : Int32)), (.int (0 : Int32))] (.int (0 : Int32))) (gt : n0 ≤ t) (qt : @Ne Nat q t) (xt : @Ne Nat x t) (b_za : 0 ≤ za.toInt ∧ za.toInt ≤ 255) (b_zb : 0 ≤ zb.toInt ∧ zb.toInt ≤ 255) (b_zc : 0 ≤ zc.toInt ∧ zc.toInt ≤ 255) (ws : List Jvm.Cond) : Met l Z EL1 n0 NoB (⟨"java/util/Base64$Encoder", "encode0", "([BII[B)I"⟩ : MethodName) jdk_2452_method_10_code 16 (Option.some FieldType.int) RM_en03 #[(.ref x), (.ref q), (.int (0 : Int32)), (.int (4 : Int32)), (.ref t)] h0 (Q_en03 Z G1 G3 e0 tb kt x q kq t kb za zb zc h0 n0 NoB) ws := by
  have hX' := hX
  obtain ⟨hw, hE, S1, P1, S3, P3⟩ := hX'
  have hY' := hY
  obtain ⟨s_e, x_e, f_u, f_n, f_l, f_p, s_t, a_t⟩ := hY'
  have wT : ∀ (i : Nat) {d : Jvm.Cond}, tables_1[i]? = some d → d.before a0 Z = true := fun i d h => hw d (List.mem_of_getElem? h)
  have z0 : n0 ≤ h0.size := by rw [← O0.1]; exact O0.2.1
  refine Met.of (by decide +kernel) O0 hE ?_
  intro p e s m below meth c hx hby hml hret hlk hnm
  refine k_cast (ef_en03 m x q (0 : Int32) (4 : Int32) t) ?_
  show Run p l e _ s m _ below meth c Z EL1 _ n0 NoB h0 0 0 (mkF m 0 #[.val (.ref x), .val (.ref q), .val (.int (0 : Int32)), .val (.int (4 : Int32)), .val (.ref t), .unset, .unset, .unset, .unset, .unset, .unset, .unset, .unset, .unset, .unset, .unset] []) _
  have lt_1 : @LT.lt Nat _ x (Array.size h0) := pf_0.lt
  have lt_2 : @LT.lt Nat _ x (Array.size h0) := pf_1.lt
  have lt_3 : @LT.lt Nat _ x (Array.size h0) := pf_2.lt
  have lt_4 : @LT.lt Nat _ x (Array.size h0) := pf_3.lt
  have lt_5 : @LT.lt Nat _ x (Array.size h0) := pf_4.lt
  have lt_6 : @LT.lt Nat _ q (Array.size h0) := pf_5.lt
  have lt_7 : @LT.lt Nat _ t (Array.size h0) := pf_6.lt
  refine k_pure (g' := (mkF m 1 #[.val (.ref x), .val (.ref q), .val (.int (0 : Int32)), .val (.int (4 : Int32)), .val (.ref t), .unset, .unset, .unset, .unset, .unset, .unset, .unset, .unset, .unset, .unset, .unset] [(.ref x)])) (fun _ J _ j => XS.aloadN J hx rfl (hb hby d237) rfl rfl j) ?_
  refine k_getF hx (host := "") (Or.inl (wT 45 rfl)) Via.refl pf_1 rfl rfl (hb hby d238) ?_
  refine k_pure (g' := (mkF m 7 #[.val (.ref x), .val (.ref q), .val (.int (0 : Int32)), .val (.int (4 : Int32)), .val (.ref t), .unset, .unset, .unset, .unset, .unset, .unset, .unset, .unset, .unset, .unset, .unset] [])) (fun _ J _ j => XS.ifNo J hx rfl (hb hby d239) rfl ((if0 _ _).trans (feq (by decide : ¬ ((1 : Int32) = (0 : Int32)))).1) j) ?_
  refine k_getS hx (host := "") (Or.inl (wT 83 rfl)) Via.refl (s_t.ext O0.2) rfl (hb hby d240) ?_
  refine k_pure (g' := (mkF m 21 #[.val (.ref x), .val (.ref q), .val (.int (0 : Int32)), .val (.int (4 : Int32)), .val (.ref t), .val (.ref tb), .val (.int (0 : Int32)), .unset, .unset, .unset, .unset, .unset, .unset, .unset, .unset, .unset] [])) (fun TT HH tt kk => XS.goto HH hx rfl (pc0 := 10) (pc' := 16) rfl (hb hby d241) (by decide) (by decide) (XS.astore HH hx rfl (hb hby d242) rfl rfl (l' := #[.val (.ref x), .val (.ref q), .val (.int (0 : Int32)), .val (.int (4 : Int32)), .val (.ref t), .val (.ref tb), .unset, .unset, .unset, .unset, .unset, .unset, .unset, .unset, .unset, .unset]) rfl (XS.iloadN HH hx rfl (hb hby d243) rfl (XS.istore HH hx rfl (hb hby d244) rfl (l' := #[.val (.ref x), .val (.ref q), .val (.int (0 : Int32)), .val (.int (4 : Int32)), .val (.ref t), .val (.ref tb), .val (.int (0 : Int32)), .unset, .unset, .unset, .unset, .unset, .unset, .unset, .unset, .unset]) rfl kk)))) ?_
  refine k_pure (g' := (mkF m 25 #[.val (.ref x), .val (.ref q), .val (.int (0 : Int32)), .val (.int (4 : Int32)), .val (.ref t), .val (.ref tb), .val (.int (0 : Int32)), .unset, .unset, .unset, .unset, .unset, .unset, .unset, .unset, .unset] [(.int (3 : Int32)), (.int (4 : Int32))])) (fun TT HH tt kk => XS.iloadN HH hx rfl (hb hby d245) rfl (XS.iloadN HH hx rfl (hb hby d246) rfl (XS.isub HH hx rfl (hb hby d247) rfl (XS.iconst HH hx rfl (hb hby d248) kk)))) ?_
  refine k_pure (g' := (mkF m 28 #[.val (.ref x), .val (.ref q), .val (.int (0 : Int32)), .val (.int (4 : Int32)), .val (.ref t), .val (.ref tb), .val (.int (0 : Int32)), .unset, .unset, .unset, .unset, .unset, .unset, .unset, .unset, .unset] [(.int ((1 : Int32) * (3 : Int32)))])) (fun TT HH tt kk => XS.idiv HH hx rfl (hb hby d249) rfl (by decide) (XS.iconst HH hx rfl (hb hby d250) (XS.imul HH hx rfl (hb hby d251) rfl kk))) ?_
  rw [show ((1 : Int32) * (3 : Int32)) = (3 : Int32) from by decide]
  refine k_pure (g' := (mkF m 34 #[.val (.ref x), .val (.ref q), .val (.int (0 : Int32)), .val (.int (4 : Int32)), .val (.ref t), .val (.ref tb), .val (.int (0 : Int32)), .val (.int (3 : Int32)), .unset, .unset, .unset, .unset, .unset, .unset, .unset, .unset] [(.int (3 : Int32))])) (fun TT HH tt kk => XS.istore HH hx rfl (hb hby d252) rfl (l' := #[.val (.ref x), .val (.ref q), .val (.int (0 : Int32)), .val (.int (4 : Int32)), .val (.ref t), .val (.ref tb), .val (.int (0 : Int32)), .val (.int (3 : Int32)), .unset, .unset, .unset, .unset, .unset, .unset, .unset, .unset]) rfl (XS.iloadN HH hx rfl (hb hby d253) rfl (XS.iload HH hx rfl (hb hby d254) rfl (XS.iadd HH hx rfl (hb hby d255) rfl kk)))) ?_
  refine k_pure (g' := (mkF m 37 #[.val (.ref x), .val (.ref q), .val (.int (0 : Int32)), .val (.int (4 : Int32)), .val (.ref t), .val (.ref tb), .val (.int (0 : Int32)), .val (.int (3 : Int32)), .val (.int (3 : Int32)), .unset, .unset, .unset, .unset, .unset, .unset, .unset] [(.ref x)])) (fun TT HH tt kk => XS.istore HH hx rfl (hb hby d256) rfl (l' := #[.val (.ref x), .val (.ref q), .val (.int (0 : Int32)), .val (.int (4 : Int32)), .val (.ref t), .val (.ref tb), .val (.int (0 : Int32)), .val (.int (3 : Int32)), .val (.int (3 : Int32)), .unset, .unset, .unset, .unset, .unset, .unset, .unset]) rfl (XS.aloadN HH hx rfl (hb hby d257) rfl rfl kk)) ?_
  refine k_getF hx (host := "") (Or.inl (wT 49 rfl)) Via.refl pf_3 rfl rfl (hb hby d258) ?_
  refine k_pure (g' := (mkF m 71 #[.val (.ref x), .val (.ref q), .val (.int (0 : Int32)), .val (.int (4 : Int32)), .val (.ref t), .val (.ref tb), .val (.int (0 : Int32)), .val (.int (3 : Int32)), .val (.int (3 : Int32)), .val (.int (0 : Int32)), .unset, .unset, .unset, .unset, .unset, .unset] [(.int (0 : Int32))])) (fun TT HH tt kk => XS.ifYes HH hx rfl (pc0 := 40) (pc' := 66) rfl (hb hby d259) rfl ((if0 _ _).trans (flt (by decide : ¬ ((0 : Int32) < ((-1) : Int32)))).2.2.2) (by decide) (by decide) (XS.iconst HH hx rfl (hb hby d260) (XS.istore HH hx rfl (hb hby d261) rfl (l' := #[.val (.ref x), .val (.ref q), .val (.int (0 : Int32)), .val (.int (4 : Int32)), .val (.ref t), .val (.ref tb), .val (.int (0 : Int32)), .val (.int (3 : Int32)), .val (.int (3 : Int32)), .val (.int (0 : Int32)), .unset, .unset, .unset, .unset, .unset, .unset]) rfl (XS.iload HH hx rfl (hb hby d262) rfl kk)))) ?_
  refine k_pure (g' := (mkF m 80 #[.val (.ref x), .val (.ref q), .val (.int (0 : Int32)), .val (.int (4 : Int32)), .val (.ref t), .val (.ref tb), .val (.int (0 : Int32)), .val (.int (3 : Int32)), .val (.int (3 : Int32)), .val (.int (0 : Int32)), .unset, .unset, .unset, .unset, .unset, .unset] [(.int (3 : Int32)), (.int (0 : Int32))])) (fun TT HH tt kk => XS.iload HH hx rfl (hb hby d263) rfl (XS.icmpNo HH hx rfl (hb hby d264) rfl (tlt (by decide : ((0 : Int32) < (3 : Int32)))).2.1 (XS.iload HH hx rfl (hb hby d343) rfl (XS.iload HH hx rfl (hb hby d344) rfl kk)))) ?_
  refine k_pure (g' := (mkF m 83 #[.val (.ref x), .val (.ref q), .val (.int (0 : Int32)), .val (.int (4 : Int32)), .val (.ref t), .val (.ref tb), .val (.int (0 : Int32)), .val (.int (3 : Int32)), .val (.int (3 : Int32)), .val (.int (0 : Int32)), .unset, .unset, .unset, .unset, .unset, .unset] [(.int (3 : Int32)), (.int (3 : Int32))])) (fun TT HH tt kk => XS.iadd HH hx rfl (hb hby d345) rfl (XS.iload HH hx rfl (hb hby d346) rfl kk)) ?_
  refine k_callS hx (y := (⟨"java/lang/Math", "min", "(II)I"⟩ : MethodName)) (wT 145 rfl) (wT 146 rfl) (wT 73 rfl) (wT 147 rfl) (by decide) (W := 0) (argsL := [(.int (3 : Int32)), (.int (3 : Int32))]) (rest := []) (Pays.of_met (rm_mn33 l Z a0 G1 G3 e0 tb kt hX hY n0 h0 O0   []) (wT 147 rfl) (wT 73 rfl) (by decide) (by decide)) rfl (by rw [hml]; rfl) (lenOf pd__28_II_29_I rfl) rfl (by show 2 * 0 + _ ≤ _; exact Nat.le_of_eq rfl) (hb hby d347) (by decide) (by decide) ?_
  intro v_8 h_9 bk_10 O_11 z_12 Q_13
  obtain ⟨rfl, rfl, rfl⟩ := Q_13
  refine k_pure (g' := (mkF m 92 #[.val (.ref x), .val (.ref q), .val (.int (0 : Int32)), .val (.int (4 : Int32)), .val (.ref t), .val (.ref tb), .val (.int (0 : Int32)), .val (.int (3 : Int32)), .val (.int (3 : Int32)), .val (.int (0 : Int32)), .val (.int (3 : Int32)), .unset, .unset, .unset, .unset, .unset] [(.int (0 : Int32)), (.ref q), (.ref x)])) (fun TT HH tt kk => XS.istore HH hx rfl (hb hby d348) rfl (l' := #[.val (.ref x), .val (.ref q), .val (.int (0 : Int32)), .val (.int (4 : Int32)), .val (.ref t), .val (.ref tb), .val (.int (0 : Int32)), .val (.int (3 : Int32)), .val (.int (3 : Int32)), .val (.int (0 : Int32)), .val (.int (3 : Int32)), .unset, .unset, .unset, .unset, .unset]) rfl (XS.aloadN HH hx rfl (hb hby d349) rfl rfl (XS.aloadN HH hx rfl (hb hby d350) rfl rfl (XS.iload HH hx rfl (hb hby d351) rfl kk)))) ?_
  refine k_pure (g' := (mkF m 99 #[.val (.ref x), .val (.ref q), .val (.int (0 : Int32)), .val (.int (4 : Int32)), .val (.ref t), .val (.ref tb), .val (.int (0 : Int32)), .val (.int (3 : Int32)), .val (.int (3 : Int32)), .val (.int (0 : Int32)), .val (.int (3 : Int32)), .unset, .unset, .unset, .unset, .unset] [(.ref x), (.int (0 : Int32)), (.ref t), (.int (3 : Int32)), (.int (0 : Int32)), (.ref q), (.ref x)])) (fun TT HH tt kk => XS.iload HH hx rfl (hb hby d352) rfl (XS.aload HH hx rfl (hb hby d353) rfl rfl (XS.iload HH hx rfl (hb hby d354) rfl (XS.aloadN HH hx rfl (hb hby d355) rfl rfl kk)))) ?_
  refine k_getF hx (host := "") (Or.inl (wT 45 rfl)) Via.refl pf_1 rfl rfl (hb hby d356) ?_
  show Run p l e _ s m _ below meth c Z EL1 _ n0 NoB h0 0 0 (mkF m 102 #[.val (.ref x), .val (.ref q), .val (.int (0 : Int32)), .val (.int (4 : Int32)), .val (.ref t), .val (.ref tb), .val (.int (0 : Int32)), .val (.int (3 : Int32)), .val (.int (3 : Int32)), .val (.int (0 : Int32)), .val (.int (3 : Int32)), .unset, .unset, .unset, .unset, .unset] [(.int (1 : Int32)), (.int (0 : Int32)), (.ref t), (.int (3 : Int32)), (.int (0 : Int32)), (.ref q), (.ref x)]) _
  refine k_callV hx (y := (⟨"java/util/Base64$Encoder", "encodeBlock", "([BII[BIZ)V"⟩ : MethodName)) (z := (⟨"java/util/Base64$Encoder", "encodeBlock", "([BII[BIZ)V"⟩ : MethodName)) (wT 148 rfl) (decl_of (wT 149 rfl) (wT 152 rfl)) (fun s' hZ => notFace_of_selects (args := #[]) (mv hZ (wT 151 rfl))) (wT 151 rfl) (wT 149 rfl) (by decide) (W := 0) (a := x) (argsL := [(.ref q), (.int (0 : Int32)), (.int (3 : Int32)), (.ref t), (.int (0 : Int32)), (.int (1 : Int32))]) (rest := []) (Pays.of_met (rm_ebk3 l Z a0 G1 G3 e0 tb kt hX hY n0 h0 O0 x q kq t kb za zb zc pf_5 pf_6 (by omega) (by omega) b_za b_zb b_zc []) (wT 152 rfl) (wT 35 rfl) (by decide) (by decide)) pf_0 rfl (by rw [hml]; rfl) (lenOf pd__28__5b_BII_5b_BIZ_29_V rfl) rfl (by show 2 * 0 + _ ≤ _; exact Nat.le_of_eq rfl) (hb hby d357) (by decide) (by decide) ?_
  intro v_14 h_15 bk_16 O_17 z_18 Q_19
  obtain ⟨rfl, rfl, K_20, F_21⟩ := Q_19
  have lt_22 : @LT.lt Nat _ t (Array.size h_15) := F_21.lt
  refine k_pure (g' := (mkF m 111 #[.val (.ref x), .val (.ref q), .val (.int (0 : Int32)), .val (.int (4 : Int32)), .val (.ref t), .val (.ref tb), .val (.int (0 : Int32)), .val (.int (3 : Int32)), .val (.int (3 : Int32)), .val (.int (0 : Int32)), .val (.int (3 : Int32)), .unset, .unset, .unset, .unset, .unset] [(.int (3 : Int32)), (.int (3 : Int32))])) (fun TT HH tt kk => XS.iload HH hx rfl (hb hby d358) rfl (XS.iload HH hx rfl (hb hby d359) rfl (XS.isub HH hx rfl (hb hby d360) rfl (XS.iconst HH hx rfl (hb hby d361) kk)))) ?_
  refine k_pure (g' := (mkF m 114 #[.val (.ref x), .val (.ref q), .val (.int (0 : Int32)), .val (.int (4 : Int32)), .val (.ref t), .val (.ref tb), .val (.int (0 : Int32)), .val (.int (3 : Int32)), .val (.int (3 : Int32)), .val (.int (0 : Int32)), .val (.int (3 : Int32)), .unset, .unset, .unset, .unset, .unset] [(.int ((1 : Int32) * (4 : Int32)))])) (fun TT HH tt kk => XS.idiv HH hx rfl (hb hby d362) rfl (by decide) (XS.iconst HH hx rfl (hb hby d363) (XS.imul HH hx rfl (hb hby d364) rfl kk))) ?_
  rw [show ((1 : Int32) * (4 : Int32)) = (4 : Int32) from by decide]
  refine k_pure (g' := (mkF m 121 #[.val (.ref x), .val (.ref q), .val (.int (0 : Int32)), .val (.int (4 : Int32)), .val (.ref t), .val (.ref tb), .val (.int (0 : Int32)), .val (.int (3 : Int32)), .val (.int (3 : Int32)), .val (.int (0 : Int32)), .val (.int (3 : Int32)), .val (.int (4 : Int32)), .unset, .unset, .unset, .unset] [(.int (4 : Int32))])) (fun TT HH tt kk => XS.istore HH hx rfl (hb hby d365) rfl (l' := #[.val (.ref x), .val (.ref q), .val (.int (0 : Int32)), .val (.int (4 : Int32)), .val (.ref t), .val (.ref tb), .val (.int (0 : Int32)), .val (.int (3 : Int32)), .val (.int (3 : Int32)), .val (.int (0 : Int32)), .val (.int (3 : Int32)), .val (.int (4 : Int32)), .unset, .unset, .unset, .unset]) rfl (XS.iload HH hx rfl (hb hby d366) rfl (XS.iload HH hx rfl (hb hby d367) rfl (XS.iadd HH hx rfl (hb hby d368) rfl kk)))) ?_
  refine k_pure (g' := (mkF m 129 #[.val (.ref x), .val (.ref q), .val (.int (0 : Int32)), .val (.int (4 : Int32)), .val (.ref t), .val (.ref tb), .val (.int (3 : Int32)), .val (.int (3 : Int32)), .val (.int (3 : Int32)), .val (.int (4 : Int32)), .val (.int (3 : Int32)), .val (.int (4 : Int32)), .unset, .unset, .unset, .unset] [(.int (4 : Int32))])) (fun TT HH tt kk => XS.istore HH hx rfl (hb hby d369) rfl (l' := #[.val (.ref x), .val (.ref q), .val (.int (0 : Int32)), .val (.int (4 : Int32)), .val (.ref t), .val (.ref tb), .val (.int (0 : Int32)), .val (.int (3 : Int32)), .val (.int (3 : Int32)), .val (.int (4 : Int32)), .val (.int (3 : Int32)), .val (.int (4 : Int32)), .unset, .unset, .unset, .unset]) rfl (XS.iload HH hx rfl (hb hby d370) rfl (XS.istore HH hx rfl (hb hby d371) rfl (l' := #[.val (.ref x), .val (.ref q), .val (.int (0 : Int32)), .val (.int (4 : Int32)), .val (.ref t), .val (.ref tb), .val (.int (3 : Int32)), .val (.int (3 : Int32)), .val (.int (3 : Int32)), .val (.int (4 : Int32)), .val (.int (3 : Int32)), .val (.int (4 : Int32)), .unset, .unset, .unset, .unset]) rfl (XS.iload HH hx rfl (hb hby d372) rfl kk)))) ?_
  refine k_pure (g' := (mkF m 130 #[.val (.ref x), .val (.ref q), .val (.int (0 : Int32)), .val (.int (4 : Int32)), .val (.ref t), .val (.ref tb), .val (.int (3 : Int32)), .val (.int (3 : Int32)), .val (.int (3 : Int32)), .val (.int (4 : Int32)), .val (.int (3 : Int32)), .val (.int (4 : Int32)), .unset, .unset, .unset, .unset] [(.ref x), (.int (4 : Int32))])) (fun _ J _ j => XS.aloadN J hx rfl (hb hby d373) rfl rfl j) ?_
  have F_23 : Fld Z h_15 x "java/util/Base64$Encoder" "linemax" "I" (.int ((-1) : Int32)) := (pf_3.keep K_20 (ninS (ne_ad (by omega)) nin0))
  refine k_getF hx (host := "") (Or.inl (wT 49 rfl)) Via.refl F_23 rfl rfl (hb hby d374) ?_
  refine k_pure (g' := (mkF m 73 #[.val (.ref x), .val (.ref q), .val (.int (0 : Int32)), .val (.int (4 : Int32)), .val (.ref t), .val (.ref tb), .val (.int (3 : Int32)), .val (.int (3 : Int32)), .val (.int (3 : Int32)), .val (.int (4 : Int32)), .val (.int (3 : Int32)), .val (.int (4 : Int32)), .unset, .unset, .unset, .unset] [(.int (3 : Int32)), (.int (3 : Int32))])) (fun TT HH tt kk => XS.icmpYes HH hx rfl (pc0 := 133) (pc' := 186) rfl (hb hby d375) rfl (feq (by decide : ¬ ((4 : Int32) = ((-1) : Int32)))).2 (by decide) (by decide) (XS.goto HH hx rfl (pc0 := 186) (pc' := 69) rfl (hb hby d376) (by decide) (by decide) (XS.iload HH hx rfl (hb hby d262) rfl (XS.iload HH hx rfl (hb hby d263) rfl kk)))) ?_
  refine k_pure (g' := (mkF m 195 #[.val (.ref x), .val (.ref q), .val (.int (0 : Int32)), .val (.int (4 : Int32)), .val (.ref t), .val (.ref tb), .val (.int (3 : Int32)), .val (.int (3 : Int32)), .val (.int (3 : Int32)), .val (.int (4 : Int32)), .val (.int (3 : Int32)), .val (.int (4 : Int32)), .unset, .unset, .unset, .unset] [])) (fun TT HH tt kk => XS.icmpYes HH hx rfl (pc0 := 73) (pc' := 189) rfl (hb hby d264) rfl (flt (by decide : ¬ ((3 : Int32) < (3 : Int32)))).2.1 (by decide) (by decide) (XS.iload HH hx rfl (hb hby d265) rfl (XS.iloadN HH hx rfl (hb hby d266) rfl (XS.icmpNo HH hx rfl (hb hby d267) rfl (tlt (by decide : ((3 : Int32) < (4 : Int32)))).2.1 kk)))) ?_
  refine k_pure (g' := (mkF m 201 #[.val (.ref x), .val (.ref q), .val (.int (0 : Int32)), .val (.int (4 : Int32)), .val (.ref t), .val (.ref tb), .val (.int (4 : Int32)), .val (.int (3 : Int32)), .val (.int (3 : Int32)), .val (.int (4 : Int32)), .val (.int (3 : Int32)), .val (.int (4 : Int32)), .unset, .unset, .unset, .unset] [(.int (3 : Int32)), (.ref q)])) (fun TT HH tt kk => XS.aloadN HH hx rfl (hb hby d268) rfl rfl (XS.iload HH hx rfl (hb hby d269) rfl (XS.iinc HH hx rfl (hb hby d270) rfl (l' := #[.val (.ref x), .val (.ref q), .val (.int (0 : Int32)), .val (.int (4 : Int32)), .val (.ref t), .val (.ref tb), .val (.int (4 : Int32)), .val (.int (3 : Int32)), .val (.int (3 : Int32)), .val (.int (4 : Int32)), .val (.int (3 : Int32)), .val (.int (4 : Int32)), .unset, .unset, .unset, .unset]) rfl kk))) ?_
  have F_24 : Arv Z h_15 q kq .byte (4 : Int32) [(.int (1 : Int32)), (.int (za.toInt8.toInt32)), (.int (zb.toInt8.toInt32)), (.int (zc.toInt8.toInt32))] (.int (0 : Int32)) := (pf_5.keep K_20 (ninS (ne_ad (by omega)) nin0))
  refine k_aget hx (v := (.int (zc.toInt8.toInt32))) F_24 ⟨by decide, by decide⟩ rfl (Or.inr (Or.inr (Or.inr (Or.inl ⟨rfl, rfl⟩)))) rfl rfl (hb hby d271) ?_
  refine k_pure (g' := (mkF m 206 #[.val (.ref x), .val (.ref q), .val (.int (0 : Int32)), .val (.int (4 : Int32)), .val (.ref t), .val (.ref tb), .val (.int (4 : Int32)), .val (.int (3 : Int32)), .val (.int (3 : Int32)), .val (.int (4 : Int32)), .val (.int (3 : Int32)), .val (.int (4 : Int32)), .unset, .unset, .unset, .unset] [(.int ((zc.toInt8.toInt32) &&& (255 : Int32)))])) (fun TT HH tt kk => XS.sipush HH hx rfl (hb hby d272) (XS.iand HH hx rfl (hb hby d273) rfl kk)) ?_
  rw [m8 b_zc]
  refine k_pure (g' := (mkF m 215 #[.val (.ref x), .val (.ref q), .val (.int (0 : Int32)), .val (.int (4 : Int32)), .val (.ref t), .val (.ref tb), .val (.int (4 : Int32)), .val (.int (3 : Int32)), .val (.int (3 : Int32)), .val (.int (5 : Int32)), .val (.int zc), .val (.int (4 : Int32)), .unset, .unset, .unset, .unset] [(.int (4 : Int32)), (.ref t)])) (fun TT HH tt kk => XS.istore HH hx rfl (hb hby d274) rfl (l' := #[.val (.ref x), .val (.ref q), .val (.int (0 : Int32)), .val (.int (4 : Int32)), .val (.ref t), .val (.ref tb), .val (.int (4 : Int32)), .val (.int (3 : Int32)), .val (.int (3 : Int32)), .val (.int (4 : Int32)), .val (.int zc), .val (.int (4 : Int32)), .unset, .unset, .unset, .unset]) rfl (XS.aload HH hx rfl (hb hby d275) rfl rfl (XS.iload HH hx rfl (hb hby d276) rfl (XS.iinc HH hx rfl (hb hby d277) rfl (l' := #[.val (.ref x), .val (.ref q), .val (.int (0 : Int32)), .val (.int (4 : Int32)), .val (.ref t), .val (.ref tb), .val (.int (4 : Int32)), .val (.int (3 : Int32)), .val (.int (3 : Int32)), .val (.int (5 : Int32)), .val (.int zc), .val (.int (4 : Int32)), .unset, .unset, .unset, .unset]) rfl kk)))) ?_
  refine k_pure (g' := (mkF m 221 #[.val (.ref x), .val (.ref q), .val (.int (0 : Int32)), .val (.int (4 : Int32)), .val (.ref t), .val (.ref tb), .val (.int (4 : Int32)), .val (.int (3 : Int32)), .val (.int (3 : Int32)), .val (.int (5 : Int32)), .val (.int zc), .val (.int (4 : Int32)), .unset, .unset, .unset, .unset] [(.int (zc >>> ((2 : Int32) &&& 31))), (.ref tb), (.int (4 : Int32)), (.ref t)])) (fun TT HH tt kk => XS.aload HH hx rfl (hb hby d278) rfl rfl (XS.iload HH hx rfl (hb hby d279) rfl (XS.iconst HH hx rfl (hb hby d280) (XS.ishr HH hx rfl (hb hby d281) rfl kk)))) ?_
  have F_25 : Arv Z h_15 tb kt .char (64 : Int32) (T64.map Value.int) (.int (0 : Int32)) := a_t.ext O_17.2
  refine k_aget hx (v := (.int (en (zc >>> ((2 : Int32) &&& 31))))) F_25 ⟨(by have r0 := rng32 zc; have r1 : (zc >>> ((2 : Int32) &&& 31)).toInt = zc.toInt / 4 := (c_ishr zc (2 : Int32) 2 (by decide)); have r2 := rng32 (zc >>> ((2 : Int32) &&& 31)); have r3 : (0 : Int32).toInt = 0 := (by decide); have r4 := b_za; have r5 := b_zb; have r6 := b_zc; rw [Int32.lt_iff_toInt_lt]; omega), (by have r0 := rng32 zc; have r1 : (zc >>> ((2 : Int32) &&& 31)).toInt = zc.toInt / 4 := (c_ishr zc (2 : Int32) 2 (by decide)); have r2 := rng32 (zc >>> ((2 : Int32) &&& 31)); have r3 : (64 : Int32).toInt = 64 := (by decide); have r4 := b_za; have r5 := b_zb; have r6 := b_zc; rw [Int32.lt_iff_toInt_lt]; omega)⟩ (en_at rfl) (Or.inr (Or.inr (Or.inl ⟨rfl, rfl⟩))) rfl rfl (hb hby d282) ?_
  refine k_pure (g' := (mkF m 223 #[.val (.ref x), .val (.ref q), .val (.int (0 : Int32)), .val (.int (4 : Int32)), .val (.ref t), .val (.ref tb), .val (.int (4 : Int32)), .val (.int (3 : Int32)), .val (.int (3 : Int32)), .val (.int (5 : Int32)), .val (.int zc), .val (.int (4 : Int32)), .unset, .unset, .unset, .unset] [(.int ((en (zc >>> ((2 : Int32) &&& 31))).toInt8.toInt32)), (.int (4 : Int32)), (.ref t)])) (fun _ J _ j => XS.i2b J hx rfl (hb hby d283) rfl j) ?_
  refine k_stB hx F_21 ⟨by decide, by decide⟩ 4 (by decide) (Nat.le_of_ble_eq_true rfl) (by omega) (fun q => q) rfl rfl (hb hby d284) ?_
  intro h_26 O_27 W_28 A_29
  have z_30 := W_28.size
  have V_31 : Arv Z h_26 t kb .byte (6 : Int32) [(.int ((en (0 : Int32)).toInt8.toInt32)), (.int ((en ((16 : Int32) ||| (za >>> ((4 : Int32) &&& 31)))).toInt8.toInt32)), (.int ((en (((za &&& (15 : Int32)) <<< ((2 : Int32) &&& 31)) ||| (zb >>> ((6 : Int32) &&& 31)))).toInt8.toInt32)), (.int ((en (zb &&& (63 : Int32))).toInt8.toInt32)), (.int ((en (zc >>> ((2 : Int32) &&& 31))).toInt8.toInt32)), (.int (0 : Int32))] (.int (0 : Int32)) := by rw [u_narb] at A_29; exact A_29
  refine k_pure (g' := (mkF m 232 #[.val (.ref x), .val (.ref q), .val (.int (0 : Int32)), .val (.int (4 : Int32)), .val (.ref t), .val (.ref tb), .val (.int (4 : Int32)), .val (.int (3 : Int32)), .val (.int (3 : Int32)), .val (.int (5 : Int32)), .val (.int zc), .val (.int (4 : Int32)), .unset, .unset, .unset, .unset] [(.ref t)])) (fun TT HH tt kk => XS.iload HH hx rfl (hb hby d285) rfl (XS.iloadN HH hx rfl (hb hby d286) rfl (XS.icmpNo HH hx rfl (hb hby d287) rfl (teq (by decide : ((4 : Int32) = (4 : Int32)))).2 (XS.aload HH hx rfl (hb hby d288) rfl rfl kk)))) ?_
  refine k_pure (g' := (mkF m 241 #[.val (.ref x), .val (.ref q), .val (.int (0 : Int32)), .val (.int (4 : Int32)), .val (.ref t), .val (.ref tb), .val (.int (4 : Int32)), .val (.int (3 : Int32)), .val (.int (3 : Int32)), .val (.int (6 : Int32)), .val (.int zc), .val (.int (4 : Int32)), .unset, .unset, .unset, .unset] [(.int zc), (.ref tb), (.int (5 : Int32)), (.ref t)])) (fun TT HH tt kk => XS.iload HH hx rfl (hb hby d289) rfl (XS.iinc HH hx rfl (hb hby d290) rfl (l' := #[.val (.ref x), .val (.ref q), .val (.int (0 : Int32)), .val (.int (4 : Int32)), .val (.ref t), .val (.ref tb), .val (.int (4 : Int32)), .val (.int (3 : Int32)), .val (.int (3 : Int32)), .val (.int (6 : Int32)), .val (.int zc), .val (.int (4 : Int32)), .unset, .unset, .unset, .unset]) rfl (XS.aload HH hx rfl (hb hby d291) rfl rfl (XS.iload HH hx rfl (hb hby d292) rfl kk)))) ?_
  refine k_pure (g' := (mkF m 246 #[.val (.ref x), .val (.ref q), .val (.int (0 : Int32)), .val (.int (4 : Int32)), .val (.ref t), .val (.ref tb), .val (.int (4 : Int32)), .val (.int (3 : Int32)), .val (.int (3 : Int32)), .val (.int (6 : Int32)), .val (.int zc), .val (.int (4 : Int32)), .unset, .unset, .unset, .unset] [(.int ((zc <<< ((4 : Int32) &&& 31)) &&& (63 : Int32))), (.ref tb), (.int (5 : Int32)), (.ref t)])) (fun TT HH tt kk => XS.iconst HH hx rfl (hb hby d293) (XS.ishl HH hx rfl (hb hby d294) rfl (XS.bipush HH hx rfl (hb hby d295) (XS.iand HH hx rfl (hb hby d296) rfl kk)))) ?_
  have F_32 : Arv Z h_26 tb kt .char (64 : Int32) (T64.map Value.int) (.int (0 : Int32)) := a_t.ext O_27.2
  refine k_aget hx (v := (.int (en ((zc &&& (3 : Int32)) <<< ((4 : Int32) &&& 31))))) F_32 ⟨(by have r0 := rng32 zc; have r1 : ((zc <<< ((4 : Int32) &&& 31)).toInt - zc.toInt * 16) % 4294967296 = 0 := (c_ishl zc (4 : Int32) 4 (by decide)); have r2 := rng32 (zc <<< ((4 : Int32) &&& 31)); have r3 : ((zc <<< ((4 : Int32) &&& 31)) &&& (63 : Int32)).toInt = (zc <<< ((4 : Int32) &&& 31)).toInt % 64 := (c_mask (zc <<< ((4 : Int32) &&& 31)) (63 : Int32) 6 (by decide) (by decide)); have r4 := rng32 ((zc <<< ((4 : Int32) &&& 31)) &&& (63 : Int32)); have r5 : (0 : Int32).toInt = 0 := (by decide); have r6 := b_za; have r7 := b_zb; have r8 := b_zc; have r9 := t5 b_zc; rw [Int32.lt_iff_toInt_lt]; omega), (by have r0 := rng32 zc; have r1 : ((zc <<< ((4 : Int32) &&& 31)).toInt - zc.toInt * 16) % 4294967296 = 0 := (c_ishl zc (4 : Int32) 4 (by decide)); have r2 := rng32 (zc <<< ((4 : Int32) &&& 31)); have r3 : ((zc <<< ((4 : Int32) &&& 31)) &&& (63 : Int32)).toInt = (zc <<< ((4 : Int32) &&& 31)).toInt % 64 := (c_mask (zc <<< ((4 : Int32) &&& 31)) (63 : Int32) 6 (by decide) (by decide)); have r4 := rng32 ((zc <<< ((4 : Int32) &&& 31)) &&& (63 : Int32)); have r5 : (64 : Int32).toInt = 64 := (by decide); have r6 := b_za; have r7 := b_zb; have r8 := b_zc; have r9 := t5 b_zc; rw [Int32.lt_iff_toInt_lt]; omega)⟩ (en_at (by have r0 := rng32 zc; have r1 : ((zc <<< ((4 : Int32) &&& 31)).toInt - zc.toInt * 16) % 4294967296 = 0 := (c_ishl zc (4 : Int32) 4 (by decide)); have r2 := rng32 (zc <<< ((4 : Int32) &&& 31)); have r3 : ((zc <<< ((4 : Int32) &&& 31)) &&& (63 : Int32)).toInt = (zc <<< ((4 : Int32) &&& 31)).toInt % 64 := (c_mask (zc <<< ((4 : Int32) &&& 31)) (63 : Int32) 6 (by decide) (by decide)); have r4 := rng32 ((zc <<< ((4 : Int32) &&& 31)) &&& (63 : Int32)); have r5 : (zc &&& (3 : Int32)).toInt = zc.toInt % 4 := (c_mask zc (3 : Int32) 2 (by decide) (by decide)); have r6 := rng32 (zc &&& (3 : Int32)); have r7 : (((zc &&& (3 : Int32)) <<< ((4 : Int32) &&& 31)).toInt - (zc &&& (3 : Int32)).toInt * 16) % 4294967296 = 0 := (c_ishl (zc &&& (3 : Int32)) (4 : Int32) 4 (by decide)); have r8 := rng32 ((zc &&& (3 : Int32)) <<< ((4 : Int32) &&& 31)); have r9 := b_za; have r10 := b_zb; have r11 := b_zc; have r12 := t5 b_zc; apply Int32.toInt_inj.mp; omega)) (Or.inr (Or.inr (Or.inl ⟨rfl, rfl⟩))) rfl rfl (hb hby d297) ?_
  refine k_pure (g' := (mkF m 248 #[.val (.ref x), .val (.ref q), .val (.int (0 : Int32)), .val (.int (4 : Int32)), .val (.ref t), .val (.ref tb), .val (.int (4 : Int32)), .val (.int (3 : Int32)), .val (.int (3 : Int32)), .val (.int (6 : Int32)), .val (.int zc), .val (.int (4 : Int32)), .unset, .unset, .unset, .unset] [(.int ((en ((zc &&& (3 : Int32)) <<< ((4 : Int32) &&& 31))).toInt8.toInt32)), (.int (5 : Int32)), (.ref t)])) (fun _ J _ j => XS.i2b J hx rfl (hb hby d298) rfl j) ?_
  refine k_stB hx V_31 ⟨by decide, by decide⟩ 5 (by decide) (Nat.le_of_ble_eq_true rfl) (by omega) (fun q => q) rfl rfl (hb hby d299) ?_
  intro h_33 O_34 W_35 A_36
  have z_37 := W_35.size
  have V_38 : Arv Z h_33 t kb .byte (6 : Int32) [(.int ((en (0 : Int32)).toInt8.toInt32)), (.int ((en ((16 : Int32) ||| (za >>> ((4 : Int32) &&& 31)))).toInt8.toInt32)), (.int ((en (((za &&& (15 : Int32)) <<< ((2 : Int32) &&& 31)) ||| (zb >>> ((6 : Int32) &&& 31)))).toInt8.toInt32)), (.int ((en (zb &&& (63 : Int32))).toInt8.toInt32)), (.int ((en (zc >>> ((2 : Int32) &&& 31))).toInt8.toInt32)), (.int ((en ((zc &&& (3 : Int32)) <<< ((4 : Int32) &&& 31))).toInt8.toInt32))] (.int (0 : Int32)) := by rw [u_narb] at A_36; exact A_36
  refine k_pure (g' := (mkF m 250 #[.val (.ref x), .val (.ref q), .val (.int (0 : Int32)), .val (.int (4 : Int32)), .val (.ref t), .val (.ref tb), .val (.int (4 : Int32)), .val (.int (3 : Int32)), .val (.int (3 : Int32)), .val (.int (6 : Int32)), .val (.int zc), .val (.int (4 : Int32)), .unset, .unset, .unset, .unset] [(.ref x)])) (fun _ J _ j => XS.aloadN J hx rfl (hb hby d300) rfl rfl j) ?_
  have F_39 : Fld Z h_33 x "java/util/Base64$Encoder" "doPadding" "Z" (.int (0 : Int32)) := (((pf_4.keep K_20 (ninS (ne_ad (by omega)) nin0)).other W_28 (Or.inl (ne_ad (by omega)))).other W_35 (Or.inl (ne_ad (by omega))))
  refine k_getF hx (host := "") (Or.inl (wT 41 rfl)) Via.refl F_39 rfl rfl (hb hby d301) ?_
  refine k_pure (g' := (mkF m 354 #[.val (.ref x), .val (.ref q), .val (.int (0 : Int32)), .val (.int (4 : Int32)), .val (.ref t), .val (.ref tb), .val (.int (4 : Int32)), .val (.int (3 : Int32)), .val (.int (3 : Int32)), .val (.int (6 : Int32)), .val (.int zc), .val (.int (4 : Int32)), .unset, .unset, .unset, .unset] [(.int (6 : Int32))])) (fun TT HH tt kk => XS.ifYes HH hx rfl (pc0 := 253) (pc' := 352) rfl (hb hby d302) rfl ((if0 _ _).trans (teq (by decide : ((0 : Int32) = (0 : Int32)))).1) (by decide) (by decide) (XS.iload HH hx rfl (hb hby d303) rfl kk)) ?_
  exact k_retI hx hlk hret (hb hby d304) (by decide) (by decide) ⟨rfl, rfl, ((((Keep.refl _ _).trans K_20 (kkS (Or.inl (by simp)) kk0)).wr W_28 (Or.inl (by simp))).wr W_35 (Or.inl (by simp))), V_38⟩
def Q_enc0 (Z : State) (G1 : Int32) (G3 : Value) (e0 tb : Addr) (kt : ClassId) (x : Addr) (q : Addr) (kq : ClassId) (h0 : Heap) (n0 : Nat) (bk : Addr → Prop) (v : Option Value) (h : Heap) (bk' : Addr → Prop) : Prop := ∃ (u : Addr), ∃ (ku : ClassId), v = some (.ref u) ∧ NoB = bk' ∧ Keep h0 h [] ∧ (Exa Z h u "[B") ∧ (Arv Z h u ku .byte (2 : Int32) [(.int ((en (0 : Int32)).toInt8.toInt32)), (.int ((en (16 : Int32)).toInt8.toInt32))] (.int (0 : Int32))) ∧ (@LE.le Nat _ (Array.size h0) u)
theorem d377 : decode jdk_2452_method_3_code 0 = .ok (.aload_n 0, 1) := by decide +kernel
theorem d378 : decode jdk_2452_method_3_code 1 = .ok (.aload_n 1, 1) := by decide +kernel
theorem d379 : decode jdk_2452_method_3_code 2 = .ok (.arraylength, 1) := by decide +kernel
theorem d380 : decode jdk_2452_method_3_code 3 = .ok (.iconst 1, 1) := by decide +kernel
theorem d381 : decode jdk_2452_method_3_code 4 = .ok (.invokevirtual 42, 3) := by decide +kernel
theorem pd__28_IZ_29_I : parseMethodDescriptor "(IZ)I" = some ⟨[.int, .boolean], some .int⟩ := by decide +kernel
theorem d382 : decode jdk_2452_method_3_code 7 = .ok (.istore_n 2, 1) := by decide +kernel
theorem d383 : decode jdk_2452_method_3_code 8 = .ok (.iload_n 2, 1) := by decide +kernel
theorem d384 : decode jdk_2452_method_3_code 9 = .ok (.newarray .byte, 2) := by decide +kernel
theorem d385 : decode jdk_2452_method_3_code 11 = .ok (.astore_n 3, 1) := by decide +kernel
theorem d386 : decode jdk_2452_method_3_code 12 = .ok (.aload_n 0, 1) := by decide +kernel
theorem d387 : decode jdk_2452_method_3_code 13 = .ok (.aload_n 1, 1) := by decide +kernel
theorem d388 : decode jdk_2452_method_3_code 14 = .ok (.iconst 0, 1) := by decide +kernel
theorem d389 : decode jdk_2452_method_3_code 15 = .ok (.aload_n 1, 1) := by decide +kernel
theorem d390 : decode jdk_2452_method_3_code 16 = .ok (.arraylength, 1) := by decide +kernel
theorem d391 : decode jdk_2452_method_3_code 17 = .ok (.aload_n 3, 1) := by decide +kernel
theorem d392 : decode jdk_2452_method_3_code 18 = .ok (.invokevirtual 46, 3) := by decide +kernel
theorem pd__28__5b_BII_5b_B_29_I : parseMethodDescriptor "([BII[B)I" = some ⟨[(.array .byte), .int, .int, (.array .byte)], some .int⟩ := by decide +kernel
theorem d393 : decode jdk_2452_method_3_code 21 = .ok (.istore 4, 2) := by decide +kernel
theorem d394 : decode jdk_2452_method_3_code 23 = .ok (.iload 4, 2) := by decide +kernel
theorem d395 : decode jdk_2452_method_3_code 25 = .ok (.aload_n 3, 1) := by decide +kernel
theorem d396 : decode jdk_2452_method_3_code 26 = .ok (.arraylength, 1) := by decide +kernel
theorem d397 : decode jdk_2452_method_3_code 27 = .ok (.if_icmp .eq 10, 3) := by decide +kernel
theorem d398 : decode jdk_2452_method_3_code 37 = .ok (.aload_n 3, 1) := by decide +kernel
theorem d399 : decode jdk_2452_method_3_code 38 = .ok (.areturn, 1) := by decide +kernel
abbrev RM_enc0 : Room := { frames := 2, cells := 1, slots := 2, locals := 31 }
theorem ef_enc0 (m : MethodId) (x0 : Addr) (x1 : Addr) : entryFrame m #[(.ref x0), (.ref x1)] 5 = mkF m 0 #[.val (.ref x0), .val (.ref x1), .unset, .unset, .unset] [] := by first | (simp [entryFrame, mkF, argsToLocals, Value.category]; done) | rfl
set_option maxRecDepth 65536 in
set_option maxHeartbeats 40000000 in
theorem rm_enc0 (l : Launch) (Z : State) (a0 : Array Value) (G1 : Int32) (G3 : Value) (e0 tb : Addr) (kt : ClassId) (hX : Ctx Z a0 G1 G3) (hY : More Z e0 tb kt) (n0 : Nat) (h0 : Heap) (O0 : Old Z n0 h0) (x : Addr) (q : Addr) (kq : ClassId) (pf_0 : Exa Z h0 x "java/util/Base64$Encoder") (pf_1 : Fld Z h0 x "java/util/Base64$Encoder" "isURL" "Z" (.int (1 : Int32))) (pf_2 : Fld Z h0 x "java/util/Base64$Encoder" "newline" "[B" .null) (pf_3 : Fld Z h0 x "java/util/Base64$Encoder" "linemax" "I" (.int ((-1) : Int32))) (pf_4 : Fld Z h0 x "java/util/Base64$Encoder" "doPadding" "Z" (.int (0 : Int32))) (pf_5 : Arv Z h0 q kq .byte (1 : Int32) [(.int (1 : Int32))] (.int (0 : Int32))) (ws : List Jvm.Cond) : Met l Z EL1 n0 NoB (⟨"java/util/Base64$Encoder", "encode", "([B)[B"⟩ : MethodName) jdk_2452_method_3_code 5 (Option.some (FieldType.array FieldType.byte)) RM_enc0 #[(.ref x), (.ref q)] h0 (Q_enc0 Z G1 G3 e0 tb kt x q kq h0 n0 NoB) ws := by
  have hX' := hX
  obtain ⟨hw, hE, S1, P1, S3, P3⟩ := hX'
  have hY' := hY
  obtain ⟨s_e, x_e, f_u, f_n, f_l, f_p, s_t, a_t⟩ := hY'
  have wT : ∀ (i : Nat) {d : Jvm.Cond}, tables_1[i]? = some d → d.before a0 Z = true := fun i d h => hw d (List.mem_of_getElem? h)
  have z0 : n0 ≤ h0.size := by rw [← O0.1]; exact O0.2.1
  refine Met.of (by decide +kernel) O0 hE ?_
  intro p e s m below meth c hx hby hml hret hlk hnm
  refine k_cast (ef_enc0 m x q) ?_
  show Run p l e _ s m _ below meth c Z EL1 _ n0 NoB h0 0 0 (mkF m 0 #[.val (.ref x), .val (.ref q), .unset, .unset, .unset] []) _
  have lt_1 : @LT.lt Nat _ x (Array.size h0) := pf_0.lt
  have lt_2 : @LT.lt Nat _ x (Array.size h0) := pf_1.lt
  have lt_3 : @LT.lt Nat _ x (Array.size h0) := pf_2.lt
  have lt_4 : @LT.lt Nat _ x (Array.size h0) := pf_3.lt
  have lt_5 : @LT.lt Nat _ x (Array.size h0) := pf_4.lt
  have lt_6 : @LT.lt Nat _ q (Array.size h0) := pf_5.lt
  refine k_pure (g' := (mkF m 2 #[.val (.ref x), .val (.ref q), .unset, .unset, .unset] [(.ref q), (.ref x)])) (fun TT HH tt kk => XS.aloadN HH hx rfl (hb hby d377) rfl rfl (XS.aloadN HH hx rfl (hb hby d378) rfl rfl kk)) ?_
  refine k_alen hx pf_5 rfl rfl (hb hby d379) ?_
  refine k_pure (g' := (mkF m 4 #[.val (.ref x), .val (.ref q), .unset, .unset, .unset] [(.int (1 : Int32)), (.int (1 : Int32)), (.ref x)])) (fun _ J _ j => XS.iconst J hx rfl (hb hby d380) j) ?_
  refine k_callV hx (y := (⟨"java/util/Base64$Encoder", "encodedOutLength", "(IZ)I"⟩ : MethodName)) (z := (⟨"java/util/Base64$Encoder", "encodedOutLength", "(IZ)I"⟩ : MethodName)) (wT 66 rfl) (decl_ofH (wT 67 rfl) (wT 70 rfl)) (fun s' hZ => notFace_of_selects (args := #[]) (mv hZ (wT 69 rfl))) (wT 69 rfl) (wT 67 rfl) (by decide) (W := 0) (a := x) (argsL := [(.int (1 : Int32)), (.int (1 : Int32))]) (rest := []) (Pays.of_metH (rm_eol0 l Z a0 G1 G3 e0 tb kt hX hY n0 h0 O0 x pf_4 pf_3 []) (wT 70 rfl) (wT 35 rfl) (by decide) (by decide) (fun _ _ _ q => by obtain ⟨-, rfl, -⟩ := q; exact Nat.le_refl _)) pf_0 rfl (by rw [hml]; rfl) (lenOf pd__28_IZ_29_I rfl) rfl (by show 2 * 0 + _ ≤ _; exact Nat.le_of_eq rfl) (hb hby d381) (by decide) (by decide) ?_
  intro v_7 h_8 bk_9 O_10 z_11 Q_12
  obtain ⟨rfl, rfl, rfl⟩ := Q_12
  refine k_pure (g' := (mkF m 9 #[.val (.ref x), .val (.ref q), .val (.int (2 : Int32)), .unset, .unset] [(.int (2 : Int32))])) (fun TT HH tt kk => XS.istoreN HH hx rfl (hb hby d382) rfl (l' := #[.val (.ref x), .val (.ref q), .val (.int (2 : Int32)), .unset, .unset]) rfl (XS.iloadN HH hx rfl (hb hby d383) rfl kk)) ?_
  refine k_newP hx (wT 0 rfl) rfl (hb hby d384) rfl (by decide) (cap := 2) (by decide) (by decide) (by decide) (by decide) "[B" (by decide +kernel) ?_
  intro h_14 a_13 k_15 g_16 O_17 E_18 A_19 X_20
  have z_21 := E_18.1
  have lt_22 : @LT.lt Nat _ a_13 (Array.size h_14) := A_19.lt
  have V_23 : Arv Z h_14 a_13 k_15 .byte (2 : Int32) [(.int (0 : Int32)), (.int (0 : Int32))] (.int (0 : Int32)) := Arv.pad A_19 (pad_rep [] (.int (0 : Int32)) 2)
  refine k_pure (g' := (mkF m 15 #[.val (.ref x), .val (.ref q), .val (.int (2 : Int32)), .val (.ref a_13), .unset] [(.int (0 : Int32)), (.ref q), (.ref x)])) (fun TT HH tt kk => XS.astoreN HH hx rfl (hb hby d385) rfl rfl (l' := #[.val (.ref x), .val (.ref q), .val (.int (2 : Int32)), .val (.ref a_13), .unset]) rfl (XS.aloadN HH hx rfl (hb hby d386) rfl rfl (XS.aloadN HH hx rfl (hb hby d387) rfl rfl (XS.iconst HH hx rfl (hb hby d388) kk)))) ?_
  refine k_pure (g' := (mkF m 16 #[.val (.ref x), .val (.ref q), .val (.int (2 : Int32)), .val (.ref a_13), .unset] [(.ref q), (.int (0 : Int32)), (.ref q), (.ref x)])) (fun _ J _ j => XS.aloadN J hx rfl (hb hby d389) rfl rfl j) ?_
  have F_24 : Arv Z h_14 q kq .byte (1 : Int32) [(.int (1 : Int32))] (.int (0 : Int32)) := (pf_5.ext E_18)
  refine k_alen hx F_24 rfl rfl (hb hby d390) ?_
  refine k_pure (g' := (mkF m 18 #[.val (.ref x), .val (.ref q), .val (.int (2 : Int32)), .val (.ref a_13), .unset] [(.ref a_13), (.int (1 : Int32)), (.int (0 : Int32)), (.ref q), (.ref x)])) (fun _ J _ j => XS.aloadN J hx rfl (hb hby d391) rfl rfl j) ?_
  have F_25 : Exa Z h_14 x "java/util/Base64$Encoder" := (pf_0.ext E_18)
  have F_26 : Fld Z h_14 x "java/util/Base64$Encoder" "isURL" "Z" (.int (1 : Int32)) := (pf_1.ext E_18)
  have F_27 : Fld Z h_14 x "java/util/Base64$Encoder" "newline" "[B" .null := (pf_2.ext E_18)
  have F_28 : Fld Z h_14 x "java/util/Base64$Encoder" "linemax" "I" (.int ((-1) : Int32)) := (pf_3.ext E_18)
  have F_29 : Fld Z h_14 x "java/util/Base64$Encoder" "doPadding" "Z" (.int (0 : Int32)) := (pf_4.ext E_18)
  refine k_callV hx (y := (⟨"java/util/Base64$Encoder", "encode0", "([BII[B)I"⟩ : MethodName)) (z := (⟨"java/util/Base64$Encoder", "encode0", "([BII[B)I"⟩ : MethodName)) (wT 78 rfl) (decl_of (wT 79 rfl) (wT 82 rfl)) (fun s' hZ => notFace_of_selects (args := #[]) (mv hZ (wT 81 rfl))) (wT 81 rfl) (wT 79 rfl) (by decide) (W := 0) (a := x) (argsL := [(.ref q), (.int (0 : Int32)), (.int (1 : Int32)), (.ref a_13)]) (rest := []) (Pays.of_met (rm_en00 l Z a0 G1 G3 e0 tb kt hX hY n0 h_14 O_17 x q kq a_13 k_15 F_25 F_26 F_27 F_28 F_29 F_24 V_23 (by omega) (by omega) (by omega) []) (wT 82 rfl) (wT 35 rfl) (by decide) (by decide)) F_25 rfl (by rw [hml]; rfl) (lenOf pd__28__5b_BII_5b_B_29_I rfl) rfl (by show 2 * 0 + _ ≤ _; exact Nat.le_of_eq rfl) (hb hby d392) (by decide) (by decide) ?_
  intro v_30 h_31 bk_32 O_33 z_34 Q_35
  obtain ⟨rfl, rfl, K_36, F_37⟩ := Q_35
  have lt_38 : @LT.lt Nat _ a_13 (Array.size h_31) := F_37.lt
  refine k_pure (g' := (mkF m 26 #[.val (.ref x), .val (.ref q), .val (.int (2 : Int32)), .val (.ref a_13), .val (.int (2 : Int32))] [(.ref a_13), (.int (2 : Int32))])) (fun TT HH tt kk => XS.istore HH hx rfl (hb hby d393) rfl (l' := #[.val (.ref x), .val (.ref q), .val (.int (2 : Int32)), .val (.ref a_13), .val (.int (2 : Int32))]) rfl (XS.iload HH hx rfl (hb hby d394) rfl (XS.aloadN HH hx rfl (hb hby d395) rfl rfl kk))) ?_
  refine k_alen hx F_37 rfl rfl (hb hby d396) ?_
  refine k_pure (g' := (mkF m 38 #[.val (.ref x), .val (.ref q), .val (.int (2 : Int32)), .val (.ref a_13), .val (.int (2 : Int32))] [(.ref a_13)])) (fun TT HH tt kk => XS.icmpYes HH hx rfl (pc0 := 27) (pc' := 37) rfl (hb hby d397) rfl (teq (by decide : ((2 : Int32) = (2 : Int32)))).1 (by decide) (by decide) (XS.aloadN HH hx rfl (hb hby d398) rfl rfl kk)) ?_
  have F_39 : Exa Z h_31 a_13 "[B" := (X_20.keep K_36)
  exact k_retA hx hlk hret rfl rfl rfl (hb hby d399) (by decide) (by decide) ⟨a_13, k_15, rfl, rfl, (((Keep.refl _ _).ext E_18).trans K_36 (kkS (Or.inr (by omega)) kk0)), F_39, F_37, (by omega)⟩
def Q_enc1 (Z : State) (G1 : Int32) (G3 : Value) (e0 tb : Addr) (kt : ClassId) (x : Addr) (q : Addr) (kq : ClassId) (za : Int32) (h0 : Heap) (n0 : Nat) (bk : Addr → Prop) (v : Option Value) (h : Heap) (bk' : Addr → Prop) : Prop := ∃ (u : Addr), ∃ (ku : ClassId), v = some (.ref u) ∧ NoB = bk' ∧ Keep h0 h [] ∧ (Exa Z h u "[B") ∧ (Arv Z h u ku .byte (3 : Int32) [(.int ((en (0 : Int32)).toInt8.toInt32)), (.int ((en ((16 : Int32) ||| (za >>> ((4 : Int32) &&& 31)))).toInt8.toInt32)), (.int ((en (((za &&& (15 : Int32)) <<< ((2 : Int32) &&& 31)) ||| (0 : Int32))).toInt8.toInt32))] (.int (0 : Int32))) ∧ (@LE.le Nat _ (Array.size h0) u)
abbrev RM_enc1 : Room := { frames := 2, cells := 1, slots := 3, locals := 31 }
theorem ef_enc1 (m : MethodId) (x0 : Addr) (x1 : Addr) : entryFrame m #[(.ref x0), (.ref x1)] 5 = mkF m 0 #[.val (.ref x0), .val (.ref x1), .unset, .unset, .unset] [] := by first | (simp [entryFrame, mkF, argsToLocals, Value.category]; done) | rfl
set_option maxRecDepth 65536 in
set_option maxHeartbeats 40000000 in
theorem rm_enc1 (l : Launch) (Z : State) (a0 : Array Value) (G1 : Int32) (G3 : Value) (e0 tb : Addr) (kt : ClassId) (hX : Ctx Z a0 G1 G3) (hY : More Z e0 tb kt) (n0 : Nat) (h0 : Heap) (O0 : Old Z n0 h0) (x : Addr) (q : Addr) (kq : ClassId) (za : Int32) (pf_0 : Exa Z h0 x "java/util/Base64$Encoder") (pf_1 : Fld Z h0 x "java/util/Base64$Encoder" "isURL" "Z" (.int (1 : Int32))) (pf_2 : Fld Z h0 x "java/util/Base64$Encoder" "newline" "[B" .null) (pf_3 : Fld Z h0 x "java/util/Base64$Encoder" "linemax" "I" (.int ((-1) : Int32))) (pf_4 : Fld Z h0 x "java/util/Base64$Encoder" "doPadding" "Z" (.int (0 : Int32))) (pf_5 : Arv Z h0 q kq .byte (2 : Int32) [(.int (1 : Int32)), (.int (za.toInt8.toInt32))] (.int (0 : Int32))) (b_za : 0 ≤ za.toInt ∧ za.toInt ≤ 255) (ws : List Jvm.Cond) : Met l Z EL1 n0 NoB (⟨"java/util/Base64$Encoder", "encode", "([B)[B"⟩ : MethodName) jdk_2452_method_3_code 5 (Option.some (FieldType.array FieldType.byte)) RM_enc1 #[(.ref x), (.ref q)] h0 (Q_enc1 Z G1 G3 e0 tb kt x q kq za h0 n0 NoB) ws := by
  have hX' := hX
  obtain ⟨hw, hE, S1, P1, S3, P3⟩ := hX'
  have hY' := hY
  obtain ⟨s_e, x_e, f_u, f_n, f_l, f_p, s_t, a_t⟩ := hY'
  have wT : ∀ (i : Nat) {d : Jvm.Cond}, tables_1[i]? = some d → d.before a0 Z = true := fun i d h => hw d (List.mem_of_getElem? h)
  have z0 : n0 ≤ h0.size := by rw [← O0.1]; exact O0.2.1
  refine Met.of (by decide +kernel) O0 hE ?_
  intro p e s m below meth c hx hby hml hret hlk hnm
  refine k_cast (ef_enc1 m x q) ?_
  show Run p l e _ s m _ below meth c Z EL1 _ n0 NoB h0 0 0 (mkF m 0 #[.val (.ref x), .val (.ref q), .unset, .unset, .unset] []) _
  have lt_1 : @LT.lt Nat _ x (Array.size h0) := pf_0.lt
  have lt_2 : @LT.lt Nat _ x (Array.size h0) := pf_1.lt
  have lt_3 : @LT.lt Nat _ x (Array.size h0) := pf_2.lt
  have lt_4 : @LT.lt Nat _ x (Array.size h0) := pf_3.lt
  have lt_5 : @LT.lt Nat _ x (Array.size h0) := pf_4.lt
  have lt_6 : @LT.lt Nat _ q (Array.size h0) := pf_5.lt
  refine k_pure (g' := (mkF m 2 #[.val (.ref x), .val (.ref q), .unset, .unset, .unset] [(.ref q), (.ref x)])) (fun TT HH tt kk => XS.aloadN HH hx rfl (hb hby d377) rfl rfl (XS.aloadN HH hx rfl (hb hby d378) rfl rfl kk)) ?_
  refine k_alen hx pf_5 rfl rfl (hb hby d379) ?_
  refine k_pure (g' := (mkF m 4 #[.val (.ref x), .val (.ref q), .unset, .unset, .unset] [(.int (1 : Int32)), (.int (2 : Int32)), (.ref x)])) (fun _ J _ j => XS.iconst J hx rfl (hb hby d380) j) ?_
  refine k_callV hx (y := (⟨"java/util/Base64$Encoder", "encodedOutLength", "(IZ)I"⟩ : MethodName)) (z := (⟨"java/util/Base64$Encoder", "encodedOutLength", "(IZ)I"⟩ : MethodName)) (wT 66 rfl) (decl_ofH (wT 67 rfl) (wT 70 rfl)) (fun s' hZ => notFace_of_selects (args := #[]) (mv hZ (wT 69 rfl))) (wT 69 rfl) (wT 67 rfl) (by decide) (W := 0) (a := x) (argsL := [(.int (2 : Int32)), (.int (1 : Int32))]) (rest := []) (Pays.of_metH (rm_eol1 l Z a0 G1 G3 e0 tb kt hX hY n0 h0 O0 x pf_4 pf_3 []) (wT 70 rfl) (wT 35 rfl) (by decide) (by decide) (fun _ _ _ q => by obtain ⟨-, rfl, -⟩ := q; exact Nat.le_refl _)) pf_0 rfl (by rw [hml]; rfl) (lenOf pd__28_IZ_29_I rfl) rfl (by show 2 * 0 + _ ≤ _; exact Nat.le_of_eq rfl) (hb hby d381) (by decide) (by decide) ?_
  intro v_7 h_8 bk_9 O_10 z_11 Q_12
  obtain ⟨rfl, rfl, rfl⟩ := Q_12
  refine k_pure (g' := (mkF m 9 #[.val (.ref x), .val (.ref q), .val (.int (3 : Int32)), .unset, .unset] [(.int (3 : Int32))])) (fun TT HH tt kk => XS.istoreN HH hx rfl (hb hby d382) rfl (l' := #[.val (.ref x), .val (.ref q), .val (.int (3 : Int32)), .unset, .unset]) rfl (XS.iloadN HH hx rfl (hb hby d383) rfl kk)) ?_
  refine k_newP hx (wT 0 rfl) rfl (hb hby d384) rfl (by decide) (cap := 3) (by decide) (by decide) (by decide) (by decide) "[B" (by decide +kernel) ?_
  intro h_14 a_13 k_15 g_16 O_17 E_18 A_19 X_20
  have z_21 := E_18.1
  have lt_22 : @LT.lt Nat _ a_13 (Array.size h_14) := A_19.lt
  have V_23 : Arv Z h_14 a_13 k_15 .byte (3 : Int32) [(.int (0 : Int32)), (.int (0 : Int32)), (.int (0 : Int32))] (.int (0 : Int32)) := Arv.pad A_19 (pad_rep [] (.int (0 : Int32)) 3)
  refine k_pure (g' := (mkF m 15 #[.val (.ref x), .val (.ref q), .val (.int (3 : Int32)), .val (.ref a_13), .unset] [(.int (0 : Int32)), (.ref q), (.ref x)])) (fun TT HH tt kk => XS.astoreN HH hx rfl (hb hby d385) rfl rfl (l' := #[.val (.ref x), .val (.ref q), .val (.int (3 : Int32)), .val (.ref a_13), .unset]) rfl (XS.aloadN HH hx rfl (hb hby d386) rfl rfl (XS.aloadN HH hx rfl (hb hby d387) rfl rfl (XS.iconst HH hx rfl (hb hby d388) kk)))) ?_
  refine k_pure (g' := (mkF m 16 #[.val (.ref x), .val (.ref q), .val (.int (3 : Int32)), .val (.ref a_13), .unset] [(.ref q), (.int (0 : Int32)), (.ref q), (.ref x)])) (fun _ J _ j => XS.aloadN J hx rfl (hb hby d389) rfl rfl j) ?_
  have F_24 : Arv Z h_14 q kq .byte (2 : Int32) [(.int (1 : Int32)), (.int (za.toInt8.toInt32))] (.int (0 : Int32)) := (pf_5.ext E_18)
  refine k_alen hx F_24 rfl rfl (hb hby d390) ?_
  refine k_pure (g' := (mkF m 18 #[.val (.ref x), .val (.ref q), .val (.int (3 : Int32)), .val (.ref a_13), .unset] [(.ref a_13), (.int (2 : Int32)), (.int (0 : Int32)), (.ref q), (.ref x)])) (fun _ J _ j => XS.aloadN J hx rfl (hb hby d391) rfl rfl j) ?_
  have F_25 : Exa Z h_14 x "java/util/Base64$Encoder" := (pf_0.ext E_18)
  have F_26 : Fld Z h_14 x "java/util/Base64$Encoder" "isURL" "Z" (.int (1 : Int32)) := (pf_1.ext E_18)
  have F_27 : Fld Z h_14 x "java/util/Base64$Encoder" "newline" "[B" .null := (pf_2.ext E_18)
  have F_28 : Fld Z h_14 x "java/util/Base64$Encoder" "linemax" "I" (.int ((-1) : Int32)) := (pf_3.ext E_18)
  have F_29 : Fld Z h_14 x "java/util/Base64$Encoder" "doPadding" "Z" (.int (0 : Int32)) := (pf_4.ext E_18)
  refine k_callV hx (y := (⟨"java/util/Base64$Encoder", "encode0", "([BII[B)I"⟩ : MethodName)) (z := (⟨"java/util/Base64$Encoder", "encode0", "([BII[B)I"⟩ : MethodName)) (wT 78 rfl) (decl_of (wT 79 rfl) (wT 82 rfl)) (fun s' hZ => notFace_of_selects (args := #[]) (mv hZ (wT 81 rfl))) (wT 81 rfl) (wT 79 rfl) (by decide) (W := 0) (a := x) (argsL := [(.ref q), (.int (0 : Int32)), (.int (2 : Int32)), (.ref a_13)]) (rest := []) (Pays.of_met (rm_en01 l Z a0 G1 G3 e0 tb kt hX hY n0 h_14 O_17 x q kq a_13 k_15 za F_25 F_26 F_27 F_28 F_29 F_24 V_23 (by omega) (by omega) (by omega) b_za []) (wT 82 rfl) (wT 35 rfl) (by decide) (by decide)) F_25 rfl (by rw [hml]; rfl) (lenOf pd__28__5b_BII_5b_B_29_I rfl) rfl (by show 2 * 0 + _ ≤ _; exact Nat.le_of_eq rfl) (hb hby d392) (by decide) (by decide) ?_
  intro v_30 h_31 bk_32 O_33 z_34 Q_35
  obtain ⟨rfl, rfl, K_36, F_37⟩ := Q_35
  have lt_38 : @LT.lt Nat _ a_13 (Array.size h_31) := F_37.lt
  refine k_pure (g' := (mkF m 26 #[.val (.ref x), .val (.ref q), .val (.int (3 : Int32)), .val (.ref a_13), .val (.int (3 : Int32))] [(.ref a_13), (.int (3 : Int32))])) (fun TT HH tt kk => XS.istore HH hx rfl (hb hby d393) rfl (l' := #[.val (.ref x), .val (.ref q), .val (.int (3 : Int32)), .val (.ref a_13), .val (.int (3 : Int32))]) rfl (XS.iload HH hx rfl (hb hby d394) rfl (XS.aloadN HH hx rfl (hb hby d395) rfl rfl kk))) ?_
  refine k_alen hx F_37 rfl rfl (hb hby d396) ?_
  refine k_pure (g' := (mkF m 38 #[.val (.ref x), .val (.ref q), .val (.int (3 : Int32)), .val (.ref a_13), .val (.int (3 : Int32))] [(.ref a_13)])) (fun TT HH tt kk => XS.icmpYes HH hx rfl (pc0 := 27) (pc' := 37) rfl (hb hby d397) rfl (teq (by decide : ((3 : Int32) = (3 : Int32)))).1 (by decide) (by decide) (XS.aloadN HH hx rfl (hb hby d398) rfl rfl kk)) ?_
  have F_39 : Exa Z h_31 a_13 "[B" := (X_20.keep K_36)
  exact k_retA hx hlk hret rfl rfl rfl (hb hby d399) (by decide) (by decide) ⟨a_13, k_15, rfl, rfl, (((Keep.refl _ _).ext E_18).trans K_36 (kkS (Or.inr (by omega)) kk0)), F_39, F_37, (by omega)⟩
def Q_enc2 (Z : State) (G1 : Int32) (G3 : Value) (e0 tb : Addr) (kt : ClassId) (x : Addr) (q : Addr) (kq : ClassId) (za : Int32) (zb : Int32) (h0 : Heap) (n0 : Nat) (bk : Addr → Prop) (v : Option Value) (h : Heap) (bk' : Addr → Prop) : Prop := ∃ (u : Addr), ∃ (ku : ClassId), v = some (.ref u) ∧ NoB = bk' ∧ Keep h0 h [] ∧ (Exa Z h u "[B") ∧ (Arv Z h u ku .byte (4 : Int32) [(.int ((en (0 : Int32)).toInt8.toInt32)), (.int ((en ((16 : Int32) ||| (za >>> ((4 : Int32) &&& 31)))).toInt8.toInt32)), (.int ((en (((za &&& (15 : Int32)) <<< ((2 : Int32) &&& 31)) ||| (zb >>> ((6 : Int32) &&& 31)))).toInt8.toInt32)), (.int ((en (zb &&& (63 : Int32))).toInt8.toInt32))] (.int (0 : Int32))) ∧ (@LE.le Nat _ (Array.size h0) u)
abbrev RM_enc2 : Room := { frames := 2, cells := 1, slots := 4, locals := 49 }
theorem ef_enc2 (m : MethodId) (x0 : Addr) (x1 : Addr) : entryFrame m #[(.ref x0), (.ref x1)] 5 = mkF m 0 #[.val (.ref x0), .val (.ref x1), .unset, .unset, .unset] [] := by first | (simp [entryFrame, mkF, argsToLocals, Value.category]; done) | rfl
set_option maxRecDepth 65536 in
set_option maxHeartbeats 40000000 in
theorem rm_enc2 (l : Launch) (Z : State) (a0 : Array Value) (G1 : Int32) (G3 : Value) (e0 tb : Addr) (kt : ClassId) (hX : Ctx Z a0 G1 G3) (hY : More Z e0 tb kt) (n0 : Nat) (h0 : Heap) (O0 : Old Z n0 h0) (x : Addr) (q : Addr) (kq : ClassId) (za : Int32) (zb : Int32) (pf_0 : Exa Z h0 x "java/util/Base64$Encoder") (pf_1 : Fld Z h0 x "java/util/Base64$Encoder" "isURL" "Z" (.int (1 : Int32))) (pf_2 : Fld Z h0 x "java/util/Base64$Encoder" "newline" "[B" .null) (pf_3 : Fld Z h0 x "java/util/Base64$Encoder" "linemax" "I" (.int ((-1) : Int32))) (pf_4 : Fld Z h0 x "java/util/Base64$Encoder" "doPadding" "Z" (.int (0 : Int32))) (pf_5 : Arv Z h0 q kq .byte (3 : Int32) [(.int (1 : Int32)), (.int (za.toInt8.toInt32)), (.int (zb.toInt8.toInt32))] (.int (0 : Int32))) (b_za : 0 ≤ za.toInt ∧ za.toInt ≤ 255) (b_zb : 0 ≤ zb.toInt ∧ zb.toInt ≤ 255) (ws : List Jvm.Cond) : Met l Z EL1 n0 NoB (⟨"java/util/Base64$Encoder", "encode", "([B)[B"⟩ : MethodName) jdk_2452_method_3_code 5 (Option.some (FieldType.array FieldType.byte)) RM_enc2 #[(.ref x), (.ref q)] h0 (Q_enc2 Z G1 G3 e0 tb kt x q kq za zb h0 n0 NoB) ws := by
  have hX' := hX
  obtain ⟨hw, hE, S1, P1, S3, P3⟩ := hX'
  have hY' := hY
  obtain ⟨s_e, x_e, f_u, f_n, f_l, f_p, s_t, a_t⟩ := hY'
  have wT : ∀ (i : Nat) {d : Jvm.Cond}, tables_1[i]? = some d → d.before a0 Z = true := fun i d h => hw d (List.mem_of_getElem? h)
  have z0 : n0 ≤ h0.size := by rw [← O0.1]; exact O0.2.1
  refine Met.of (by decide +kernel) O0 hE ?_
  intro p e s m below meth c hx hby hml hret hlk hnm
  refine k_cast (ef_enc2 m x q) ?_
  show Run p l e _ s m _ below meth c Z EL1 _ n0 NoB h0 0 0 (mkF m 0 #[.val (.ref x), .val (.ref q), .unset, .unset, .unset] []) _
  have lt_1 : @LT.lt Nat _ x (Array.size h0) := pf_0.lt
  have lt_2 : @LT.lt Nat _ x (Array.size h0) := pf_1.lt
  have lt_3 : @LT.lt Nat _ x (Array.size h0) := pf_2.lt
  have lt_4 : @LT.lt Nat _ x (Array.size h0) := pf_3.lt
  have lt_5 : @LT.lt Nat _ x (Array.size h0) := pf_4.lt
  have lt_6 : @LT.lt Nat _ q (Array.size h0) := pf_5.lt
  refine k_pure (g' := (mkF m 2 #[.val (.ref x), .val (.ref q), .unset, .unset, .unset] [(.ref q), (.ref x)])) (fun TT HH tt kk => XS.aloadN HH hx rfl (hb hby d377) rfl rfl (XS.aloadN HH hx rfl (hb hby d378) rfl rfl kk)) ?_
  refine k_alen hx pf_5 rfl rfl (hb hby d379) ?_
  refine k_pure (g' := (mkF m 4 #[.val (.ref x), .val (.ref q), .unset, .unset, .unset] [(.int (1 : Int32)), (.int (3 : Int32)), (.ref x)])) (fun _ J _ j => XS.iconst J hx rfl (hb hby d380) j) ?_
  refine k_callV hx (y := (⟨"java/util/Base64$Encoder", "encodedOutLength", "(IZ)I"⟩ : MethodName)) (z := (⟨"java/util/Base64$Encoder", "encodedOutLength", "(IZ)I"⟩ : MethodName)) (wT 66 rfl) (decl_ofH (wT 67 rfl) (wT 70 rfl)) (fun s' hZ => notFace_of_selects (args := #[]) (mv hZ (wT 69 rfl))) (wT 69 rfl) (wT 67 rfl) (by decide) (W := 0) (a := x) (argsL := [(.int (3 : Int32)), (.int (1 : Int32))]) (rest := []) (Pays.of_metH (rm_eol2 l Z a0 G1 G3 e0 tb kt hX hY n0 h0 O0 x pf_4 pf_3 []) (wT 70 rfl) (wT 35 rfl) (by decide) (by decide) (fun _ _ _ q => by obtain ⟨-, rfl, -⟩ := q; exact Nat.le_refl _)) pf_0 rfl (by rw [hml]; rfl) (lenOf pd__28_IZ_29_I rfl) rfl (by show 2 * 0 + _ ≤ _; exact Nat.le_of_eq rfl) (hb hby d381) (by decide) (by decide) ?_
  intro v_7 h_8 bk_9 O_10 z_11 Q_12
  obtain ⟨rfl, rfl, rfl⟩ := Q_12
  refine k_pure (g' := (mkF m 9 #[.val (.ref x), .val (.ref q), .val (.int (4 : Int32)), .unset, .unset] [(.int (4 : Int32))])) (fun TT HH tt kk => XS.istoreN HH hx rfl (hb hby d382) rfl (l' := #[.val (.ref x), .val (.ref q), .val (.int (4 : Int32)), .unset, .unset]) rfl (XS.iloadN HH hx rfl (hb hby d383) rfl kk)) ?_
  refine k_newP hx (wT 0 rfl) rfl (hb hby d384) rfl (by decide) (cap := 4) (by decide) (by decide) (by decide) (by decide) "[B" (by decide +kernel) ?_
  intro h_14 a_13 k_15 g_16 O_17 E_18 A_19 X_20
  have z_21 := E_18.1
  have lt_22 : @LT.lt Nat _ a_13 (Array.size h_14) := A_19.lt
  have V_23 : Arv Z h_14 a_13 k_15 .byte (4 : Int32) [(.int (0 : Int32)), (.int (0 : Int32)), (.int (0 : Int32)), (.int (0 : Int32))] (.int (0 : Int32)) := Arv.pad A_19 (pad_rep [] (.int (0 : Int32)) 4)
  refine k_pure (g' := (mkF m 15 #[.val (.ref x), .val (.ref q), .val (.int (4 : Int32)), .val (.ref a_13), .unset] [(.int (0 : Int32)), (.ref q), (.ref x)])) (fun TT HH tt kk => XS.astoreN HH hx rfl (hb hby d385) rfl rfl (l' := #[.val (.ref x), .val (.ref q), .val (.int (4 : Int32)), .val (.ref a_13), .unset]) rfl (XS.aloadN HH hx rfl (hb hby d386) rfl rfl (XS.aloadN HH hx rfl (hb hby d387) rfl rfl (XS.iconst HH hx rfl (hb hby d388) kk)))) ?_
  refine k_pure (g' := (mkF m 16 #[.val (.ref x), .val (.ref q), .val (.int (4 : Int32)), .val (.ref a_13), .unset] [(.ref q), (.int (0 : Int32)), (.ref q), (.ref x)])) (fun _ J _ j => XS.aloadN J hx rfl (hb hby d389) rfl rfl j) ?_
  have F_24 : Arv Z h_14 q kq .byte (3 : Int32) [(.int (1 : Int32)), (.int (za.toInt8.toInt32)), (.int (zb.toInt8.toInt32))] (.int (0 : Int32)) := (pf_5.ext E_18)
  refine k_alen hx F_24 rfl rfl (hb hby d390) ?_
  refine k_pure (g' := (mkF m 18 #[.val (.ref x), .val (.ref q), .val (.int (4 : Int32)), .val (.ref a_13), .unset] [(.ref a_13), (.int (3 : Int32)), (.int (0 : Int32)), (.ref q), (.ref x)])) (fun _ J _ j => XS.aloadN J hx rfl (hb hby d391) rfl rfl j) ?_
  have F_25 : Exa Z h_14 x "java/util/Base64$Encoder" := (pf_0.ext E_18)
  have F_26 : Fld Z h_14 x "java/util/Base64$Encoder" "isURL" "Z" (.int (1 : Int32)) := (pf_1.ext E_18)
  have F_27 : Fld Z h_14 x "java/util/Base64$Encoder" "newline" "[B" .null := (pf_2.ext E_18)
  have F_28 : Fld Z h_14 x "java/util/Base64$Encoder" "linemax" "I" (.int ((-1) : Int32)) := (pf_3.ext E_18)
  have F_29 : Fld Z h_14 x "java/util/Base64$Encoder" "doPadding" "Z" (.int (0 : Int32)) := (pf_4.ext E_18)
  refine k_callV hx (y := (⟨"java/util/Base64$Encoder", "encode0", "([BII[B)I"⟩ : MethodName)) (z := (⟨"java/util/Base64$Encoder", "encode0", "([BII[B)I"⟩ : MethodName)) (wT 78 rfl) (decl_of (wT 79 rfl) (wT 82 rfl)) (fun s' hZ => notFace_of_selects (args := #[]) (mv hZ (wT 81 rfl))) (wT 81 rfl) (wT 79 rfl) (by decide) (W := 0) (a := x) (argsL := [(.ref q), (.int (0 : Int32)), (.int (3 : Int32)), (.ref a_13)]) (rest := []) (Pays.of_met (rm_en02 l Z a0 G1 G3 e0 tb kt hX hY n0 h_14 O_17 x q kq a_13 k_15 za zb F_25 F_26 F_27 F_28 F_29 F_24 V_23 (by omega) (by omega) (by omega) b_za b_zb []) (wT 82 rfl) (wT 35 rfl) (by decide) (by decide)) F_25 rfl (by rw [hml]; rfl) (lenOf pd__28__5b_BII_5b_B_29_I rfl) rfl (by show 2 * 0 + _ ≤ _; exact Nat.le_of_eq rfl) (hb hby d392) (by decide) (by decide) ?_
  intro v_30 h_31 bk_32 O_33 z_34 Q_35
  obtain ⟨rfl, rfl, K_36, F_37⟩ := Q_35
  have lt_38 : @LT.lt Nat _ a_13 (Array.size h_31) := F_37.lt
  refine k_pure (g' := (mkF m 26 #[.val (.ref x), .val (.ref q), .val (.int (4 : Int32)), .val (.ref a_13), .val (.int (4 : Int32))] [(.ref a_13), (.int (4 : Int32))])) (fun TT HH tt kk => XS.istore HH hx rfl (hb hby d393) rfl (l' := #[.val (.ref x), .val (.ref q), .val (.int (4 : Int32)), .val (.ref a_13), .val (.int (4 : Int32))]) rfl (XS.iload HH hx rfl (hb hby d394) rfl (XS.aloadN HH hx rfl (hb hby d395) rfl rfl kk))) ?_
  refine k_alen hx F_37 rfl rfl (hb hby d396) ?_
  refine k_pure (g' := (mkF m 38 #[.val (.ref x), .val (.ref q), .val (.int (4 : Int32)), .val (.ref a_13), .val (.int (4 : Int32))] [(.ref a_13)])) (fun TT HH tt kk => XS.icmpYes HH hx rfl (pc0 := 27) (pc' := 37) rfl (hb hby d397) rfl (teq (by decide : ((4 : Int32) = (4 : Int32)))).1 (by decide) (by decide) (XS.aloadN HH hx rfl (hb hby d398) rfl rfl kk)) ?_
  have F_39 : Exa Z h_31 a_13 "[B" := (X_20.keep K_36)
  exact k_retA hx hlk hret rfl rfl rfl (hb hby d399) (by decide) (by decide) ⟨a_13, k_15, rfl, rfl, (((Keep.refl _ _).ext E_18).trans K_36 (kkS (Or.inr (by omega)) kk0)), F_39, F_37, (by omega)⟩
def Q_enc3 (Z : State) (G1 : Int32) (G3 : Value) (e0 tb : Addr) (kt : ClassId) (x : Addr) (q : Addr) (kq : ClassId) (za : Int32) (zb : Int32) (zc : Int32) (h0 : Heap) (n0 : Nat) (bk : Addr → Prop) (v : Option Value) (h : Heap) (bk' : Addr → Prop) : Prop := ∃ (u : Addr), ∃ (ku : ClassId), v = some (.ref u) ∧ NoB = bk' ∧ Keep h0 h [] ∧ (Exa Z h u "[B") ∧ (Arv Z h u ku .byte (6 : Int32) [(.int ((en (0 : Int32)).toInt8.toInt32)), (.int ((en ((16 : Int32) ||| (za >>> ((4 : Int32) &&& 31)))).toInt8.toInt32)), (.int ((en (((za &&& (15 : Int32)) <<< ((2 : Int32) &&& 31)) ||| (zb >>> ((6 : Int32) &&& 31)))).toInt8.toInt32)), (.int ((en (zb &&& (63 : Int32))).toInt8.toInt32)), (.int ((en (zc >>> ((2 : Int32) &&& 31))).toInt8.toInt32)), (.int ((en ((zc &&& (3 : Int32)) <<< ((4 : Int32) &&& 31))).toInt8.toInt32))] (.int (0 : Int32))) ∧ (@LE.le Nat _ (Array.size h0) u)
abbrev RM_enc3 : Room := { frames := 2, cells := 1, slots := 6, locals := 49 }
theorem ef_enc3 (m : MethodId) (x0 : Addr) (x1 : Addr) : entryFrame m #[(.ref x0), (.ref x1)] 5 = mkF m 0 #[.val (.ref x0), .val (.ref x1), .unset, .unset, .unset] [] := by first | (simp [entryFrame, mkF, argsToLocals, Value.category]; done) | rfl
set_option maxRecDepth 65536 in
set_option maxHeartbeats 40000000 in
theorem rm_enc3 (l : Launch) (Z : State) (a0 : Array Value) (G1 : Int32) (G3 : Value) (e0 tb : Addr) (kt : ClassId) (hX : Ctx Z a0 G1 G3) (hY : More Z e0 tb kt) (n0 : Nat) (h0 : Heap) (O0 : Old Z n0 h0) (x : Addr) (q : Addr) (kq : ClassId) (za : Int32) (zb : Int32) (zc : Int32) (pf_0 : Exa Z h0 x "java/util/Base64$Encoder") (pf_1 : Fld Z h0 x "java/util/Base64$Encoder" "isURL" "Z" (.int (1 : Int32))) (pf_2 : Fld Z h0 x "java/util/Base64$Encoder" "newline" "[B" .null) (pf_3 : Fld Z h0 x "java/util/Base64$Encoder" "linemax" "I" (.int ((-1) : Int32))) (pf_4 : Fld Z h0 x "java/util/Base64$Encoder" "doPadding" "Z" (.int (0 : Int32))) (pf_5 : Arv Z h0 q kq .byte (4 : Int32) [(.int (1 : Int32)), (.int (za.toInt8.toInt32)), (.int (zb.toInt8.toInt32)), (.int (zc.toInt8.toInt32))] (.int (0 : Int32))) (b_za : 0 ≤ za.toInt ∧ za.toInt ≤ 255) (b_zb : 0 ≤ zb.toInt ∧ zb.toInt ≤ 255) (b_zc : 0 ≤ zc.toInt ∧ zc.toInt ≤ 255) (ws : List Jvm.Cond) : Met l Z EL1 n0 NoB (⟨"java/util/Base64$Encoder", "encode", "([B)[B"⟩ : MethodName) jdk_2452_method_3_code 5 (Option.some (FieldType.array FieldType.byte)) RM_enc3 #[(.ref x), (.ref q)] h0 (Q_enc3 Z G1 G3 e0 tb kt x q kq za zb zc h0 n0 NoB) ws := by
  have hX' := hX
  obtain ⟨hw, hE, S1, P1, S3, P3⟩ := hX'
  have hY' := hY
  obtain ⟨s_e, x_e, f_u, f_n, f_l, f_p, s_t, a_t⟩ := hY'
  have wT : ∀ (i : Nat) {d : Jvm.Cond}, tables_1[i]? = some d → d.before a0 Z = true := fun i d h => hw d (List.mem_of_getElem? h)
  have z0 : n0 ≤ h0.size := by rw [← O0.1]; exact O0.2.1
  refine Met.of (by decide +kernel) O0 hE ?_
  intro p e s m below meth c hx hby hml hret hlk hnm
  refine k_cast (ef_enc3 m x q) ?_
  show Run p l e _ s m _ below meth c Z EL1 _ n0 NoB h0 0 0 (mkF m 0 #[.val (.ref x), .val (.ref q), .unset, .unset, .unset] []) _
  have lt_1 : @LT.lt Nat _ x (Array.size h0) := pf_0.lt
  have lt_2 : @LT.lt Nat _ x (Array.size h0) := pf_1.lt
  have lt_3 : @LT.lt Nat _ x (Array.size h0) := pf_2.lt
  have lt_4 : @LT.lt Nat _ x (Array.size h0) := pf_3.lt
  have lt_5 : @LT.lt Nat _ x (Array.size h0) := pf_4.lt
  have lt_6 : @LT.lt Nat _ q (Array.size h0) := pf_5.lt
  refine k_pure (g' := (mkF m 2 #[.val (.ref x), .val (.ref q), .unset, .unset, .unset] [(.ref q), (.ref x)])) (fun TT HH tt kk => XS.aloadN HH hx rfl (hb hby d377) rfl rfl (XS.aloadN HH hx rfl (hb hby d378) rfl rfl kk)) ?_
  refine k_alen hx pf_5 rfl rfl (hb hby d379) ?_
  refine k_pure (g' := (mkF m 4 #[.val (.ref x), .val (.ref q), .unset, .unset, .unset] [(.int (1 : Int32)), (.int (4 : Int32)), (.ref x)])) (fun _ J _ j => XS.iconst J hx rfl (hb hby d380) j) ?_
  refine k_callV hx (y := (⟨"java/util/Base64$Encoder", "encodedOutLength", "(IZ)I"⟩ : MethodName)) (z := (⟨"java/util/Base64$Encoder", "encodedOutLength", "(IZ)I"⟩ : MethodName)) (wT 66 rfl) (decl_ofH (wT 67 rfl) (wT 70 rfl)) (fun s' hZ => notFace_of_selects (args := #[]) (mv hZ (wT 69 rfl))) (wT 69 rfl) (wT 67 rfl) (by decide) (W := 0) (a := x) (argsL := [(.int (4 : Int32)), (.int (1 : Int32))]) (rest := []) (Pays.of_metH (rm_eol3 l Z a0 G1 G3 e0 tb kt hX hY n0 h0 O0 x pf_4 pf_3 []) (wT 70 rfl) (wT 35 rfl) (by decide) (by decide) (fun _ _ _ q => by obtain ⟨-, rfl, -⟩ := q; exact Nat.le_refl _)) pf_0 rfl (by rw [hml]; rfl) (lenOf pd__28_IZ_29_I rfl) rfl (by show 2 * 0 + _ ≤ _; exact Nat.le_of_eq rfl) (hb hby d381) (by decide) (by decide) ?_
  intro v_7 h_8 bk_9 O_10 z_11 Q_12
  obtain ⟨rfl, rfl, rfl⟩ := Q_12
  refine k_pure (g' := (mkF m 9 #[.val (.ref x), .val (.ref q), .val (.int (6 : Int32)), .unset, .unset] [(.int (6 : Int32))])) (fun TT HH tt kk => XS.istoreN HH hx rfl (hb hby d382) rfl (l' := #[.val (.ref x), .val (.ref q), .val (.int (6 : Int32)), .unset, .unset]) rfl (XS.iloadN HH hx rfl (hb hby d383) rfl kk)) ?_
  refine k_newP hx (wT 0 rfl) rfl (hb hby d384) rfl (by decide) (cap := 6) (by decide) (by decide) (by decide) (by decide) "[B" (by decide +kernel) ?_
  intro h_14 a_13 k_15 g_16 O_17 E_18 A_19 X_20
  have z_21 := E_18.1
  have lt_22 : @LT.lt Nat _ a_13 (Array.size h_14) := A_19.lt
  have V_23 : Arv Z h_14 a_13 k_15 .byte (6 : Int32) [(.int (0 : Int32)), (.int (0 : Int32)), (.int (0 : Int32)), (.int (0 : Int32)), (.int (0 : Int32)), (.int (0 : Int32))] (.int (0 : Int32)) := Arv.pad A_19 (pad_rep [] (.int (0 : Int32)) 6)
  refine k_pure (g' := (mkF m 15 #[.val (.ref x), .val (.ref q), .val (.int (6 : Int32)), .val (.ref a_13), .unset] [(.int (0 : Int32)), (.ref q), (.ref x)])) (fun TT HH tt kk => XS.astoreN HH hx rfl (hb hby d385) rfl rfl (l' := #[.val (.ref x), .val (.ref q), .val (.int (6 : Int32)), .val (.ref a_13), .unset]) rfl (XS.aloadN HH hx rfl (hb hby d386) rfl rfl (XS.aloadN HH hx rfl (hb hby d387) rfl rfl (XS.iconst HH hx rfl (hb hby d388) kk)))) ?_
  refine k_pure (g' := (mkF m 16 #[.val (.ref x), .val (.ref q), .val (.int (6 : Int32)), .val (.ref a_13), .unset] [(.ref q), (.int (0 : Int32)), (.ref q), (.ref x)])) (fun _ J _ j => XS.aloadN J hx rfl (hb hby d389) rfl rfl j) ?_
  have F_24 : Arv Z h_14 q kq .byte (4 : Int32) [(.int (1 : Int32)), (.int (za.toInt8.toInt32)), (.int (zb.toInt8.toInt32)), (.int (zc.toInt8.toInt32))] (.int (0 : Int32)) := (pf_5.ext E_18)
  refine k_alen hx F_24 rfl rfl (hb hby d390) ?_
  refine k_pure (g' := (mkF m 18 #[.val (.ref x), .val (.ref q), .val (.int (6 : Int32)), .val (.ref a_13), .unset] [(.ref a_13), (.int (4 : Int32)), (.int (0 : Int32)), (.ref q), (.ref x)])) (fun _ J _ j => XS.aloadN J hx rfl (hb hby d391) rfl rfl j) ?_
  have F_25 : Exa Z h_14 x "java/util/Base64$Encoder" := (pf_0.ext E_18)
  have F_26 : Fld Z h_14 x "java/util/Base64$Encoder" "isURL" "Z" (.int (1 : Int32)) := (pf_1.ext E_18)
  have F_27 : Fld Z h_14 x "java/util/Base64$Encoder" "newline" "[B" .null := (pf_2.ext E_18)
  have F_28 : Fld Z h_14 x "java/util/Base64$Encoder" "linemax" "I" (.int ((-1) : Int32)) := (pf_3.ext E_18)
  have F_29 : Fld Z h_14 x "java/util/Base64$Encoder" "doPadding" "Z" (.int (0 : Int32)) := (pf_4.ext E_18)
  refine k_callV hx (y := (⟨"java/util/Base64$Encoder", "encode0", "([BII[B)I"⟩ : MethodName)) (z := (⟨"java/util/Base64$Encoder", "encode0", "([BII[B)I"⟩ : MethodName)) (wT 78 rfl) (decl_of (wT 79 rfl) (wT 82 rfl)) (fun s' hZ => notFace_of_selects (args := #[]) (mv hZ (wT 81 rfl))) (wT 81 rfl) (wT 79 rfl) (by decide) (W := 0) (a := x) (argsL := [(.ref q), (.int (0 : Int32)), (.int (4 : Int32)), (.ref a_13)]) (rest := []) (Pays.of_met (rm_en03 l Z a0 G1 G3 e0 tb kt hX hY n0 h_14 O_17 x q kq a_13 k_15 za zb zc F_25 F_26 F_27 F_28 F_29 F_24 V_23 (by omega) (by omega) (by omega) b_za b_zb b_zc []) (wT 82 rfl) (wT 35 rfl) (by decide) (by decide)) F_25 rfl (by rw [hml]; rfl) (lenOf pd__28__5b_BII_5b_B_29_I rfl) rfl (by show 2 * 0 + _ ≤ _; exact Nat.le_of_eq rfl) (hb hby d392) (by decide) (by decide) ?_
  intro v_30 h_31 bk_32 O_33 z_34 Q_35
  obtain ⟨rfl, rfl, K_36, F_37⟩ := Q_35
  have lt_38 : @LT.lt Nat _ a_13 (Array.size h_31) := F_37.lt
  refine k_pure (g' := (mkF m 26 #[.val (.ref x), .val (.ref q), .val (.int (6 : Int32)), .val (.ref a_13), .val (.int (6 : Int32))] [(.ref a_13), (.int (6 : Int32))])) (fun TT HH tt kk => XS.istore HH hx rfl (hb hby d393) rfl (l' := #[.val (.ref x), .val (.ref q), .val (.int (6 : Int32)), .val (.ref a_13), .val (.int (6 : Int32))]) rfl (XS.iload HH hx rfl (hb hby d394) rfl (XS.aloadN HH hx rfl (hb hby d395) rfl rfl kk))) ?_
  refine k_alen hx F_37 rfl rfl (hb hby d396) ?_
  refine k_pure (g' := (mkF m 38 #[.val (.ref x), .val (.ref q), .val (.int (6 : Int32)), .val (.ref a_13), .val (.int (6 : Int32))] [(.ref a_13)])) (fun TT HH tt kk => XS.icmpYes HH hx rfl (pc0 := 27) (pc' := 37) rfl (hb hby d397) rfl (teq (by decide : ((6 : Int32) = (6 : Int32)))).1 (by decide) (by decide) (XS.aloadN HH hx rfl (hb hby d398) rfl rfl kk)) ?_
  have F_39 : Exa Z h_31 a_13 "[B" := (X_20.keep K_36)
  exact k_retA hx hlk hret rfl rfl rfl (hb hby d399) (by decide) (by decide) ⟨a_13, k_15, rfl, rfl, (((Keep.refl _ _).ext E_18).trans K_36 (kkS (Or.inr (by omega)) kk0)), F_39, F_37, (by omega)⟩
def Q_cfi00 (Z : State) (G1 : Int32) (G3 : Value) (e0 tb : Addr) (kt : ClassId)  (h0 : Heap) (n0 : Nat) (bk : Addr → Prop) (v : Option Value) (h : Heap) (bk' : Addr → Prop) : Prop := v = some (.int (0 : Int32)) ∧ h0 = h ∧ NoB = bk'
theorem d400 : decode jdk_41_method_13_code 0 = .ok (.iload_n 2, 1) := by decide +kernel
theorem d401 : decode jdk_41_method_13_code 1 = .ok (.iload_n 0, 1) := by decide +kernel
theorem d402 : decode jdk_41_method_13_code 2 = .ok (.ior, 1) := by decide +kernel
theorem d403 : decode jdk_41_method_13_code 3 = .ok (.iload_n 1, 1) := by decide +kernel
theorem d404 : decode jdk_41_method_13_code 4 = .ok (.ior, 1) := by decide +kernel
theorem d405 : decode jdk_41_method_13_code 5 = .ok (.ifCond .lt 10, 3) := by decide +kernel
theorem d406 : decode jdk_41_method_13_code 8 = .ok (.iload_n 1, 1) := by decide +kernel
theorem d407 : decode jdk_41_method_13_code 9 = .ok (.iload_n 2, 1) := by decide +kernel
theorem d408 : decode jdk_41_method_13_code 10 = .ok (.iload_n 0, 1) := by decide +kernel
theorem d409 : decode jdk_41_method_13_code 11 = .ok (.isub, 1) := by decide +kernel
theorem d410 : decode jdk_41_method_13_code 12 = .ok (.if_icmp .le 11, 3) := by decide +kernel
theorem d411 : decode jdk_41_method_13_code 23 = .ok (.iload_n 0, 1) := by decide +kernel
theorem d412 : decode jdk_41_method_13_code 24 = .ok (.ireturn, 1) := by decide +kernel
abbrev RM_cfi00 : Room := { frames := 0, cells := 0, slots := 0, locals := 0 }
theorem ef_cfi00 (m : MethodId) (x0 : Int32) (x1 : Int32) (x2 : Int32) : entryFrame m #[(.int x0), (.int x1), (.int x2), .null] 4 = mkF m 0 #[.val (.int x0), .val (.int x1), .val (.int x2), .val .null] [] := by first | (simp [entryFrame, mkF, argsToLocals, Value.category]; done) | rfl
set_option maxRecDepth 65536 in
set_option maxHeartbeats 40000000 in
theorem rm_cfi00 (l : Launch) (Z : State) (a0 : Array Value) (G1 : Int32) (G3 : Value) (e0 tb : Addr) (kt : ClassId) (hX : Ctx Z a0 G1 G3) (hY : More Z e0 tb kt) (n0 : Nat) (h0 : Heap) (O0 : Old Z n0 h0)   (ws : List Jvm.Cond) : Met l Z EL1 n0 NoB (⟨"jdk/internal/util/Preconditions", "checkFromIndexSize", "(IIILjava/util/function/BiFunction;)I"⟩ : MethodName) jdk_41_method_13_code 4 (Option.some FieldType.int) RM_cfi00 #[(.int (0 : Int32)), (.int (2 : Int32)), (.int (2 : Int32)), .null] h0 (Q_cfi00 Z G1 G3 e0 tb kt  h0 n0 NoB) ws := by
  have hX' := hX
  obtain ⟨hw, hE, S1, P1, S3, P3⟩ := hX'
  have hY' := hY
  obtain ⟨s_e, x_e, f_u, f_n, f_l, f_p, s_t, a_t⟩ := hY'
  have wT : ∀ (i : Nat) {d : Jvm.Cond}, tables_1[i]? = some d → d.before a0 Z = true := fun i d h => hw d (List.mem_of_getElem? h)
  have z0 : n0 ≤ h0.size := by rw [← O0.1]; exact O0.2.1
  refine Met.of (by decide +kernel) O0 hE ?_
  intro p e s m below meth c hx hby hml hret hlk hnm
  refine k_cast (ef_cfi00 m (0 : Int32) (2 : Int32) (2 : Int32)) ?_
  refine k_pure (g' := (mkF m 4 #[.val (.int (0 : Int32)), .val (.int (2 : Int32)), .val (.int (2 : Int32)), .val .null] [(.int (2 : Int32)), (.int (2 : Int32))])) (fun TT HH tt kk => XS.iloadN HH hx rfl (hb hby d400) rfl (XS.iloadN HH hx rfl (hb hby d401) rfl (XS.ior HH hx rfl (hb hby d402) rfl (XS.iloadN HH hx rfl (hb hby d403) rfl kk)))) ?_
  refine k_pure (g' := (mkF m 10 #[.val (.int (0 : Int32)), .val (.int (2 : Int32)), .val (.int (2 : Int32)), .val .null] [(.int (2 : Int32)), (.int (2 : Int32))])) (fun TT HH tt kk => XS.ior HH hx rfl (hb hby d404) rfl (XS.ifNo HH hx rfl (hb hby d405) rfl ((if0 _ _).trans (flt (by decide : ¬ ((2 : Int32) < (0 : Int32)))).1) (XS.iloadN HH hx rfl (hb hby d406) rfl (XS.iloadN HH hx rfl (hb hby d407) rfl kk)))) ?_
  refine k_pure (g' := (mkF m 24 #[.val (.int (0 : Int32)), .val (.int (2 : Int32)), .val (.int (2 : Int32)), .val .null] [(.int (0 : Int32))])) (fun TT HH tt kk => XS.iloadN HH hx rfl (hb hby d408) rfl (XS.isub HH hx rfl (hb hby d409) rfl (XS.icmpYes HH hx rfl (pc0 := 12) (pc' := 23) rfl (hb hby d410) rfl (flt (by decide : ¬ ((2 : Int32) < (2 : Int32)))).2.2.2 (by decide) (by decide) (XS.iloadN HH hx rfl (hb hby d411) rfl kk)))) ?_
  exact k_retI hx hlk hret (hb hby d412) (by decide) (by decide) ⟨rfl, rfl, rfl⟩
def Q_cfi01 (Z : State) (G1 : Int32) (G3 : Value) (e0 tb : Addr) (kt : ClassId) (gf : Addr) (h0 : Heap) (n0 : Nat) (bk : Addr → Prop) (v : Option Value) (h : Heap) (bk' : Addr → Prop) : Prop := v = some (.int (0 : Int32)) ∧ h0 = h ∧ NoB = bk'
abbrev RM_cfi01 : Room := { frames := 0, cells := 0, slots := 0, locals := 0 }
theorem ef_cfi01 (m : MethodId) (x0 : Int32) (x1 : Int32) (x2 : Int32) (x3 : Addr) : entryFrame m #[(.int x0), (.int x1), (.int x2), (.ref x3)] 4 = mkF m 0 #[.val (.int x0), .val (.int x1), .val (.int x2), .val (.ref x3)] [] := by first | (simp [entryFrame, mkF, argsToLocals, Value.category]; done) | rfl
set_option maxRecDepth 65536 in
set_option maxHeartbeats 40000000 in
theorem rm_cfi01 (l : Launch) (Z : State) (a0 : Array Value) (G1 : Int32) (G3 : Value) (e0 tb : Addr) (kt : ClassId) (hX : Ctx Z a0 G1 G3) (hY : More Z e0 tb kt) (n0 : Nat) (h0 : Heap) (O0 : Old Z n0 h0) (gf : Addr)  (ws : List Jvm.Cond) : Met l Z EL1 n0 NoB (⟨"jdk/internal/util/Preconditions", "checkFromIndexSize", "(IIILjava/util/function/BiFunction;)I"⟩ : MethodName) jdk_41_method_13_code 4 (Option.some FieldType.int) RM_cfi01 #[(.int (0 : Int32)), (.int (2 : Int32)), (.int (2 : Int32)), (.ref gf)] h0 (Q_cfi01 Z G1 G3 e0 tb kt gf h0 n0 NoB) ws := by
  have hX' := hX
  obtain ⟨hw, hE, S1, P1, S3, P3⟩ := hX'
  have hY' := hY
  obtain ⟨s_e, x_e, f_u, f_n, f_l, f_p, s_t, a_t⟩ := hY'
  have wT : ∀ (i : Nat) {d : Jvm.Cond}, tables_1[i]? = some d → d.before a0 Z = true := fun i d h => hw d (List.mem_of_getElem? h)
  have z0 : n0 ≤ h0.size := by rw [← O0.1]; exact O0.2.1
  refine Met.of (by decide +kernel) O0 hE ?_
  intro p e s m below meth c hx hby hml hret hlk hnm
  refine k_cast (ef_cfi01 m (0 : Int32) (2 : Int32) (2 : Int32) gf) ?_
  refine k_pure (g' := (mkF m 4 #[.val (.int (0 : Int32)), .val (.int (2 : Int32)), .val (.int (2 : Int32)), .val (.ref gf)] [(.int (2 : Int32)), (.int (2 : Int32))])) (fun TT HH tt kk => XS.iloadN HH hx rfl (hb hby d400) rfl (XS.iloadN HH hx rfl (hb hby d401) rfl (XS.ior HH hx rfl (hb hby d402) rfl (XS.iloadN HH hx rfl (hb hby d403) rfl kk)))) ?_
  refine k_pure (g' := (mkF m 10 #[.val (.int (0 : Int32)), .val (.int (2 : Int32)), .val (.int (2 : Int32)), .val (.ref gf)] [(.int (2 : Int32)), (.int (2 : Int32))])) (fun TT HH tt kk => XS.ior HH hx rfl (hb hby d404) rfl (XS.ifNo HH hx rfl (hb hby d405) rfl ((if0 _ _).trans (flt (by decide : ¬ ((2 : Int32) < (0 : Int32)))).1) (XS.iloadN HH hx rfl (hb hby d406) rfl (XS.iloadN HH hx rfl (hb hby d407) rfl kk)))) ?_
  refine k_pure (g' := (mkF m 24 #[.val (.int (0 : Int32)), .val (.int (2 : Int32)), .val (.int (2 : Int32)), .val (.ref gf)] [(.int (0 : Int32))])) (fun TT HH tt kk => XS.iloadN HH hx rfl (hb hby d408) rfl (XS.isub HH hx rfl (hb hby d409) rfl (XS.icmpYes HH hx rfl (pc0 := 12) (pc' := 23) rfl (hb hby d410) rfl (flt (by decide : ¬ ((2 : Int32) < (2 : Int32)))).2.2.2 (by decide) (by decide) (XS.iloadN HH hx rfl (hb hby d411) rfl kk)))) ?_
  exact k_retI hx hlk hret (hb hby d412) (by decide) (by decide) ⟨rfl, rfl, rfl⟩
def Q_cfi10 (Z : State) (G1 : Int32) (G3 : Value) (e0 tb : Addr) (kt : ClassId)  (h0 : Heap) (n0 : Nat) (bk : Addr → Prop) (v : Option Value) (h : Heap) (bk' : Addr → Prop) : Prop := v = some (.int (0 : Int32)) ∧ h0 = h ∧ NoB = bk'
abbrev RM_cfi10 : Room := { frames := 0, cells := 0, slots := 0, locals := 0 }
theorem ef_cfi10 (m : MethodId) (x0 : Int32) (x1 : Int32) (x2 : Int32) : entryFrame m #[(.int x0), (.int x1), (.int x2), .null] 4 = mkF m 0 #[.val (.int x0), .val (.int x1), .val (.int x2), .val .null] [] := by first | (simp [entryFrame, mkF, argsToLocals, Value.category]; done) | rfl
set_option maxRecDepth 65536 in
set_option maxHeartbeats 40000000 in
theorem rm_cfi10 (l : Launch) (Z : State) (a0 : Array Value) (G1 : Int32) (G3 : Value) (e0 tb : Addr) (kt : ClassId) (hX : Ctx Z a0 G1 G3) (hY : More Z e0 tb kt) (n0 : Nat) (h0 : Heap) (O0 : Old Z n0 h0)   (ws : List Jvm.Cond) : Met l Z EL1 n0 NoB (⟨"jdk/internal/util/Preconditions", "checkFromIndexSize", "(IIILjava/util/function/BiFunction;)I"⟩ : MethodName) jdk_41_method_13_code 4 (Option.some FieldType.int) RM_cfi10 #[(.int (0 : Int32)), (.int (3 : Int32)), (.int (3 : Int32)), .null] h0 (Q_cfi10 Z G1 G3 e0 tb kt  h0 n0 NoB) ws := by
  have hX' := hX
  obtain ⟨hw, hE, S1, P1, S3, P3⟩ := hX'
  have hY' := hY
  obtain ⟨s_e, x_e, f_u, f_n, f_l, f_p, s_t, a_t⟩ := hY'
  have wT : ∀ (i : Nat) {d : Jvm.Cond}, tables_1[i]? = some d → d.before a0 Z = true := fun i d h => hw d (List.mem_of_getElem? h)
  have z0 : n0 ≤ h0.size := by rw [← O0.1]; exact O0.2.1
  refine Met.of (by decide +kernel) O0 hE ?_
  intro p e s m below meth c hx hby hml hret hlk hnm
  refine k_cast (ef_cfi10 m (0 : Int32) (3 : Int32) (3 : Int32)) ?_
  refine k_pure (g' := (mkF m 4 #[.val (.int (0 : Int32)), .val (.int (3 : Int32)), .val (.int (3 : Int32)), .val .null] [(.int (3 : Int32)), (.int (3 : Int32))])) (fun TT HH tt kk => XS.iloadN HH hx rfl (hb hby d400) rfl (XS.iloadN HH hx rfl (hb hby d401) rfl (XS.ior HH hx rfl (hb hby d402) rfl (XS.iloadN HH hx rfl (hb hby d403) rfl kk)))) ?_
  refine k_pure (g' := (mkF m 10 #[.val (.int (0 : Int32)), .val (.int (3 : Int32)), .val (.int (3 : Int32)), .val .null] [(.int (3 : Int32)), (.int (3 : Int32))])) (fun TT HH tt kk => XS.ior HH hx rfl (hb hby d404) rfl (XS.ifNo HH hx rfl (hb hby d405) rfl ((if0 _ _).trans (flt (by decide : ¬ ((3 : Int32) < (0 : Int32)))).1) (XS.iloadN HH hx rfl (hb hby d406) rfl (XS.iloadN HH hx rfl (hb hby d407) rfl kk)))) ?_
  refine k_pure (g' := (mkF m 24 #[.val (.int (0 : Int32)), .val (.int (3 : Int32)), .val (.int (3 : Int32)), .val .null] [(.int (0 : Int32))])) (fun TT HH tt kk => XS.iloadN HH hx rfl (hb hby d408) rfl (XS.isub HH hx rfl (hb hby d409) rfl (XS.icmpYes HH hx rfl (pc0 := 12) (pc' := 23) rfl (hb hby d410) rfl (flt (by decide : ¬ ((3 : Int32) < (3 : Int32)))).2.2.2 (by decide) (by decide) (XS.iloadN HH hx rfl (hb hby d411) rfl kk)))) ?_
  exact k_retI hx hlk hret (hb hby d412) (by decide) (by decide) ⟨rfl, rfl, rfl⟩
def Q_cfi11 (Z : State) (G1 : Int32) (G3 : Value) (e0 tb : Addr) (kt : ClassId) (gf : Addr) (h0 : Heap) (n0 : Nat) (bk : Addr → Prop) (v : Option Value) (h : Heap) (bk' : Addr → Prop) : Prop := v = some (.int (0 : Int32)) ∧ h0 = h ∧ NoB = bk'
abbrev RM_cfi11 : Room := { frames := 0, cells := 0, slots := 0, locals := 0 }
theorem ef_cfi11 (m : MethodId) (x0 : Int32) (x1 : Int32) (x2 : Int32) (x3 : Addr) : entryFrame m #[(.int x0), (.int x1), (.int x2), (.ref x3)] 4 = mkF m 0 #[.val (.int x0), .val (.int x1), .val (.int x2), .val (.ref x3)] [] := by first | (simp [entryFrame, mkF, argsToLocals, Value.category]; done) | rfl
set_option maxRecDepth 65536 in
set_option maxHeartbeats 40000000 in
theorem rm_cfi11 (l : Launch) (Z : State) (a0 : Array Value) (G1 : Int32) (G3 : Value) (e0 tb : Addr) (kt : ClassId) (hX : Ctx Z a0 G1 G3) (hY : More Z e0 tb kt) (n0 : Nat) (h0 : Heap) (O0 : Old Z n0 h0) (gf : Addr)  (ws : List Jvm.Cond) : Met l Z EL1 n0 NoB (⟨"jdk/internal/util/Preconditions", "checkFromIndexSize", "(IIILjava/util/function/BiFunction;)I"⟩ : MethodName) jdk_41_method_13_code 4 (Option.some FieldType.int) RM_cfi11 #[(.int (0 : Int32)), (.int (3 : Int32)), (.int (3 : Int32)), (.ref gf)] h0 (Q_cfi11 Z G1 G3 e0 tb kt gf h0 n0 NoB) ws := by
  have hX' := hX
  obtain ⟨hw, hE, S1, P1, S3, P3⟩ := hX'
  have hY' := hY
  obtain ⟨s_e, x_e, f_u, f_n, f_l, f_p, s_t, a_t⟩ := hY'
  have wT : ∀ (i : Nat) {d : Jvm.Cond}, tables_1[i]? = some d → d.before a0 Z = true := fun i d h => hw d (List.mem_of_getElem? h)
  have z0 : n0 ≤ h0.size := by rw [← O0.1]; exact O0.2.1
  refine Met.of (by decide +kernel) O0 hE ?_
  intro p e s m below meth c hx hby hml hret hlk hnm
  refine k_cast (ef_cfi11 m (0 : Int32) (3 : Int32) (3 : Int32) gf) ?_
  refine k_pure (g' := (mkF m 4 #[.val (.int (0 : Int32)), .val (.int (3 : Int32)), .val (.int (3 : Int32)), .val (.ref gf)] [(.int (3 : Int32)), (.int (3 : Int32))])) (fun TT HH tt kk => XS.iloadN HH hx rfl (hb hby d400) rfl (XS.iloadN HH hx rfl (hb hby d401) rfl (XS.ior HH hx rfl (hb hby d402) rfl (XS.iloadN HH hx rfl (hb hby d403) rfl kk)))) ?_
  refine k_pure (g' := (mkF m 10 #[.val (.int (0 : Int32)), .val (.int (3 : Int32)), .val (.int (3 : Int32)), .val (.ref gf)] [(.int (3 : Int32)), (.int (3 : Int32))])) (fun TT HH tt kk => XS.ior HH hx rfl (hb hby d404) rfl (XS.ifNo HH hx rfl (hb hby d405) rfl ((if0 _ _).trans (flt (by decide : ¬ ((3 : Int32) < (0 : Int32)))).1) (XS.iloadN HH hx rfl (hb hby d406) rfl (XS.iloadN HH hx rfl (hb hby d407) rfl kk)))) ?_
  refine k_pure (g' := (mkF m 24 #[.val (.int (0 : Int32)), .val (.int (3 : Int32)), .val (.int (3 : Int32)), .val (.ref gf)] [(.int (0 : Int32))])) (fun TT HH tt kk => XS.iloadN HH hx rfl (hb hby d408) rfl (XS.isub HH hx rfl (hb hby d409) rfl (XS.icmpYes HH hx rfl (pc0 := 12) (pc' := 23) rfl (hb hby d410) rfl (flt (by decide : ¬ ((3 : Int32) < (3 : Int32)))).2.2.2 (by decide) (by decide) (XS.iloadN HH hx rfl (hb hby d411) rfl kk)))) ?_
  exact k_retI hx hlk hret (hb hby d412) (by decide) (by decide) ⟨rfl, rfl, rfl⟩
def Q_cfi20 (Z : State) (G1 : Int32) (G3 : Value) (e0 tb : Addr) (kt : ClassId)  (h0 : Heap) (n0 : Nat) (bk : Addr → Prop) (v : Option Value) (h : Heap) (bk' : Addr → Prop) : Prop := v = some (.int (0 : Int32)) ∧ h0 = h ∧ NoB = bk'
abbrev RM_cfi20 : Room := { frames := 0, cells := 0, slots := 0, locals := 0 }
theorem ef_cfi20 (m : MethodId) (x0 : Int32) (x1 : Int32) (x2 : Int32) : entryFrame m #[(.int x0), (.int x1), (.int x2), .null] 4 = mkF m 0 #[.val (.int x0), .val (.int x1), .val (.int x2), .val .null] [] := by first | (simp [entryFrame, mkF, argsToLocals, Value.category]; done) | rfl
set_option maxRecDepth 65536 in
set_option maxHeartbeats 40000000 in
theorem rm_cfi20 (l : Launch) (Z : State) (a0 : Array Value) (G1 : Int32) (G3 : Value) (e0 tb : Addr) (kt : ClassId) (hX : Ctx Z a0 G1 G3) (hY : More Z e0 tb kt) (n0 : Nat) (h0 : Heap) (O0 : Old Z n0 h0)   (ws : List Jvm.Cond) : Met l Z EL1 n0 NoB (⟨"jdk/internal/util/Preconditions", "checkFromIndexSize", "(IIILjava/util/function/BiFunction;)I"⟩ : MethodName) jdk_41_method_13_code 4 (Option.some FieldType.int) RM_cfi20 #[(.int (0 : Int32)), (.int (4 : Int32)), (.int (4 : Int32)), .null] h0 (Q_cfi20 Z G1 G3 e0 tb kt  h0 n0 NoB) ws := by
  have hX' := hX
  obtain ⟨hw, hE, S1, P1, S3, P3⟩ := hX'
  have hY' := hY
  obtain ⟨s_e, x_e, f_u, f_n, f_l, f_p, s_t, a_t⟩ := hY'
  have wT : ∀ (i : Nat) {d : Jvm.Cond}, tables_1[i]? = some d → d.before a0 Z = true := fun i d h => hw d (List.mem_of_getElem? h)
  have z0 : n0 ≤ h0.size := by rw [← O0.1]; exact O0.2.1
  refine Met.of (by decide +kernel) O0 hE ?_
  intro p e s m below meth c hx hby hml hret hlk hnm
  refine k_cast (ef_cfi20 m (0 : Int32) (4 : Int32) (4 : Int32)) ?_
  refine k_pure (g' := (mkF m 4 #[.val (.int (0 : Int32)), .val (.int (4 : Int32)), .val (.int (4 : Int32)), .val .null] [(.int (4 : Int32)), (.int (4 : Int32))])) (fun TT HH tt kk => XS.iloadN HH hx rfl (hb hby d400) rfl (XS.iloadN HH hx rfl (hb hby d401) rfl (XS.ior HH hx rfl (hb hby d402) rfl (XS.iloadN HH hx rfl (hb hby d403) rfl kk)))) ?_
  refine k_pure (g' := (mkF m 10 #[.val (.int (0 : Int32)), .val (.int (4 : Int32)), .val (.int (4 : Int32)), .val .null] [(.int (4 : Int32)), (.int (4 : Int32))])) (fun TT HH tt kk => XS.ior HH hx rfl (hb hby d404) rfl (XS.ifNo HH hx rfl (hb hby d405) rfl ((if0 _ _).trans (flt (by decide : ¬ ((4 : Int32) < (0 : Int32)))).1) (XS.iloadN HH hx rfl (hb hby d406) rfl (XS.iloadN HH hx rfl (hb hby d407) rfl kk)))) ?_
  refine k_pure (g' := (mkF m 24 #[.val (.int (0 : Int32)), .val (.int (4 : Int32)), .val (.int (4 : Int32)), .val .null] [(.int (0 : Int32))])) (fun TT HH tt kk => XS.iloadN HH hx rfl (hb hby d408) rfl (XS.isub HH hx rfl (hb hby d409) rfl (XS.icmpYes HH hx rfl (pc0 := 12) (pc' := 23) rfl (hb hby d410) rfl (flt (by decide : ¬ ((4 : Int32) < (4 : Int32)))).2.2.2 (by decide) (by decide) (XS.iloadN HH hx rfl (hb hby d411) rfl kk)))) ?_
  exact k_retI hx hlk hret (hb hby d412) (by decide) (by decide) ⟨rfl, rfl, rfl⟩
def Q_cfi21 (Z : State) (G1 : Int32) (G3 : Value) (e0 tb : Addr) (kt : ClassId) (gf : Addr) (h0 : Heap) (n0 : Nat) (bk : Addr → Prop) (v : Option Value) (h : Heap) (bk' : Addr → Prop) : Prop := v = some (.int (0 : Int32)) ∧ h0 = h ∧ NoB = bk'
abbrev RM_cfi21 : Room := { frames := 0, cells := 0, slots := 0, locals := 0 }
theorem ef_cfi21 (m : MethodId) (x0 : Int32) (x1 : Int32) (x2 : Int32) (x3 : Addr) : entryFrame m #[(.int x0), (.int x1), (.int x2), (.ref x3)] 4 = mkF m 0 #[.val (.int x0), .val (.int x1), .val (.int x2), .val (.ref x3)] [] := by first | (simp [entryFrame, mkF, argsToLocals, Value.category]; done) | rfl
set_option maxRecDepth 65536 in
set_option maxHeartbeats 40000000 in
theorem rm_cfi21 (l : Launch) (Z : State) (a0 : Array Value) (G1 : Int32) (G3 : Value) (e0 tb : Addr) (kt : ClassId) (hX : Ctx Z a0 G1 G3) (hY : More Z e0 tb kt) (n0 : Nat) (h0 : Heap) (O0 : Old Z n0 h0) (gf : Addr)  (ws : List Jvm.Cond) : Met l Z EL1 n0 NoB (⟨"jdk/internal/util/Preconditions", "checkFromIndexSize", "(IIILjava/util/function/BiFunction;)I"⟩ : MethodName) jdk_41_method_13_code 4 (Option.some FieldType.int) RM_cfi21 #[(.int (0 : Int32)), (.int (4 : Int32)), (.int (4 : Int32)), (.ref gf)] h0 (Q_cfi21 Z G1 G3 e0 tb kt gf h0 n0 NoB) ws := by
  have hX' := hX
  obtain ⟨hw, hE, S1, P1, S3, P3⟩ := hX'
  have hY' := hY
  obtain ⟨s_e, x_e, f_u, f_n, f_l, f_p, s_t, a_t⟩ := hY'
  have wT : ∀ (i : Nat) {d : Jvm.Cond}, tables_1[i]? = some d → d.before a0 Z = true := fun i d h => hw d (List.mem_of_getElem? h)
  have z0 : n0 ≤ h0.size := by rw [← O0.1]; exact O0.2.1
  refine Met.of (by decide +kernel) O0 hE ?_
  intro p e s m below meth c hx hby hml hret hlk hnm
  refine k_cast (ef_cfi21 m (0 : Int32) (4 : Int32) (4 : Int32) gf) ?_
  refine k_pure (g' := (mkF m 4 #[.val (.int (0 : Int32)), .val (.int (4 : Int32)), .val (.int (4 : Int32)), .val (.ref gf)] [(.int (4 : Int32)), (.int (4 : Int32))])) (fun TT HH tt kk => XS.iloadN HH hx rfl (hb hby d400) rfl (XS.iloadN HH hx rfl (hb hby d401) rfl (XS.ior HH hx rfl (hb hby d402) rfl (XS.iloadN HH hx rfl (hb hby d403) rfl kk)))) ?_
  refine k_pure (g' := (mkF m 10 #[.val (.int (0 : Int32)), .val (.int (4 : Int32)), .val (.int (4 : Int32)), .val (.ref gf)] [(.int (4 : Int32)), (.int (4 : Int32))])) (fun TT HH tt kk => XS.ior HH hx rfl (hb hby d404) rfl (XS.ifNo HH hx rfl (hb hby d405) rfl ((if0 _ _).trans (flt (by decide : ¬ ((4 : Int32) < (0 : Int32)))).1) (XS.iloadN HH hx rfl (hb hby d406) rfl (XS.iloadN HH hx rfl (hb hby d407) rfl kk)))) ?_
  refine k_pure (g' := (mkF m 24 #[.val (.int (0 : Int32)), .val (.int (4 : Int32)), .val (.int (4 : Int32)), .val (.ref gf)] [(.int (0 : Int32))])) (fun TT HH tt kk => XS.iloadN HH hx rfl (hb hby d408) rfl (XS.isub HH hx rfl (hb hby d409) rfl (XS.icmpYes HH hx rfl (pc0 := 12) (pc' := 23) rfl (hb hby d410) rfl (flt (by decide : ¬ ((4 : Int32) < (4 : Int32)))).2.2.2 (by decide) (by decide) (XS.iloadN HH hx rfl (hb hby d411) rfl kk)))) ?_
  exact k_retI hx hlk hret (hb hby d412) (by decide) (by decide) ⟨rfl, rfl, rfl⟩
def Q_cfi30 (Z : State) (G1 : Int32) (G3 : Value) (e0 tb : Addr) (kt : ClassId)  (h0 : Heap) (n0 : Nat) (bk : Addr → Prop) (v : Option Value) (h : Heap) (bk' : Addr → Prop) : Prop := v = some (.int (0 : Int32)) ∧ h0 = h ∧ NoB = bk'
abbrev RM_cfi30 : Room := { frames := 0, cells := 0, slots := 0, locals := 0 }
theorem ef_cfi30 (m : MethodId) (x0 : Int32) (x1 : Int32) (x2 : Int32) : entryFrame m #[(.int x0), (.int x1), (.int x2), .null] 4 = mkF m 0 #[.val (.int x0), .val (.int x1), .val (.int x2), .val .null] [] := by first | (simp [entryFrame, mkF, argsToLocals, Value.category]; done) | rfl
set_option maxRecDepth 65536 in
set_option maxHeartbeats 40000000 in
theorem rm_cfi30 (l : Launch) (Z : State) (a0 : Array Value) (G1 : Int32) (G3 : Value) (e0 tb : Addr) (kt : ClassId) (hX : Ctx Z a0 G1 G3) (hY : More Z e0 tb kt) (n0 : Nat) (h0 : Heap) (O0 : Old Z n0 h0)   (ws : List Jvm.Cond) : Met l Z EL1 n0 NoB (⟨"jdk/internal/util/Preconditions", "checkFromIndexSize", "(IIILjava/util/function/BiFunction;)I"⟩ : MethodName) jdk_41_method_13_code 4 (Option.some FieldType.int) RM_cfi30 #[(.int (0 : Int32)), (.int (6 : Int32)), (.int (6 : Int32)), .null] h0 (Q_cfi30 Z G1 G3 e0 tb kt  h0 n0 NoB) ws := by
  have hX' := hX
  obtain ⟨hw, hE, S1, P1, S3, P3⟩ := hX'
  have hY' := hY
  obtain ⟨s_e, x_e, f_u, f_n, f_l, f_p, s_t, a_t⟩ := hY'
  have wT : ∀ (i : Nat) {d : Jvm.Cond}, tables_1[i]? = some d → d.before a0 Z = true := fun i d h => hw d (List.mem_of_getElem? h)
  have z0 : n0 ≤ h0.size := by rw [← O0.1]; exact O0.2.1
  refine Met.of (by decide +kernel) O0 hE ?_
  intro p e s m below meth c hx hby hml hret hlk hnm
  refine k_cast (ef_cfi30 m (0 : Int32) (6 : Int32) (6 : Int32)) ?_
  refine k_pure (g' := (mkF m 4 #[.val (.int (0 : Int32)), .val (.int (6 : Int32)), .val (.int (6 : Int32)), .val .null] [(.int (6 : Int32)), (.int (6 : Int32))])) (fun TT HH tt kk => XS.iloadN HH hx rfl (hb hby d400) rfl (XS.iloadN HH hx rfl (hb hby d401) rfl (XS.ior HH hx rfl (hb hby d402) rfl (XS.iloadN HH hx rfl (hb hby d403) rfl kk)))) ?_
  refine k_pure (g' := (mkF m 10 #[.val (.int (0 : Int32)), .val (.int (6 : Int32)), .val (.int (6 : Int32)), .val .null] [(.int (6 : Int32)), (.int (6 : Int32))])) (fun TT HH tt kk => XS.ior HH hx rfl (hb hby d404) rfl (XS.ifNo HH hx rfl (hb hby d405) rfl ((if0 _ _).trans (flt (by decide : ¬ ((6 : Int32) < (0 : Int32)))).1) (XS.iloadN HH hx rfl (hb hby d406) rfl (XS.iloadN HH hx rfl (hb hby d407) rfl kk)))) ?_
  refine k_pure (g' := (mkF m 24 #[.val (.int (0 : Int32)), .val (.int (6 : Int32)), .val (.int (6 : Int32)), .val .null] [(.int (0 : Int32))])) (fun TT HH tt kk => XS.iloadN HH hx rfl (hb hby d408) rfl (XS.isub HH hx rfl (hb hby d409) rfl (XS.icmpYes HH hx rfl (pc0 := 12) (pc' := 23) rfl (hb hby d410) rfl (flt (by decide : ¬ ((6 : Int32) < (6 : Int32)))).2.2.2 (by decide) (by decide) (XS.iloadN HH hx rfl (hb hby d411) rfl kk)))) ?_
  exact k_retI hx hlk hret (hb hby d412) (by decide) (by decide) ⟨rfl, rfl, rfl⟩
def Q_cfi31 (Z : State) (G1 : Int32) (G3 : Value) (e0 tb : Addr) (kt : ClassId) (gf : Addr) (h0 : Heap) (n0 : Nat) (bk : Addr → Prop) (v : Option Value) (h : Heap) (bk' : Addr → Prop) : Prop := v = some (.int (0 : Int32)) ∧ h0 = h ∧ NoB = bk'
abbrev RM_cfi31 : Room := { frames := 0, cells := 0, slots := 0, locals := 0 }
theorem ef_cfi31 (m : MethodId) (x0 : Int32) (x1 : Int32) (x2 : Int32) (x3 : Addr) : entryFrame m #[(.int x0), (.int x1), (.int x2), (.ref x3)] 4 = mkF m 0 #[.val (.int x0), .val (.int x1), .val (.int x2), .val (.ref x3)] [] := by first | (simp [entryFrame, mkF, argsToLocals, Value.category]; done) | rfl
set_option maxRecDepth 65536 in
set_option maxHeartbeats 40000000 in
theorem rm_cfi31 (l : Launch) (Z : State) (a0 : Array Value) (G1 : Int32) (G3 : Value) (e0 tb : Addr) (kt : ClassId) (hX : Ctx Z a0 G1 G3) (hY : More Z e0 tb kt) (n0 : Nat) (h0 : Heap) (O0 : Old Z n0 h0) (gf : Addr)  (ws : List Jvm.Cond) : Met l Z EL1 n0 NoB (⟨"jdk/internal/util/Preconditions", "checkFromIndexSize", "(IIILjava/util/function/BiFunction;)I"⟩ : MethodName) jdk_41_method_13_code 4 (Option.some FieldType.int) RM_cfi31 #[(.int (0 : Int32)), (.int (6 : Int32)), (.int (6 : Int32)), (.ref gf)] h0 (Q_cfi31 Z G1 G3 e0 tb kt gf h0 n0 NoB) ws := by
  have hX' := hX
  obtain ⟨hw, hE, S1, P1, S3, P3⟩ := hX'
  have hY' := hY
  obtain ⟨s_e, x_e, f_u, f_n, f_l, f_p, s_t, a_t⟩ := hY'
  have wT : ∀ (i : Nat) {d : Jvm.Cond}, tables_1[i]? = some d → d.before a0 Z = true := fun i d h => hw d (List.mem_of_getElem? h)
  have z0 : n0 ≤ h0.size := by rw [← O0.1]; exact O0.2.1
  refine Met.of (by decide +kernel) O0 hE ?_
  intro p e s m below meth c hx hby hml hret hlk hnm
  refine k_cast (ef_cfi31 m (0 : Int32) (6 : Int32) (6 : Int32) gf) ?_
  refine k_pure (g' := (mkF m 4 #[.val (.int (0 : Int32)), .val (.int (6 : Int32)), .val (.int (6 : Int32)), .val (.ref gf)] [(.int (6 : Int32)), (.int (6 : Int32))])) (fun TT HH tt kk => XS.iloadN HH hx rfl (hb hby d400) rfl (XS.iloadN HH hx rfl (hb hby d401) rfl (XS.ior HH hx rfl (hb hby d402) rfl (XS.iloadN HH hx rfl (hb hby d403) rfl kk)))) ?_
  refine k_pure (g' := (mkF m 10 #[.val (.int (0 : Int32)), .val (.int (6 : Int32)), .val (.int (6 : Int32)), .val (.ref gf)] [(.int (6 : Int32)), (.int (6 : Int32))])) (fun TT HH tt kk => XS.ior HH hx rfl (hb hby d404) rfl (XS.ifNo HH hx rfl (hb hby d405) rfl ((if0 _ _).trans (flt (by decide : ¬ ((6 : Int32) < (0 : Int32)))).1) (XS.iloadN HH hx rfl (hb hby d406) rfl (XS.iloadN HH hx rfl (hb hby d407) rfl kk)))) ?_
  refine k_pure (g' := (mkF m 24 #[.val (.int (0 : Int32)), .val (.int (6 : Int32)), .val (.int (6 : Int32)), .val (.ref gf)] [(.int (0 : Int32))])) (fun TT HH tt kk => XS.iloadN HH hx rfl (hb hby d408) rfl (XS.isub HH hx rfl (hb hby d409) rfl (XS.icmpYes HH hx rfl (pc0 := 12) (pc' := 23) rfl (hb hby d410) rfl (flt (by decide : ¬ ((6 : Int32) < (6 : Int32)))).2.2.2 (by decide) (by decide) (XS.iloadN HH hx rfl (hb hby d411) rfl kk)))) ?_
  exact k_retI hx hlk hret (hb hby d412) (by decide) (by decide) ⟨rfl, rfl, rfl⟩
def Q_cbo0 (Z : State) (G1 : Int32) (G3 : Value) (e0 tb : Addr) (kt : ClassId)  (h0 : Heap) (n0 : Nat) (bk : Addr → Prop) (v : Option Value) (h : Heap) (bk' : Addr → Prop) : Prop := v = some (.int (0 : Int32)) ∧ h0 = h ∧ NoB = bk'
theorem d413 : decode jdk_42_method_157_code 0 = .ok (.iload_n 0, 1) := by decide +kernel
theorem d414 : decode jdk_42_method_157_code 1 = .ok (.iload_n 1, 1) := by decide +kernel
theorem d415 : decode jdk_42_method_157_code 2 = .ok (.iload_n 2, 1) := by decide +kernel
theorem d416 : decode jdk_42_method_157_code 3 = .ok (.getstatic 1053, 3) := by decide +kernel
theorem d417 : decode jdk_42_method_157_code 6 = .ok (.invokestatic 1065, 3) := by decide +kernel
theorem pd__28_IIILjava_2f_util_2f_function_2f_BiFunction_3b__29_I : parseMethodDescriptor "(IIILjava/util/function/BiFunction;)I" = some ⟨[.int, .int, .int, (.object "java/util/function/BiFunction")], some .int⟩ := by decide +kernel
theorem d418 : decode jdk_42_method_157_code 9 = .ok (.ireturn, 1) := by decide +kernel
abbrev RM_cbo0 : Room := { frames := 1, cells := 0, slots := 0, locals := 15 }
theorem ef_cbo0 (m : MethodId) (x0 : Int32) (x1 : Int32) (x2 : Int32) : entryFrame m #[(.int x0), (.int x1), (.int x2)] 3 = mkF m 0 #[.val (.int x0), .val (.int x1), .val (.int x2)] [] := by first | (simp [entryFrame, mkF, argsToLocals, Value.category]; done) | rfl
set_option maxRecDepth 65536 in
set_option maxHeartbeats 40000000 in
theorem rm_cbo0 (l : Launch) (Z : State) (a0 : Array Value) (G1 : Int32) (G3 : Value) (e0 tb : Addr) (kt : ClassId) (hX : Ctx Z a0 G1 G3) (hY : More Z e0 tb kt) (n0 : Nat) (h0 : Heap) (O0 : Old Z n0 h0)   (ws : List Jvm.Cond) : Met l Z EL1 n0 NoB (⟨"java/lang/String", "checkBoundsOffCount", "(III)I"⟩ : MethodName) jdk_42_method_157_code 3 (Option.some FieldType.int) RM_cbo0 #[(.int (0 : Int32)), (.int (2 : Int32)), (.int (2 : Int32))] h0 (Q_cbo0 Z G1 G3 e0 tb kt  h0 n0 NoB) ws := by
  have hX' := hX
  obtain ⟨hw, hE, S1, P1, S3, P3⟩ := hX'
  have hY' := hY
  obtain ⟨s_e, x_e, f_u, f_n, f_l, f_p, s_t, a_t⟩ := hY'
  have wT : ∀ (i : Nat) {d : Jvm.Cond}, tables_1[i]? = some d → d.before a0 Z = true := fun i d h => hw d (List.mem_of_getElem? h)
  have z0 : n0 ≤ h0.size := by rw [← O0.1]; exact O0.2.1
  refine Met.of (by decide +kernel) O0 hE ?_
  intro p e s m below meth c hx hby hml hret hlk hnm
  refine k_cast (ef_cbo0 m (0 : Int32) (2 : Int32) (2 : Int32)) ?_
  refine k_pure (g' := (mkF m 3 #[.val (.int (0 : Int32)), .val (.int (2 : Int32)), .val (.int (2 : Int32))] [(.int (2 : Int32)), (.int (2 : Int32)), (.int (0 : Int32))])) (fun TT HH tt kk => XS.iloadN HH hx rfl (hb hby d413) rfl (XS.iloadN HH hx rfl (hb hby d414) rfl (XS.iloadN HH hx rfl (hb hby d415) rfl kk))) ?_
  rcases isref P3 with hG | ⟨gA, hG⟩
  · have S3' : Sta Z Z.heap "jdk/internal/util/Preconditions" "SIOOBE_FORMATTER" "Ljava/util/function/BiFunction;" .null := hG ▸ S3
    show Run p l e _ s m _ below meth c Z EL1 _ n0 NoB h0 0 0 (mkF m 3 #[.val (.int (0 : Int32)), .val (.int (2 : Int32)), .val (.int (2 : Int32))] [(.int (2 : Int32)), (.int (2 : Int32)), (.int (0 : Int32))]) _
    refine k_getS hx (host := "") (Or.inl (wT 95 rfl)) Via.refl (S3'.ext O0.2) rfl (hb hby d416) ?_
    show Run p l e _ s m _ below meth c Z EL1 _ n0 NoB h0 0 0 (mkF m 6 #[.val (.int (0 : Int32)), .val (.int (2 : Int32)), .val (.int (2 : Int32))] [.null, (.int (2 : Int32)), (.int (2 : Int32)), (.int (0 : Int32))]) _
    refine k_callS hx (y := (⟨"jdk/internal/util/Preconditions", "checkFromIndexSize", "(IIILjava/util/function/BiFunction;)I"⟩ : MethodName)) (wT 97 rfl) (wT 98 rfl) (wT 96 rfl) (wT 99 rfl) (by decide) (W := 0) (argsL := [(.int (0 : Int32)), (.int (2 : Int32)), (.int (2 : Int32)), .null]) (rest := []) (Pays.of_met (rm_cfi00 l Z a0 G1 G3 e0 tb kt hX hY n0 h0 O0   []) (wT 99 rfl) (wT 96 rfl) (by decide) (by decide)) rfl (by rw [hml]; rfl) (lenOf pd__28_IIILjava_2f_util_2f_function_2f_BiFunction_3b__29_I rfl) rfl (by show 2 * 0 + _ ≤ _; exact Nat.le_of_eq rfl) (hb hby d417) (by decide) (by decide) ?_
    intro v_1 h_2 bk_3 O_4 z_5 Q_6
    obtain ⟨rfl, rfl, rfl⟩ := Q_6
    show Run p l e _ s m _ below meth c Z EL1 _ n0 NoB h0 0 0 (mkF m 9 #[.val (.int (0 : Int32)), .val (.int (2 : Int32)), .val (.int (2 : Int32))] [(.int (0 : Int32))]) _
    exact k_retI hx hlk hret (hb hby d418) (by decide) (by decide) ⟨rfl, rfl, rfl⟩
  · have S3' : Sta Z Z.heap "jdk/internal/util/Preconditions" "SIOOBE_FORMATTER" "Ljava/util/function/BiFunction;" (.ref gA) := hG ▸ S3
    show Run p l e _ s m _ below meth c Z EL1 _ n0 NoB h0 0 0 (mkF m 3 #[.val (.int (0 : Int32)), .val (.int (2 : Int32)), .val (.int (2 : Int32))] [(.int (2 : Int32)), (.int (2 : Int32)), (.int (0 : Int32))]) _
    refine k_getS hx (host := "") (Or.inl (wT 95 rfl)) Via.refl (S3'.ext O0.2) rfl (hb hby d416) ?_
    show Run p l e _ s m _ below meth c Z EL1 _ n0 NoB h0 0 0 (mkF m 6 #[.val (.int (0 : Int32)), .val (.int (2 : Int32)), .val (.int (2 : Int32))] [(.ref gA), (.int (2 : Int32)), (.int (2 : Int32)), (.int (0 : Int32))]) _
    refine k_callS hx (y := (⟨"jdk/internal/util/Preconditions", "checkFromIndexSize", "(IIILjava/util/function/BiFunction;)I"⟩ : MethodName)) (wT 97 rfl) (wT 98 rfl) (wT 96 rfl) (wT 99 rfl) (by decide) (W := 0) (argsL := [(.int (0 : Int32)), (.int (2 : Int32)), (.int (2 : Int32)), (.ref gA)]) (rest := []) (Pays.of_met (rm_cfi01 l Z a0 G1 G3 e0 tb kt hX hY n0 h0 O0 gA  []) (wT 99 rfl) (wT 96 rfl) (by decide) (by decide)) rfl (by rw [hml]; rfl) (lenOf pd__28_IIILjava_2f_util_2f_function_2f_BiFunction_3b__29_I rfl) rfl (by show 2 * 0 + _ ≤ _; exact Nat.le_of_eq rfl) (hb hby d417) (by decide) (by decide) ?_
    intro v_7 h_8 bk_9 O_10 z_11 Q_12
    obtain ⟨rfl, rfl, rfl⟩ := Q_12
    show Run p l e _ s m _ below meth c Z EL1 _ n0 NoB h0 0 0 (mkF m 9 #[.val (.int (0 : Int32)), .val (.int (2 : Int32)), .val (.int (2 : Int32))] [(.int (0 : Int32))]) _
    exact k_retI hx hlk hret (hb hby d418) (by decide) (by decide) ⟨rfl, rfl, rfl⟩
def Q_cbo1 (Z : State) (G1 : Int32) (G3 : Value) (e0 tb : Addr) (kt : ClassId)  (h0 : Heap) (n0 : Nat) (bk : Addr → Prop) (v : Option Value) (h : Heap) (bk' : Addr → Prop) : Prop := v = some (.int (0 : Int32)) ∧ h0 = h ∧ NoB = bk'
abbrev RM_cbo1 : Room := { frames := 1, cells := 0, slots := 0, locals := 15 }
theorem ef_cbo1 (m : MethodId) (x0 : Int32) (x1 : Int32) (x2 : Int32) : entryFrame m #[(.int x0), (.int x1), (.int x2)] 3 = mkF m 0 #[.val (.int x0), .val (.int x1), .val (.int x2)] [] := by first | (simp [entryFrame, mkF, argsToLocals, Value.category]; done) | rfl
set_option maxRecDepth 65536 in
set_option maxHeartbeats 40000000 in
theorem rm_cbo1 (l : Launch) (Z : State) (a0 : Array Value) (G1 : Int32) (G3 : Value) (e0 tb : Addr) (kt : ClassId) (hX : Ctx Z a0 G1 G3) (hY : More Z e0 tb kt) (n0 : Nat) (h0 : Heap) (O0 : Old Z n0 h0)   (ws : List Jvm.Cond) : Met l Z EL1 n0 NoB (⟨"java/lang/String", "checkBoundsOffCount", "(III)I"⟩ : MethodName) jdk_42_method_157_code 3 (Option.some FieldType.int) RM_cbo1 #[(.int (0 : Int32)), (.int (3 : Int32)), (.int (3 : Int32))] h0 (Q_cbo1 Z G1 G3 e0 tb kt  h0 n0 NoB) ws := by
  have hX' := hX
  obtain ⟨hw, hE, S1, P1, S3, P3⟩ := hX'
  have hY' := hY
  obtain ⟨s_e, x_e, f_u, f_n, f_l, f_p, s_t, a_t⟩ := hY'
  have wT : ∀ (i : Nat) {d : Jvm.Cond}, tables_1[i]? = some d → d.before a0 Z = true := fun i d h => hw d (List.mem_of_getElem? h)
  have z0 : n0 ≤ h0.size := by rw [← O0.1]; exact O0.2.1
  refine Met.of (by decide +kernel) O0 hE ?_
  intro p e s m below meth c hx hby hml hret hlk hnm
  refine k_cast (ef_cbo1 m (0 : Int32) (3 : Int32) (3 : Int32)) ?_
  refine k_pure (g' := (mkF m 3 #[.val (.int (0 : Int32)), .val (.int (3 : Int32)), .val (.int (3 : Int32))] [(.int (3 : Int32)), (.int (3 : Int32)), (.int (0 : Int32))])) (fun TT HH tt kk => XS.iloadN HH hx rfl (hb hby d413) rfl (XS.iloadN HH hx rfl (hb hby d414) rfl (XS.iloadN HH hx rfl (hb hby d415) rfl kk))) ?_
  rcases isref P3 with hG | ⟨gA, hG⟩
  · have S3' : Sta Z Z.heap "jdk/internal/util/Preconditions" "SIOOBE_FORMATTER" "Ljava/util/function/BiFunction;" .null := hG ▸ S3
    show Run p l e _ s m _ below meth c Z EL1 _ n0 NoB h0 0 0 (mkF m 3 #[.val (.int (0 : Int32)), .val (.int (3 : Int32)), .val (.int (3 : Int32))] [(.int (3 : Int32)), (.int (3 : Int32)), (.int (0 : Int32))]) _
    refine k_getS hx (host := "") (Or.inl (wT 95 rfl)) Via.refl (S3'.ext O0.2) rfl (hb hby d416) ?_
    show Run p l e _ s m _ below meth c Z EL1 _ n0 NoB h0 0 0 (mkF m 6 #[.val (.int (0 : Int32)), .val (.int (3 : Int32)), .val (.int (3 : Int32))] [.null, (.int (3 : Int32)), (.int (3 : Int32)), (.int (0 : Int32))]) _
    refine k_callS hx (y := (⟨"jdk/internal/util/Preconditions", "checkFromIndexSize", "(IIILjava/util/function/BiFunction;)I"⟩ : MethodName)) (wT 97 rfl) (wT 98 rfl) (wT 96 rfl) (wT 99 rfl) (by decide) (W := 0) (argsL := [(.int (0 : Int32)), (.int (3 : Int32)), (.int (3 : Int32)), .null]) (rest := []) (Pays.of_met (rm_cfi10 l Z a0 G1 G3 e0 tb kt hX hY n0 h0 O0   []) (wT 99 rfl) (wT 96 rfl) (by decide) (by decide)) rfl (by rw [hml]; rfl) (lenOf pd__28_IIILjava_2f_util_2f_function_2f_BiFunction_3b__29_I rfl) rfl (by show 2 * 0 + _ ≤ _; exact Nat.le_of_eq rfl) (hb hby d417) (by decide) (by decide) ?_
    intro v_1 h_2 bk_3 O_4 z_5 Q_6
    obtain ⟨rfl, rfl, rfl⟩ := Q_6
    show Run p l e _ s m _ below meth c Z EL1 _ n0 NoB h0 0 0 (mkF m 9 #[.val (.int (0 : Int32)), .val (.int (3 : Int32)), .val (.int (3 : Int32))] [(.int (0 : Int32))]) _
    exact k_retI hx hlk hret (hb hby d418) (by decide) (by decide) ⟨rfl, rfl, rfl⟩
  · have S3' : Sta Z Z.heap "jdk/internal/util/Preconditions" "SIOOBE_FORMATTER" "Ljava/util/function/BiFunction;" (.ref gA) := hG ▸ S3
    show Run p l e _ s m _ below meth c Z EL1 _ n0 NoB h0 0 0 (mkF m 3 #[.val (.int (0 : Int32)), .val (.int (3 : Int32)), .val (.int (3 : Int32))] [(.int (3 : Int32)), (.int (3 : Int32)), (.int (0 : Int32))]) _
    refine k_getS hx (host := "") (Or.inl (wT 95 rfl)) Via.refl (S3'.ext O0.2) rfl (hb hby d416) ?_
    show Run p l e _ s m _ below meth c Z EL1 _ n0 NoB h0 0 0 (mkF m 6 #[.val (.int (0 : Int32)), .val (.int (3 : Int32)), .val (.int (3 : Int32))] [(.ref gA), (.int (3 : Int32)), (.int (3 : Int32)), (.int (0 : Int32))]) _
    refine k_callS hx (y := (⟨"jdk/internal/util/Preconditions", "checkFromIndexSize", "(IIILjava/util/function/BiFunction;)I"⟩ : MethodName)) (wT 97 rfl) (wT 98 rfl) (wT 96 rfl) (wT 99 rfl) (by decide) (W := 0) (argsL := [(.int (0 : Int32)), (.int (3 : Int32)), (.int (3 : Int32)), (.ref gA)]) (rest := []) (Pays.of_met (rm_cfi11 l Z a0 G1 G3 e0 tb kt hX hY n0 h0 O0 gA  []) (wT 99 rfl) (wT 96 rfl) (by decide) (by decide)) rfl (by rw [hml]; rfl) (lenOf pd__28_IIILjava_2f_util_2f_function_2f_BiFunction_3b__29_I rfl) rfl (by show 2 * 0 + _ ≤ _; exact Nat.le_of_eq rfl) (hb hby d417) (by decide) (by decide) ?_
    intro v_7 h_8 bk_9 O_10 z_11 Q_12
    obtain ⟨rfl, rfl, rfl⟩ := Q_12
    show Run p l e _ s m _ below meth c Z EL1 _ n0 NoB h0 0 0 (mkF m 9 #[.val (.int (0 : Int32)), .val (.int (3 : Int32)), .val (.int (3 : Int32))] [(.int (0 : Int32))]) _
    exact k_retI hx hlk hret (hb hby d418) (by decide) (by decide) ⟨rfl, rfl, rfl⟩
def Q_cbo2 (Z : State) (G1 : Int32) (G3 : Value) (e0 tb : Addr) (kt : ClassId)  (h0 : Heap) (n0 : Nat) (bk : Addr → Prop) (v : Option Value) (h : Heap) (bk' : Addr → Prop) : Prop := v = some (.int (0 : Int32)) ∧ h0 = h ∧ NoB = bk'
abbrev RM_cbo2 : Room := { frames := 1, cells := 0, slots := 0, locals := 15 }
theorem ef_cbo2 (m : MethodId) (x0 : Int32) (x1 : Int32) (x2 : Int32) : entryFrame m #[(.int x0), (.int x1), (.int x2)] 3 = mkF m 0 #[.val (.int x0), .val (.int x1), .val (.int x2)] [] := by first | (simp [entryFrame, mkF, argsToLocals, Value.category]; done) | rfl
set_option maxRecDepth 65536 in
set_option maxHeartbeats 40000000 in
theorem rm_cbo2 (l : Launch) (Z : State) (a0 : Array Value) (G1 : Int32) (G3 : Value) (e0 tb : Addr) (kt : ClassId) (hX : Ctx Z a0 G1 G3) (hY : More Z e0 tb kt) (n0 : Nat) (h0 : Heap) (O0 : Old Z n0 h0)   (ws : List Jvm.Cond) : Met l Z EL1 n0 NoB (⟨"java/lang/String", "checkBoundsOffCount", "(III)I"⟩ : MethodName) jdk_42_method_157_code 3 (Option.some FieldType.int) RM_cbo2 #[(.int (0 : Int32)), (.int (4 : Int32)), (.int (4 : Int32))] h0 (Q_cbo2 Z G1 G3 e0 tb kt  h0 n0 NoB) ws := by
  have hX' := hX
  obtain ⟨hw, hE, S1, P1, S3, P3⟩ := hX'
  have hY' := hY
  obtain ⟨s_e, x_e, f_u, f_n, f_l, f_p, s_t, a_t⟩ := hY'
  have wT : ∀ (i : Nat) {d : Jvm.Cond}, tables_1[i]? = some d → d.before a0 Z = true := fun i d h => hw d (List.mem_of_getElem? h)
  have z0 : n0 ≤ h0.size := by rw [← O0.1]; exact O0.2.1
  refine Met.of (by decide +kernel) O0 hE ?_
  intro p e s m below meth c hx hby hml hret hlk hnm
  refine k_cast (ef_cbo2 m (0 : Int32) (4 : Int32) (4 : Int32)) ?_
  refine k_pure (g' := (mkF m 3 #[.val (.int (0 : Int32)), .val (.int (4 : Int32)), .val (.int (4 : Int32))] [(.int (4 : Int32)), (.int (4 : Int32)), (.int (0 : Int32))])) (fun TT HH tt kk => XS.iloadN HH hx rfl (hb hby d413) rfl (XS.iloadN HH hx rfl (hb hby d414) rfl (XS.iloadN HH hx rfl (hb hby d415) rfl kk))) ?_
  rcases isref P3 with hG | ⟨gA, hG⟩
  · have S3' : Sta Z Z.heap "jdk/internal/util/Preconditions" "SIOOBE_FORMATTER" "Ljava/util/function/BiFunction;" .null := hG ▸ S3
    show Run p l e _ s m _ below meth c Z EL1 _ n0 NoB h0 0 0 (mkF m 3 #[.val (.int (0 : Int32)), .val (.int (4 : Int32)), .val (.int (4 : Int32))] [(.int (4 : Int32)), (.int (4 : Int32)), (.int (0 : Int32))]) _
    refine k_getS hx (host := "") (Or.inl (wT 95 rfl)) Via.refl (S3'.ext O0.2) rfl (hb hby d416) ?_
    show Run p l e _ s m _ below meth c Z EL1 _ n0 NoB h0 0 0 (mkF m 6 #[.val (.int (0 : Int32)), .val (.int (4 : Int32)), .val (.int (4 : Int32))] [.null, (.int (4 : Int32)), (.int (4 : Int32)), (.int (0 : Int32))]) _
    refine k_callS hx (y := (⟨"jdk/internal/util/Preconditions", "checkFromIndexSize", "(IIILjava/util/function/BiFunction;)I"⟩ : MethodName)) (wT 97 rfl) (wT 98 rfl) (wT 96 rfl) (wT 99 rfl) (by decide) (W := 0) (argsL := [(.int (0 : Int32)), (.int (4 : Int32)), (.int (4 : Int32)), .null]) (rest := []) (Pays.of_met (rm_cfi20 l Z a0 G1 G3 e0 tb kt hX hY n0 h0 O0   []) (wT 99 rfl) (wT 96 rfl) (by decide) (by decide)) rfl (by rw [hml]; rfl) (lenOf pd__28_IIILjava_2f_util_2f_function_2f_BiFunction_3b__29_I rfl) rfl (by show 2 * 0 + _ ≤ _; exact Nat.le_of_eq rfl) (hb hby d417) (by decide) (by decide) ?_
    intro v_1 h_2 bk_3 O_4 z_5 Q_6
    obtain ⟨rfl, rfl, rfl⟩ := Q_6
    show Run p l e _ s m _ below meth c Z EL1 _ n0 NoB h0 0 0 (mkF m 9 #[.val (.int (0 : Int32)), .val (.int (4 : Int32)), .val (.int (4 : Int32))] [(.int (0 : Int32))]) _
    exact k_retI hx hlk hret (hb hby d418) (by decide) (by decide) ⟨rfl, rfl, rfl⟩
  · have S3' : Sta Z Z.heap "jdk/internal/util/Preconditions" "SIOOBE_FORMATTER" "Ljava/util/function/BiFunction;" (.ref gA) := hG ▸ S3
    show Run p l e _ s m _ below meth c Z EL1 _ n0 NoB h0 0 0 (mkF m 3 #[.val (.int (0 : Int32)), .val (.int (4 : Int32)), .val (.int (4 : Int32))] [(.int (4 : Int32)), (.int (4 : Int32)), (.int (0 : Int32))]) _
    refine k_getS hx (host := "") (Or.inl (wT 95 rfl)) Via.refl (S3'.ext O0.2) rfl (hb hby d416) ?_
    show Run p l e _ s m _ below meth c Z EL1 _ n0 NoB h0 0 0 (mkF m 6 #[.val (.int (0 : Int32)), .val (.int (4 : Int32)), .val (.int (4 : Int32))] [(.ref gA), (.int (4 : Int32)), (.int (4 : Int32)), (.int (0 : Int32))]) _
    refine k_callS hx (y := (⟨"jdk/internal/util/Preconditions", "checkFromIndexSize", "(IIILjava/util/function/BiFunction;)I"⟩ : MethodName)) (wT 97 rfl) (wT 98 rfl) (wT 96 rfl) (wT 99 rfl) (by decide) (W := 0) (argsL := [(.int (0 : Int32)), (.int (4 : Int32)), (.int (4 : Int32)), (.ref gA)]) (rest := []) (Pays.of_met (rm_cfi21 l Z a0 G1 G3 e0 tb kt hX hY n0 h0 O0 gA  []) (wT 99 rfl) (wT 96 rfl) (by decide) (by decide)) rfl (by rw [hml]; rfl) (lenOf pd__28_IIILjava_2f_util_2f_function_2f_BiFunction_3b__29_I rfl) rfl (by show 2 * 0 + _ ≤ _; exact Nat.le_of_eq rfl) (hb hby d417) (by decide) (by decide) ?_
    intro v_7 h_8 bk_9 O_10 z_11 Q_12
    obtain ⟨rfl, rfl, rfl⟩ := Q_12
    show Run p l e _ s m _ below meth c Z EL1 _ n0 NoB h0 0 0 (mkF m 9 #[.val (.int (0 : Int32)), .val (.int (4 : Int32)), .val (.int (4 : Int32))] [(.int (0 : Int32))]) _
    exact k_retI hx hlk hret (hb hby d418) (by decide) (by decide) ⟨rfl, rfl, rfl⟩
def Q_cbo3 (Z : State) (G1 : Int32) (G3 : Value) (e0 tb : Addr) (kt : ClassId)  (h0 : Heap) (n0 : Nat) (bk : Addr → Prop) (v : Option Value) (h : Heap) (bk' : Addr → Prop) : Prop := v = some (.int (0 : Int32)) ∧ h0 = h ∧ NoB = bk'
abbrev RM_cbo3 : Room := { frames := 1, cells := 0, slots := 0, locals := 15 }
theorem ef_cbo3 (m : MethodId) (x0 : Int32) (x1 : Int32) (x2 : Int32) : entryFrame m #[(.int x0), (.int x1), (.int x2)] 3 = mkF m 0 #[.val (.int x0), .val (.int x1), .val (.int x2)] [] := by first | (simp [entryFrame, mkF, argsToLocals, Value.category]; done) | rfl
set_option maxRecDepth 65536 in
set_option maxHeartbeats 40000000 in
theorem rm_cbo3 (l : Launch) (Z : State) (a0 : Array Value) (G1 : Int32) (G3 : Value) (e0 tb : Addr) (kt : ClassId) (hX : Ctx Z a0 G1 G3) (hY : More Z e0 tb kt) (n0 : Nat) (h0 : Heap) (O0 : Old Z n0 h0)   (ws : List Jvm.Cond) : Met l Z EL1 n0 NoB (⟨"java/lang/String", "checkBoundsOffCount", "(III)I"⟩ : MethodName) jdk_42_method_157_code 3 (Option.some FieldType.int) RM_cbo3 #[(.int (0 : Int32)), (.int (6 : Int32)), (.int (6 : Int32))] h0 (Q_cbo3 Z G1 G3 e0 tb kt  h0 n0 NoB) ws := by
  have hX' := hX
  obtain ⟨hw, hE, S1, P1, S3, P3⟩ := hX'
  have hY' := hY
  obtain ⟨s_e, x_e, f_u, f_n, f_l, f_p, s_t, a_t⟩ := hY'
  have wT : ∀ (i : Nat) {d : Jvm.Cond}, tables_1[i]? = some d → d.before a0 Z = true := fun i d h => hw d (List.mem_of_getElem? h)
  have z0 : n0 ≤ h0.size := by rw [← O0.1]; exact O0.2.1
  refine Met.of (by decide +kernel) O0 hE ?_
  intro p e s m below meth c hx hby hml hret hlk hnm
  refine k_cast (ef_cbo3 m (0 : Int32) (6 : Int32) (6 : Int32)) ?_
  refine k_pure (g' := (mkF m 3 #[.val (.int (0 : Int32)), .val (.int (6 : Int32)), .val (.int (6 : Int32))] [(.int (6 : Int32)), (.int (6 : Int32)), (.int (0 : Int32))])) (fun TT HH tt kk => XS.iloadN HH hx rfl (hb hby d413) rfl (XS.iloadN HH hx rfl (hb hby d414) rfl (XS.iloadN HH hx rfl (hb hby d415) rfl kk))) ?_
  rcases isref P3 with hG | ⟨gA, hG⟩
  · have S3' : Sta Z Z.heap "jdk/internal/util/Preconditions" "SIOOBE_FORMATTER" "Ljava/util/function/BiFunction;" .null := hG ▸ S3
    show Run p l e _ s m _ below meth c Z EL1 _ n0 NoB h0 0 0 (mkF m 3 #[.val (.int (0 : Int32)), .val (.int (6 : Int32)), .val (.int (6 : Int32))] [(.int (6 : Int32)), (.int (6 : Int32)), (.int (0 : Int32))]) _
    refine k_getS hx (host := "") (Or.inl (wT 95 rfl)) Via.refl (S3'.ext O0.2) rfl (hb hby d416) ?_
    show Run p l e _ s m _ below meth c Z EL1 _ n0 NoB h0 0 0 (mkF m 6 #[.val (.int (0 : Int32)), .val (.int (6 : Int32)), .val (.int (6 : Int32))] [.null, (.int (6 : Int32)), (.int (6 : Int32)), (.int (0 : Int32))]) _
    refine k_callS hx (y := (⟨"jdk/internal/util/Preconditions", "checkFromIndexSize", "(IIILjava/util/function/BiFunction;)I"⟩ : MethodName)) (wT 97 rfl) (wT 98 rfl) (wT 96 rfl) (wT 99 rfl) (by decide) (W := 0) (argsL := [(.int (0 : Int32)), (.int (6 : Int32)), (.int (6 : Int32)), .null]) (rest := []) (Pays.of_met (rm_cfi30 l Z a0 G1 G3 e0 tb kt hX hY n0 h0 O0   []) (wT 99 rfl) (wT 96 rfl) (by decide) (by decide)) rfl (by rw [hml]; rfl) (lenOf pd__28_IIILjava_2f_util_2f_function_2f_BiFunction_3b__29_I rfl) rfl (by show 2 * 0 + _ ≤ _; exact Nat.le_of_eq rfl) (hb hby d417) (by decide) (by decide) ?_
    intro v_1 h_2 bk_3 O_4 z_5 Q_6
    obtain ⟨rfl, rfl, rfl⟩ := Q_6
    show Run p l e _ s m _ below meth c Z EL1 _ n0 NoB h0 0 0 (mkF m 9 #[.val (.int (0 : Int32)), .val (.int (6 : Int32)), .val (.int (6 : Int32))] [(.int (0 : Int32))]) _
    exact k_retI hx hlk hret (hb hby d418) (by decide) (by decide) ⟨rfl, rfl, rfl⟩
  · have S3' : Sta Z Z.heap "jdk/internal/util/Preconditions" "SIOOBE_FORMATTER" "Ljava/util/function/BiFunction;" (.ref gA) := hG ▸ S3
    show Run p l e _ s m _ below meth c Z EL1 _ n0 NoB h0 0 0 (mkF m 3 #[.val (.int (0 : Int32)), .val (.int (6 : Int32)), .val (.int (6 : Int32))] [(.int (6 : Int32)), (.int (6 : Int32)), (.int (0 : Int32))]) _
    refine k_getS hx (host := "") (Or.inl (wT 95 rfl)) Via.refl (S3'.ext O0.2) rfl (hb hby d416) ?_
    show Run p l e _ s m _ below meth c Z EL1 _ n0 NoB h0 0 0 (mkF m 6 #[.val (.int (0 : Int32)), .val (.int (6 : Int32)), .val (.int (6 : Int32))] [(.ref gA), (.int (6 : Int32)), (.int (6 : Int32)), (.int (0 : Int32))]) _
    refine k_callS hx (y := (⟨"jdk/internal/util/Preconditions", "checkFromIndexSize", "(IIILjava/util/function/BiFunction;)I"⟩ : MethodName)) (wT 97 rfl) (wT 98 rfl) (wT 96 rfl) (wT 99 rfl) (by decide) (W := 0) (argsL := [(.int (0 : Int32)), (.int (6 : Int32)), (.int (6 : Int32)), (.ref gA)]) (rest := []) (Pays.of_met (rm_cfi31 l Z a0 G1 G3 e0 tb kt hX hY n0 h0 O0 gA  []) (wT 99 rfl) (wT 96 rfl) (by decide) (by decide)) rfl (by rw [hml]; rfl) (lenOf pd__28_IIILjava_2f_util_2f_function_2f_BiFunction_3b__29_I rfl) rfl (by show 2 * 0 + _ ≤ _; exact Nat.le_of_eq rfl) (hb hby d417) (by decide) (by decide) ?_
    intro v_7 h_8 bk_9 O_10 z_11 Q_12
    obtain ⟨rfl, rfl, rfl⟩ := Q_12
    show Run p l e _ s m _ below meth c Z EL1 _ n0 NoB h0 0 0 (mkF m 9 #[.val (.int (0 : Int32)), .val (.int (6 : Int32)), .val (.int (6 : Int32))] [(.int (0 : Int32))]) _
    exact k_retI hx hlk hret (hb hby d418) (by decide) (by decide) ⟨rfl, rfl, rfl⟩
def Q_cor0 (Z : State) (G1 : Int32) (G3 : Value) (e0 tb : Addr) (kt : ClassId) (q : Addr) (kq : ClassId) (h0 : Heap) (n0 : Nat) (bk : Addr → Prop) (v : Option Value) (h : Heap) (bk' : Addr → Prop) : Prop := ∃ (u : Addr), ∃ (ku : ClassId), v = some (.ref u) ∧ NoB = bk' ∧ Keep h0 h [] ∧ (Arv Z h u ku .byte (2 : Int32) [(.int ((en (0 : Int32)).toInt8.toInt32)), (.int ((en (16 : Int32)).toInt8.toInt32))] (.int (0 : Int32))) ∧ (@LE.le Nat _ (Array.size h0) u)
theorem d419 : decode jdk_65_method_132_code 0 = .ok (.iload_n 1, 1) := by decide +kernel
theorem d420 : decode jdk_65_method_132_code 1 = .ok (.ifCond .ne 9, 3) := by decide +kernel
theorem d421 : decode jdk_65_method_132_code 4 = .ok (.iload_n 2, 1) := by decide +kernel
theorem d422 : decode jdk_65_method_132_code 5 = .ok (.aload_n 0, 1) := by decide +kernel
theorem d423 : decode jdk_65_method_132_code 6 = .ok (.arraylength, 1) := by decide +kernel
theorem d424 : decode jdk_65_method_132_code 7 = .ok (.if_icmp .eq 10, 3) := by decide +kernel
theorem d425 : decode jdk_65_method_132_code 17 = .ok (.aload_n 0, 1) := by decide +kernel
theorem d426 : decode jdk_65_method_132_code 18 = .ok (.invokevirtual 310, 3) := by decide +kernel
theorem d427 : decode jdk_65_method_132_code 21 = .ok (.checkcast 311, 3) := by decide +kernel
theorem d428 : decode jdk_65_method_132_code 24 = .ok (.areturn, 1) := by decide +kernel
abbrev RM_cor0 : Room := { frames := 1, cells := 1, slots := 2, locals := 14 }
theorem ef_cor0 (m : MethodId) (x0 : Addr) (x1 : Int32) (x2 : Int32) : entryFrame m #[(.ref x0), (.int x1), (.int x2)] 3 = mkF m 0 #[.val (.ref x0), .val (.int x1), .val (.int x2)] [] := by first | (simp [entryFrame, mkF, argsToLocals, Value.category]; done) | rfl
set_option maxRecDepth 65536 in
set_option maxHeartbeats 40000000 in
theorem rm_cor0 (l : Launch) (Z : State) (a0 : Array Value) (G1 : Int32) (G3 : Value) (e0 tb : Addr) (kt : ClassId) (hX : Ctx Z a0 G1 G3) (hY : More Z e0 tb kt) (n0 : Nat) (h0 : Heap) (O0 : Old Z n0 h0) (q : Addr) (kq : ClassId) (pf_0 : Exa Z h0 q "[B") (pf_1 : Arv Z h0 q kq .byte (2 : Int32) [(.int ((en (0 : Int32)).toInt8.toInt32)), (.int ((en (16 : Int32)).toInt8.toInt32))] (.int (0 : Int32))) (ws : List Jvm.Cond) : Met l Z EL1 n0 NoB (⟨"java/util/Arrays", "copyOfRange", "([BII)[B"⟩ : MethodName) jdk_65_method_132_code 3 (Option.some (FieldType.array FieldType.byte)) RM_cor0 #[(.ref q), (.int (0 : Int32)), (.int (2 : Int32))] h0 (Q_cor0 Z G1 G3 e0 tb kt q kq h0 n0 NoB) ws := by
  have hX' := hX
  obtain ⟨hw, hE, S1, P1, S3, P3⟩ := hX'
  have hY' := hY
  obtain ⟨s_e, x_e, f_u, f_n, f_l, f_p, s_t, a_t⟩ := hY'
  have wT : ∀ (i : Nat) {d : Jvm.Cond}, tables_1[i]? = some d → d.before a0 Z = true := fun i d h => hw d (List.mem_of_getElem? h)
  have z0 : n0 ≤ h0.size := by rw [← O0.1]; exact O0.2.1
  refine Met.of (by decide +kernel) O0 hE ?_
  intro p e s m below meth c hx hby hml hret hlk hnm
  refine k_cast (ef_cor0 m q (0 : Int32) (2 : Int32)) ?_
  show Run p l e _ s m _ below meth c Z EL1 _ n0 NoB h0 0 0 (mkF m 0 #[.val (.ref q), .val (.int (0 : Int32)), .val (.int (2 : Int32))] []) _
  have lt_1 : @LT.lt Nat _ q (Array.size h0) := pf_0.lt
  have lt_2 : @LT.lt Nat _ q (Array.size h0) := pf_1.lt
  refine k_pure (g' := (mkF m 6 #[.val (.ref q), .val (.int (0 : Int32)), .val (.int (2 : Int32))] [(.ref q), (.int (2 : Int32))])) (fun TT HH tt kk => XS.iloadN HH hx rfl (hb hby d419) rfl (XS.ifNo HH hx rfl (hb hby d420) rfl ((if0 _ _).trans (teq (by decide : ((0 : Int32) = (0 : Int32)))).2) (XS.iloadN HH hx rfl (hb hby d421) rfl (XS.aloadN HH hx rfl (hb hby d422) rfl rfl kk)))) ?_
  refine k_alen hx pf_1 rfl rfl (hb hby d423) ?_
  refine k_pure (g' := (mkF m 18 #[.val (.ref q), .val (.int (0 : Int32)), .val (.int (2 : Int32))] [(.ref q)])) (fun TT HH tt kk => XS.icmpYes HH hx rfl (pc0 := 7) (pc' := 17) rfl (hb hby d424) rfl (teq (by decide : ((2 : Int32) = (2 : Int32)))).1 (by decide) (by decide) (XS.aloadN HH hx rfl (hb hby d425) rfl rfl kk)) ?_
  refine k_clone hx (wT 105 rfl) (wT 11 rfl) (wT 15 rfl) (wT 13 rfl) (wT 14 rfl) (wT 16 rfl) pf_1 pf_0 rfl (by rw [hml]; rfl) rfl (hb hby d426) (by decide) (W := 0) (cap := 2) (by show 2 * 0 + _ ≤ _; exact Nat.le_of_eq rfl) (by decide) (by decide) (by decide) (by decide) ?_
  intro h_4 a_3 g_5 O_6 E_7 A_8 X_9
  have z_10 := E_7.1
  have lt_11 : @LT.lt Nat _ a_3 (Array.size h_4) := A_8.lt
  show Run p l e _ s m _ below meth c Z EL1 _ n0 NoB h_4 1 2 (mkF m 21 #[.val (.ref q), .val (.int (0 : Int32)), .val (.int (2 : Int32))] [(.ref a_3)]) _
  refine k_cast' hx (wT 106 rfl) (Ins.self X_9) rfl rfl (hb hby d427) ?_
  show Run p l e _ s m _ below meth c Z EL1 _ n0 NoB h_4 1 2 (mkF m 24 #[.val (.ref q), .val (.int (0 : Int32)), .val (.int (2 : Int32))] [(.ref a_3)]) _
  exact k_retA hx hlk hret rfl rfl rfl (hb hby d428) (by decide) (by decide) ⟨a_3, kq, rfl, rfl, ((Keep.refl _ _).ext E_7), A_8, (by omega)⟩
def Q_cor1 (Z : State) (G1 : Int32) (G3 : Value) (e0 tb : Addr) (kt : ClassId) (q : Addr) (kq : ClassId) (za : Int32) (h0 : Heap) (n0 : Nat) (bk : Addr → Prop) (v : Option Value) (h : Heap) (bk' : Addr → Prop) : Prop := ∃ (u : Addr), ∃ (ku : ClassId), v = some (.ref u) ∧ NoB = bk' ∧ Keep h0 h [] ∧ (Arv Z h u ku .byte (3 : Int32) [(.int ((en (0 : Int32)).toInt8.toInt32)), (.int ((en ((16 : Int32) ||| (za >>> ((4 : Int32) &&& 31)))).toInt8.toInt32)), (.int ((en (((za &&& (15 : Int32)) <<< ((2 : Int32) &&& 31)) ||| (0 : Int32))).toInt8.toInt32))] (.int (0 : Int32))) ∧ (@LE.le Nat _ (Array.size h0) u)
abbrev RM_cor1 : Room := { frames := 1, cells := 1, slots := 3, locals := 14 }
theorem ef_cor1 (m : MethodId) (x0 : Addr) (x1 : Int32) (x2 : Int32) : entryFrame m #[(.ref x0), (.int x1), (.int x2)] 3 = mkF m 0 #[.val (.ref x0), .val (.int x1), .val (.int x2)] [] := by first | (simp [entryFrame, mkF, argsToLocals, Value.category]; done) | rfl
set_option maxRecDepth 65536 in
set_option maxHeartbeats 40000000 in
theorem rm_cor1 (l : Launch) (Z : State) (a0 : Array Value) (G1 : Int32) (G3 : Value) (e0 tb : Addr) (kt : ClassId) (hX : Ctx Z a0 G1 G3) (hY : More Z e0 tb kt) (n0 : Nat) (h0 : Heap) (O0 : Old Z n0 h0) (q : Addr) (kq : ClassId) (za : Int32) (pf_0 : Exa Z h0 q "[B") (pf_1 : Arv Z h0 q kq .byte (3 : Int32) [(.int ((en (0 : Int32)).toInt8.toInt32)), (.int ((en ((16 : Int32) ||| (za >>> ((4 : Int32) &&& 31)))).toInt8.toInt32)), (.int ((en (((za &&& (15 : Int32)) <<< ((2 : Int32) &&& 31)) ||| (0 : Int32))).toInt8.toInt32))] (.int (0 : Int32))) (ws : List Jvm.Cond) : Met l Z EL1 n0 NoB (⟨"java/util/Arrays", "copyOfRange", "([BII)[B"⟩ : MethodName) jdk_65_method_132_code 3 (Option.some (FieldType.array FieldType.byte)) RM_cor1 #[(.ref q), (.int (0 : Int32)), (.int (3 : Int32))] h0 (Q_cor1 Z G1 G3 e0 tb kt q kq za h0 n0 NoB) ws := by
  have hX' := hX
  obtain ⟨hw, hE, S1, P1, S3, P3⟩ := hX'
  have hY' := hY
  obtain ⟨s_e, x_e, f_u, f_n, f_l, f_p, s_t, a_t⟩ := hY'
  have wT : ∀ (i : Nat) {d : Jvm.Cond}, tables_1[i]? = some d → d.before a0 Z = true := fun i d h => hw d (List.mem_of_getElem? h)
  have z0 : n0 ≤ h0.size := by rw [← O0.1]; exact O0.2.1
  refine Met.of (by decide +kernel) O0 hE ?_
  intro p e s m below meth c hx hby hml hret hlk hnm
  refine k_cast (ef_cor1 m q (0 : Int32) (3 : Int32)) ?_
  show Run p l e _ s m _ below meth c Z EL1 _ n0 NoB h0 0 0 (mkF m 0 #[.val (.ref q), .val (.int (0 : Int32)), .val (.int (3 : Int32))] []) _
  have lt_1 : @LT.lt Nat _ q (Array.size h0) := pf_0.lt
  have lt_2 : @LT.lt Nat _ q (Array.size h0) := pf_1.lt
  refine k_pure (g' := (mkF m 6 #[.val (.ref q), .val (.int (0 : Int32)), .val (.int (3 : Int32))] [(.ref q), (.int (3 : Int32))])) (fun TT HH tt kk => XS.iloadN HH hx rfl (hb hby d419) rfl (XS.ifNo HH hx rfl (hb hby d420) rfl ((if0 _ _).trans (teq (by decide : ((0 : Int32) = (0 : Int32)))).2) (XS.iloadN HH hx rfl (hb hby d421) rfl (XS.aloadN HH hx rfl (hb hby d422) rfl rfl kk)))) ?_
  refine k_alen hx pf_1 rfl rfl (hb hby d423) ?_
  refine k_pure (g' := (mkF m 18 #[.val (.ref q), .val (.int (0 : Int32)), .val (.int (3 : Int32))] [(.ref q)])) (fun TT HH tt kk => XS.icmpYes HH hx rfl (pc0 := 7) (pc' := 17) rfl (hb hby d424) rfl (teq (by decide : ((3 : Int32) = (3 : Int32)))).1 (by decide) (by decide) (XS.aloadN HH hx rfl (hb hby d425) rfl rfl kk)) ?_
  refine k_clone hx (wT 105 rfl) (wT 11 rfl) (wT 15 rfl) (wT 13 rfl) (wT 14 rfl) (wT 16 rfl) pf_1 pf_0 rfl (by rw [hml]; rfl) rfl (hb hby d426) (by decide) (W := 0) (cap := 3) (by show 2 * 0 + _ ≤ _; exact Nat.le_of_eq rfl) (by decide) (by decide) (by decide) (by decide) ?_
  intro h_4 a_3 g_5 O_6 E_7 A_8 X_9
  have z_10 := E_7.1
  have lt_11 : @LT.lt Nat _ a_3 (Array.size h_4) := A_8.lt
  show Run p l e _ s m _ below meth c Z EL1 _ n0 NoB h_4 1 3 (mkF m 21 #[.val (.ref q), .val (.int (0 : Int32)), .val (.int (3 : Int32))] [(.ref a_3)]) _
  refine k_cast' hx (wT 106 rfl) (Ins.self X_9) rfl rfl (hb hby d427) ?_
  show Run p l e _ s m _ below meth c Z EL1 _ n0 NoB h_4 1 3 (mkF m 24 #[.val (.ref q), .val (.int (0 : Int32)), .val (.int (3 : Int32))] [(.ref a_3)]) _
  exact k_retA hx hlk hret rfl rfl rfl (hb hby d428) (by decide) (by decide) ⟨a_3, kq, rfl, rfl, ((Keep.refl _ _).ext E_7), A_8, (by omega)⟩
def Q_cor2 (Z : State) (G1 : Int32) (G3 : Value) (e0 tb : Addr) (kt : ClassId) (q : Addr) (kq : ClassId) (za : Int32) (zb : Int32) (h0 : Heap) (n0 : Nat) (bk : Addr → Prop) (v : Option Value) (h : Heap) (bk' : Addr → Prop) : Prop := ∃ (u : Addr), ∃ (ku : ClassId), v = some (.ref u) ∧ NoB = bk' ∧ Keep h0 h [] ∧ (Arv Z h u ku .byte (4 : Int32) [(.int ((en (0 : Int32)).toInt8.toInt32)), (.int ((en ((16 : Int32) ||| (za >>> ((4 : Int32) &&& 31)))).toInt8.toInt32)), (.int ((en (((za &&& (15 : Int32)) <<< ((2 : Int32) &&& 31)) ||| (zb >>> ((6 : Int32) &&& 31)))).toInt8.toInt32)), (.int ((en (zb &&& (63 : Int32))).toInt8.toInt32))] (.int (0 : Int32))) ∧ (@LE.le Nat _ (Array.size h0) u)
abbrev RM_cor2 : Room := { frames := 1, cells := 1, slots := 4, locals := 14 }
theorem ef_cor2 (m : MethodId) (x0 : Addr) (x1 : Int32) (x2 : Int32) : entryFrame m #[(.ref x0), (.int x1), (.int x2)] 3 = mkF m 0 #[.val (.ref x0), .val (.int x1), .val (.int x2)] [] := by first | (simp [entryFrame, mkF, argsToLocals, Value.category]; done) | rfl
set_option maxRecDepth 65536 in
set_option maxHeartbeats 40000000 in
theorem rm_cor2 (l : Launch) (Z : State) (a0 : Array Value) (G1 : Int32) (G3 : Value) (e0 tb : Addr) (kt : ClassId) (hX : Ctx Z a0 G1 G3) (hY : More Z e0 tb kt) (n0 : Nat) (h0 : Heap) (O0 : Old Z n0 h0) (q : Addr) (kq : ClassId) (za : Int32) (zb : Int32) (pf_0 : Exa Z h0 q "[B") (pf_1 : Arv Z h0 q kq .byte (4 : Int32) [(.int ((en (0 : Int32)).toInt8.toInt32)), (.int ((en ((16 : Int32) ||| (za >>> ((4 : Int32) &&& 31)))).toInt8.toInt32)), (.int ((en (((za &&& (15 : Int32)) <<< ((2 : Int32) &&& 31)) ||| (zb >>> ((6 : Int32) &&& 31)))).toInt8.toInt32)), (.int ((en (zb &&& (63 : Int32))).toInt8.toInt32))] (.int (0 : Int32))) (ws : List Jvm.Cond) : Met l Z EL1 n0 NoB (⟨"java/util/Arrays", "copyOfRange", "([BII)[B"⟩ : MethodName) jdk_65_method_132_code 3 (Option.some (FieldType.array FieldType.byte)) RM_cor2 #[(.ref q), (.int (0 : Int32)), (.int (4 : Int32))] h0 (Q_cor2 Z G1 G3 e0 tb kt q kq za zb h0 n0 NoB) ws := by
  have hX' := hX
  obtain ⟨hw, hE, S1, P1, S3, P3⟩ := hX'
  have hY' := hY
  obtain ⟨s_e, x_e, f_u, f_n, f_l, f_p, s_t, a_t⟩ := hY'
  have wT : ∀ (i : Nat) {d : Jvm.Cond}, tables_1[i]? = some d → d.before a0 Z = true := fun i d h => hw d (List.mem_of_getElem? h)
  have z0 : n0 ≤ h0.size := by rw [← O0.1]; exact O0.2.1
  refine Met.of (by decide +kernel) O0 hE ?_
  intro p e s m below meth c hx hby hml hret hlk hnm
  refine k_cast (ef_cor2 m q (0 : Int32) (4 : Int32)) ?_
  show Run p l e _ s m _ below meth c Z EL1 _ n0 NoB h0 0 0 (mkF m 0 #[.val (.ref q), .val (.int (0 : Int32)), .val (.int (4 : Int32))] []) _
  have lt_1 : @LT.lt Nat _ q (Array.size h0) := pf_0.lt
  have lt_2 : @LT.lt Nat _ q (Array.size h0) := pf_1.lt
  refine k_pure (g' := (mkF m 6 #[.val (.ref q), .val (.int (0 : Int32)), .val (.int (4 : Int32))] [(.ref q), (.int (4 : Int32))])) (fun TT HH tt kk => XS.iloadN HH hx rfl (hb hby d419) rfl (XS.ifNo HH hx rfl (hb hby d420) rfl ((if0 _ _).trans (teq (by decide : ((0 : Int32) = (0 : Int32)))).2) (XS.iloadN HH hx rfl (hb hby d421) rfl (XS.aloadN HH hx rfl (hb hby d422) rfl rfl kk)))) ?_
  refine k_alen hx pf_1 rfl rfl (hb hby d423) ?_
  refine k_pure (g' := (mkF m 18 #[.val (.ref q), .val (.int (0 : Int32)), .val (.int (4 : Int32))] [(.ref q)])) (fun TT HH tt kk => XS.icmpYes HH hx rfl (pc0 := 7) (pc' := 17) rfl (hb hby d424) rfl (teq (by decide : ((4 : Int32) = (4 : Int32)))).1 (by decide) (by decide) (XS.aloadN HH hx rfl (hb hby d425) rfl rfl kk)) ?_
  refine k_clone hx (wT 105 rfl) (wT 11 rfl) (wT 15 rfl) (wT 13 rfl) (wT 14 rfl) (wT 16 rfl) pf_1 pf_0 rfl (by rw [hml]; rfl) rfl (hb hby d426) (by decide) (W := 0) (cap := 4) (by show 2 * 0 + _ ≤ _; exact Nat.le_of_eq rfl) (by decide) (by decide) (by decide) (by decide) ?_
  intro h_4 a_3 g_5 O_6 E_7 A_8 X_9
  have z_10 := E_7.1
  have lt_11 : @LT.lt Nat _ a_3 (Array.size h_4) := A_8.lt
  show Run p l e _ s m _ below meth c Z EL1 _ n0 NoB h_4 1 4 (mkF m 21 #[.val (.ref q), .val (.int (0 : Int32)), .val (.int (4 : Int32))] [(.ref a_3)]) _
  refine k_cast' hx (wT 106 rfl) (Ins.self X_9) rfl rfl (hb hby d427) ?_
  show Run p l e _ s m _ below meth c Z EL1 _ n0 NoB h_4 1 4 (mkF m 24 #[.val (.ref q), .val (.int (0 : Int32)), .val (.int (4 : Int32))] [(.ref a_3)]) _
  exact k_retA hx hlk hret rfl rfl rfl (hb hby d428) (by decide) (by decide) ⟨a_3, kq, rfl, rfl, ((Keep.refl _ _).ext E_7), A_8, (by omega)⟩
def Q_cor3 (Z : State) (G1 : Int32) (G3 : Value) (e0 tb : Addr) (kt : ClassId) (q : Addr) (kq : ClassId) (za : Int32) (zb : Int32) (zc : Int32) (h0 : Heap) (n0 : Nat) (bk : Addr → Prop) (v : Option Value) (h : Heap) (bk' : Addr → Prop) : Prop := ∃ (u : Addr), ∃ (ku : ClassId), v = some (.ref u) ∧ NoB = bk' ∧ Keep h0 h [] ∧ (Arv Z h u ku .byte (6 : Int32) [(.int ((en (0 : Int32)).toInt8.toInt32)), (.int ((en ((16 : Int32) ||| (za >>> ((4 : Int32) &&& 31)))).toInt8.toInt32)), (.int ((en (((za &&& (15 : Int32)) <<< ((2 : Int32) &&& 31)) ||| (zb >>> ((6 : Int32) &&& 31)))).toInt8.toInt32)), (.int ((en (zb &&& (63 : Int32))).toInt8.toInt32)), (.int ((en (zc >>> ((2 : Int32) &&& 31))).toInt8.toInt32)), (.int ((en ((zc &&& (3 : Int32)) <<< ((4 : Int32) &&& 31))).toInt8.toInt32))] (.int (0 : Int32))) ∧ (@LE.le Nat _ (Array.size h0) u)
abbrev RM_cor3 : Room := { frames := 1, cells := 1, slots := 6, locals := 14 }
theorem ef_cor3 (m : MethodId) (x0 : Addr) (x1 : Int32) (x2 : Int32) : entryFrame m #[(.ref x0), (.int x1), (.int x2)] 3 = mkF m 0 #[.val (.ref x0), .val (.int x1), .val (.int x2)] [] := by first | (simp [entryFrame, mkF, argsToLocals, Value.category]; done) | rfl
set_option maxRecDepth 65536 in
set_option maxHeartbeats 40000000 in
theorem rm_cor3 (l : Launch) (Z : State) (a0 : Array Value) (G1 : Int32) (G3 : Value) (e0 tb : Addr) (kt : ClassId) (hX : Ctx Z a0 G1 G3) (hY : More Z e0 tb kt) (n0 : Nat) (h0 : Heap) (O0 : Old Z n0 h0) (q : Addr) (kq : ClassId) (za : Int32) (zb : Int32) (zc : Int32) (pf_0 : Exa Z h0 q "[B") (pf_1 : Arv Z h0 q kq .byte (6 : Int32) [(.int ((en (0 : Int32)).toInt8.toInt32)), (.int ((en ((16 : Int32) ||| (za >>> ((4 : Int32) &&& 31)))).toInt8.toInt32)), (.int ((en (((za &&& (15 : Int32)) <<< ((2 : Int32) &&& 31)) ||| (zb >>> ((6 : Int32) &&& 31)))).toInt8.toInt32)), (.int ((en (zb &&& (63 : Int32))).toInt8.toInt32)), (.int ((en (zc >>> ((2 : Int32) &&& 31))).toInt8.toInt32)), (.int ((en ((zc &&& (3 : Int32)) <<< ((4 : Int32) &&& 31))).toInt8.toInt32))] (.int (0 : Int32))) (ws : List Jvm.Cond) : Met l Z EL1 n0 NoB (⟨"java/util/Arrays", "copyOfRange", "([BII)[B"⟩ : MethodName) jdk_65_method_132_code 3 (Option.some (FieldType.array FieldType.byte)) RM_cor3 #[(.ref q), (.int (0 : Int32)), (.int (6 : Int32))] h0 (Q_cor3 Z G1 G3 e0 tb kt q kq za zb zc h0 n0 NoB) ws := by
  have hX' := hX
  obtain ⟨hw, hE, S1, P1, S3, P3⟩ := hX'
  have hY' := hY
  obtain ⟨s_e, x_e, f_u, f_n, f_l, f_p, s_t, a_t⟩ := hY'
  have wT : ∀ (i : Nat) {d : Jvm.Cond}, tables_1[i]? = some d → d.before a0 Z = true := fun i d h => hw d (List.mem_of_getElem? h)
  have z0 : n0 ≤ h0.size := by rw [← O0.1]; exact O0.2.1
  refine Met.of (by decide +kernel) O0 hE ?_
  intro p e s m below meth c hx hby hml hret hlk hnm
  refine k_cast (ef_cor3 m q (0 : Int32) (6 : Int32)) ?_
  show Run p l e _ s m _ below meth c Z EL1 _ n0 NoB h0 0 0 (mkF m 0 #[.val (.ref q), .val (.int (0 : Int32)), .val (.int (6 : Int32))] []) _
  have lt_1 : @LT.lt Nat _ q (Array.size h0) := pf_0.lt
  have lt_2 : @LT.lt Nat _ q (Array.size h0) := pf_1.lt
  refine k_pure (g' := (mkF m 6 #[.val (.ref q), .val (.int (0 : Int32)), .val (.int (6 : Int32))] [(.ref q), (.int (6 : Int32))])) (fun TT HH tt kk => XS.iloadN HH hx rfl (hb hby d419) rfl (XS.ifNo HH hx rfl (hb hby d420) rfl ((if0 _ _).trans (teq (by decide : ((0 : Int32) = (0 : Int32)))).2) (XS.iloadN HH hx rfl (hb hby d421) rfl (XS.aloadN HH hx rfl (hb hby d422) rfl rfl kk)))) ?_
  refine k_alen hx pf_1 rfl rfl (hb hby d423) ?_
  refine k_pure (g' := (mkF m 18 #[.val (.ref q), .val (.int (0 : Int32)), .val (.int (6 : Int32))] [(.ref q)])) (fun TT HH tt kk => XS.icmpYes HH hx rfl (pc0 := 7) (pc' := 17) rfl (hb hby d424) rfl (teq (by decide : ((6 : Int32) = (6 : Int32)))).1 (by decide) (by decide) (XS.aloadN HH hx rfl (hb hby d425) rfl rfl kk)) ?_
  refine k_clone hx (wT 105 rfl) (wT 11 rfl) (wT 15 rfl) (wT 13 rfl) (wT 14 rfl) (wT 16 rfl) pf_1 pf_0 rfl (by rw [hml]; rfl) rfl (hb hby d426) (by decide) (W := 0) (cap := 6) (by show 2 * 0 + _ ≤ _; exact Nat.le_of_eq rfl) (by decide) (by decide) (by decide) (by decide) ?_
  intro h_4 a_3 g_5 O_6 E_7 A_8 X_9
  have z_10 := E_7.1
  have lt_11 : @LT.lt Nat _ a_3 (Array.size h_4) := A_8.lt
  show Run p l e _ s m _ below meth c Z EL1 _ n0 NoB h_4 1 6 (mkF m 21 #[.val (.ref q), .val (.int (0 : Int32)), .val (.int (6 : Int32))] [(.ref a_3)]) _
  refine k_cast' hx (wT 106 rfl) (Ins.self X_9) rfl rfl (hb hby d427) ?_
  show Run p l e _ s m _ below meth c Z EL1 _ n0 NoB h_4 1 6 (mkF m 24 #[.val (.ref q), .val (.int (0 : Int32)), .val (.int (6 : Int32))] [(.ref a_3)]) _
  exact k_retA hx hlk hret rfl rfl rfl (hb hby d428) (by decide) (by decide) ⟨a_3, kq, rfl, rfl, ((Keep.refl _ _).ext E_7), A_8, (by omega)⟩
def Q_sbi0 (Z : State) (G1 : Int32) (G3 : Value) (e0 tb : Addr) (kt : ClassId) (x : Addr) (q : Addr) (kq : ClassId) (h0 : Heap) (n0 : Nat) (bk : Addr → Prop) (v : Option Value) (h : Heap) (bk' : Addr → Prop) : Prop := ∃ (u : Addr), ∃ (ku : ClassId), v = none ∧ NoB = bk' ∧ Keep h0 h [x] ∧ (StrL Z h x u ku [en (0 : Int32), en (16 : Int32)])
theorem d429 : decode jdk_42_method_7_code 0 = .ok (.aload_n 0, 1) := by decide +kernel
theorem d430 : decode jdk_42_method_7_code 1 = .ok (.invokespecial 1, 3) := by decide +kernel
theorem d431 : decode jdk_42_method_7_code 4 = .ok (.iload_n 3, 1) := by decide +kernel
theorem d432 : decode jdk_42_method_7_code 5 = .ok (.iload 4, 2) := by decide +kernel
theorem d433 : decode jdk_42_method_7_code 7 = .ok (.aload_n 1, 1) := by decide +kernel
theorem d434 : decode jdk_42_method_7_code 8 = .ok (.arraylength, 1) := by decide +kernel
theorem d435 : decode jdk_42_method_7_code 9 = .ok (.invokestatic 34, 3) := by decide +kernel
theorem pd__28_III_29_I : parseMethodDescriptor "(III)I" = some ⟨[.int, .int, .int], some .int⟩ := by decide +kernel
theorem d436 : decode jdk_42_method_7_code 12 = .ok (.pop, 1) := by decide +kernel
theorem d437 : decode jdk_42_method_7_code 13 = .ok (.iload 4, 2) := by decide +kernel
theorem d438 : decode jdk_42_method_7_code 15 = .ok (.ifCond .ne 22, 3) := by decide +kernel
theorem d439 : decode jdk_42_method_7_code 37 = .ok (.getstatic 38, 3) := by decide +kernel
theorem d440 : decode jdk_42_method_7_code 40 = .ok (.ifCond .eq 29, 3) := by decide +kernel
theorem d441 : decode jdk_42_method_7_code 43 = .ok (.iload_n 2, 1) := by decide +kernel
theorem d442 : decode jdk_42_method_7_code 44 = .ok (.i2b, 1) := by decide +kernel
theorem d443 : decode jdk_42_method_7_code 45 = .ok (.ifCond .ne 24, 3) := by decide +kernel
theorem d444 : decode jdk_42_method_7_code 48 = .ok (.aload_n 0, 1) := by decide +kernel
theorem d445 : decode jdk_42_method_7_code 49 = .ok (.aload_n 1, 1) := by decide +kernel
theorem d446 : decode jdk_42_method_7_code 50 = .ok (.iload_n 3, 1) := by decide +kernel
theorem d447 : decode jdk_42_method_7_code 51 = .ok (.iload_n 3, 1) := by decide +kernel
theorem d448 : decode jdk_42_method_7_code 52 = .ok (.iload 4, 2) := by decide +kernel
theorem d449 : decode jdk_42_method_7_code 54 = .ok (.iadd, 1) := by decide +kernel
theorem d450 : decode jdk_42_method_7_code 55 = .ok (.invokestatic 54, 3) := by decide +kernel
theorem pd__28__5b_BII_29__5b_B : parseMethodDescriptor "([BII)[B" = some ⟨[(.array .byte), .int, .int], some (.array .byte)⟩ := by decide +kernel
theorem d451 : decode jdk_42_method_7_code 58 = .ok (.putfield 9, 3) := by decide +kernel
theorem d452 : decode jdk_42_method_7_code 61 = .ok (.aload_n 0, 1) := by decide +kernel
theorem d453 : decode jdk_42_method_7_code 62 = .ok (.iconst 0, 1) := by decide +kernel
theorem d454 : decode jdk_42_method_7_code 63 = .ok (.putfield 15, 3) := by decide +kernel
theorem d455 : decode jdk_42_method_7_code 66 = .ok (.goto 61, 3) := by decide +kernel
theorem d456 : decode jdk_42_method_7_code 127 = .ok (.return_, 1) := by decide +kernel
abbrev RM_sbi0 : Room := { frames := 2, cells := 1, slots := 2, locals := 29 }
theorem ef_sbi0 (m : MethodId) (x0 : Addr) (x1 : Addr) (x2 : Int32) (x3 : Int32) (x4 : Int32) : entryFrame m #[(.ref x0), (.ref x1), (.int x2), (.int x3), (.int x4)] 7 = mkF m 0 #[.val (.ref x0), .val (.ref x1), .val (.int x2), .val (.int x3), .val (.int x4), .unset, .unset] [] := by first | (simp [entryFrame, mkF, argsToLocals, Value.category]; done) | rfl
set_option maxRecDepth 65536 in
set_option maxHeartbeats 40000000 in
theorem rm_sbi0 (l : Launch) (Z : State) (a0 : Array Value) (G1 : Int32) (G3 : Value) (e0 tb : Addr) (kt : ClassId) (hX : Ctx Z a0 G1 G3) (hY : More Z e0 tb kt) (n0 : Nat) (h0 : Heap) (O0 : Old Z n0 h0) (x : Addr) (q : Addr) (kq : ClassId) (pf_0 : Exa Z h0 x "java/lang/String") (pf_1 : Fld Z h0 x "java/lang/String" "value" "[B" .null) (pf_2 : Fld Z h0 x "java/lang/String" "coder" "B" (.int (0 : Int32))) (pf_3 : Exa Z h0 q "[B") (pf_4 : Arv Z h0 q kq .byte (2 : Int32) [(.int ((en (0 : Int32)).toInt8.toInt32)), (.int ((en (16 : Int32)).toInt8.toInt32))] (.int (0 : Int32))) (gx : n0 ≤ x) (xq : @Ne Nat x q) (ws : List Jvm.Cond) : Met l Z EL1 n0 NoB (⟨"java/lang/String", "<init>", "([BIII)V"⟩ : MethodName) jdk_42_method_7_code 7 (Option.none : Option FieldType) RM_sbi0 #[(.ref x), (.ref q), (.int (0 : Int32)), (.int (0 : Int32)), (.int (2 : Int32))] h0 (Q_sbi0 Z G1 G3 e0 tb kt x q kq h0 n0 NoB) ws := by
  have hX' := hX
  obtain ⟨hw, hE, S1, P1, S3, P3⟩ := hX'
  have hY' := hY
  obtain ⟨s_e, x_e, f_u, f_n, f_l, f_p, s_t, a_t⟩ := hY'
  have wT : ∀ (i : Nat) {d : Jvm.Cond}, tables_1[i]? = some d → d.before a0 Z = true := fun i d h => hw d (List.mem_of_getElem? h)
  have z0 : n0 ≤ h0.size := by rw [← O0.1]; exact O0.2.1
  refine Met.of (by decide +kernel) O0 hE ?_
  intro p e s m below meth c hx hby hml hret hlk hnm
  refine k_cast (ef_sbi0 m x q (0 : Int32) (0 : Int32) (2 : Int32)) ?_
  show Run p l e _ s m _ below meth c Z EL1 _ n0 NoB h0 0 0 (mkF m 0 #[.val (.ref x), .val (.ref q), .val (.int (0 : Int32)), .val (.int (0 : Int32)), .val (.int (2 : Int32)), .unset, .unset] []) _
  have lt_1 : @LT.lt Nat _ x (Array.size h0) := pf_0.lt
  have lt_2 : @LT.lt Nat _ x (Array.size h0) := pf_1.lt
  have lt_3 : @LT.lt Nat _ x (Array.size h0) := pf_2.lt
  have lt_4 : @LT.lt Nat _ q (Array.size h0) := pf_3.lt
  have lt_5 : @LT.lt Nat _ q (Array.size h0) := pf_4.lt
  refine k_pure (g' := (mkF m 1 #[.val (.ref x), .val (.ref q), .val (.int (0 : Int32)), .val (.int (0 : Int32)), .val (.int (2 : Int32)), .unset, .unset] [(.ref x)])) (fun _ J _ j => XS.aloadN J hx rfl (hb hby d429) rfl rfl j) ?_
  refine k_initO hx (wT 91 rfl) (wT 8 rfl) (wT 9 rfl) rfl (by rw [hml]; rfl) rfl (hb hby d430) (by decide) (W := 0) (by show 2 * 0 + _ ≤ _; exact Nat.le_of_eq rfl) (by decide) ?_
  refine k_pure (g' := (mkF m 8 #[.val (.ref x), .val (.ref q), .val (.int (0 : Int32)), .val (.int (0 : Int32)), .val (.int (2 : Int32)), .unset, .unset] [(.ref q), (.int (2 : Int32)), (.int (0 : Int32))])) (fun TT HH tt kk => XS.iloadN HH hx rfl (hb hby d431) rfl (XS.iload HH hx rfl (hb hby d432) rfl (XS.aloadN HH hx rfl (hb hby d433) rfl rfl kk))) ?_
  refine k_alen hx pf_4 rfl rfl (hb hby d434) ?_
  show Run p l e _ s m _ below meth c Z EL1 _ n0 NoB h0 0 0 (mkF m 9 #[.val (.ref x), .val (.ref q), .val (.int (0 : Int32)), .val (.int (0 : Int32)), .val (.int (2 : Int32)), .unset, .unset] [(.int (2 : Int32)), (.int (2 : Int32)), (.int (0 : Int32))]) _
  refine k_callS hx (y := (⟨"java/lang/String", "checkBoundsOffCount", "(III)I"⟩ : MethodName)) (wT 92 rfl) (wT 93 rfl) (wT 86 rfl) (wT 94 rfl) (by decide) (W := 0) (argsL := [(.int (0 : Int32)), (.int (2 : Int32)), (.int (2 : Int32))]) (rest := []) (Pays.of_met (rm_cbo0 l Z a0 G1 G3 e0 tb kt hX hY n0 h0 O0   []) (wT 94 rfl) (wT 86 rfl) (by decide) (by decide)) rfl (by rw [hml]; rfl) (lenOf pd__28_III_29_I rfl) rfl (by show 2 * 0 + _ ≤ _; exact Nat.le_of_eq rfl) (hb hby d435) (by decide) (by decide) ?_
  intro v_6 h_7 bk_8 O_9 z_10 Q_11
  obtain ⟨rfl, rfl, rfl⟩ := Q_11
  refine k_pure (g' := (mkF m 37 #[.val (.ref x), .val (.ref q), .val (.int (0 : Int32)), .val (.int (0 : Int32)), .val (.int (2 : Int32)), .unset, .unset] [])) (fun TT HH tt kk => XS.pop HH hx rfl (hb hby d436) rfl rfl (XS.iload HH hx rfl (hb hby d437) rfl (XS.ifYes HH hx rfl (pc0 := 15) (pc' := 37) rfl (hb hby d438) rfl ((if0 _ _).trans (feq (by decide : ¬ ((2 : Int32) = (0 : Int32)))).2) (by decide) (by decide) kk))) ?_
  refine k_getS hx (host := "") (Or.inl (wT 100 rfl)) Via.refl (S1.ext O0.2) rfl (hb hby d439) ?_
  refine k_pure (g' := (mkF m 48 #[.val (.ref x), .val (.ref q), .val (.int (0 : Int32)), .val (.int (0 : Int32)), .val (.int (2 : Int32)), .unset, .unset] [])) (fun TT HH tt kk => XS.ifNo HH hx rfl (hb hby d440) rfl ((if0 _ _).trans (feq P1).1) (XS.iloadN HH hx rfl (hb hby d441) rfl (XS.i2b HH hx rfl (hb hby d442) rfl (XS.ifNo HH hx rfl (hb hby d443) rfl ((if0 _ _).trans (teq (by decide : ((0 : Int32) = (0 : Int32)))).2) kk)))) ?_
  refine k_pure (g' := (mkF m 52 #[.val (.ref x), .val (.ref q), .val (.int (0 : Int32)), .val (.int (0 : Int32)), .val (.int (2 : Int32)), .unset, .unset] [(.int (0 : Int32)), (.int (0 : Int32)), (.ref q), (.ref x)])) (fun TT HH tt kk => XS.aloadN HH hx rfl (hb hby d444) rfl rfl (XS.aloadN HH hx rfl (hb hby d445) rfl rfl (XS.iloadN HH hx rfl (hb hby d446) rfl (XS.iloadN HH hx rfl (hb hby d447) rfl kk)))) ?_
  refine k_pure (g' := (mkF m 55 #[.val (.ref x), .val (.ref q), .val (.int (0 : Int32)), .val (.int (0 : Int32)), .val (.int (2 : Int32)), .unset, .unset] [(.int (2 : Int32)), (.int (0 : Int32)), (.ref q), (.ref x)])) (fun TT HH tt kk => XS.iload HH hx rfl (hb hby d448) rfl (XS.iadd HH hx rfl (hb hby d449) rfl kk)) ?_
  refine k_callS hx (y := (⟨"java/util/Arrays", "copyOfRange", "([BII)[B"⟩ : MethodName)) (wT 101 rfl) (wT 102 rfl) (wT 103 rfl) (wT 104 rfl) (by decide) (W := 1) (argsL := [(.ref q), (.int (0 : Int32)), (.int (2 : Int32))]) (rest := [(.ref x)]) (Pays.of_met (rm_cor0 l Z a0 G1 G3 e0 tb kt hX hY n0 h0 O0 q kq pf_3 pf_4 []) (wT 104 rfl) (wT 103 rfl) (by decide) (by decide)) rfl (by rw [hml]; rfl) (lenOf pd__28__5b_BII_29__5b_B rfl) rfl (by show 2 * 0 + _ ≤ _; exact Nat.le_of_eq rfl) (hb hby d450) (by decide) (by decide) ?_
  intro v_12 h_13 bk_14 O_15 z_16 Q_17
  obtain ⟨a_18, k_19, rfl, rfl, K_20, F_21, P_22⟩ := Q_17
  have lt_23 : @LT.lt Nat _ a_18 (Array.size h_13) := F_21.lt
  show Run p l e _ s m _ below meth c Z EL1 _ n0 NoB h_13 1 2 (mkF m 58 #[.val (.ref x), .val (.ref q), .val (.int (0 : Int32)), .val (.int (0 : Int32)), .val (.int (2 : Int32)), .unset, .unset] [(.ref a_18), (.ref x)]) _
  have F_24 : Fld Z h_13 x "java/lang/String" "value" "[B" .null := (pf_1.keep K_20 nin0)
  have F_25 : Exa Z h_13 x "java/lang/String" := (pf_0.keep K_20)
  refine k_putF hx (host := "") (Or.inl (wT 107 rfl)) Via.refl F_24 F_25 (Or.inr ⟨(wT 108 rfl), rfl, hnm⟩) (wT 85 rfl) (ty := (.array .byte)) (by decide) rfl rfl (by omega) (fun q => q) rfl rfl (hb hby d451) ?_
  intro h_26 O_28 W_27
  have z_29 := W_27.size
  refine k_pure (g' := (mkF m 63 #[.val (.ref x), .val (.ref q), .val (.int (0 : Int32)), .val (.int (0 : Int32)), .val (.int (2 : Int32)), .unset, .unset] [(.int (0 : Int32)), (.ref x)])) (fun TT HH tt kk => XS.aloadN HH hx rfl (hb hby d452) rfl rfl (XS.iconst HH hx rfl (hb hby d453) kk)) ?_
  have F_30 : Fld Z h_26 x "java/lang/String" "coder" "B" (.int (0 : Int32)) := ((pf_2.keep K_20 nin0).other W_27 (Or.inr (RoadKit.slot_ne (C := "java/lang/String") (Or.inr (wT 110 rfl)) (Or.inr (wT 108 rfl)) (by decide) (t := .byte) (t' := (.array .byte)) (by decide) (by decide))))
  have F_31 : Exa Z h_26 x "java/lang/String" := (F_25.wr W_27)
  refine k_putF hx (host := "") (Or.inl (wT 109 rfl)) Via.refl F_30 F_31 (Or.inr ⟨(wT 110 rfl), rfl, hnm⟩) (wT 85 rfl) (ty := .byte) (by decide) rfl rfl (by omega) (fun q => q) rfl rfl (hb hby d454) ?_
  intro h_32 O_34 W_33
  have z_35 := W_33.size
  refine k_pure (g' := (mkF m 127 #[.val (.ref x), .val (.ref q), .val (.int (0 : Int32)), .val (.int (0 : Int32)), .val (.int (2 : Int32)), .unset, .unset] [])) (fun _ J _ j => XS.goto J hx rfl (pc0 := 66) (pc' := 127) rfl (hb hby d455) (by decide) (by decide) j) ?_
  have F_36 : Exa Z h_32 x "java/lang/String" := (F_31.wr W_33)
  have F_37 : Fld Z h_32 x "java/lang/String" "value" "[B" (.ref a_18) := ((F_24.same W_27).other W_33 (Or.inr (RoadKit.slot_ne (C := "java/lang/String") (Or.inr (wT 108 rfl)) (Or.inr (wT 110 rfl)) (by decide) (t := (.array .byte)) (t' := .byte) (by decide) (by decide))))
  have F_38 : Arv Z h_32 a_18 k_19 .byte (2 : Int32) [(.int ((en (0 : Int32)).toInt8.toInt32)), (.int ((en (16 : Int32)).toInt8.toInt32))] (.int (0 : Int32)) := ((F_21.other W_27 (ne_ad (by omega))).other W_33 (ne_ad (by omega)))
  exact k_ret0 hx hlk hret (hb hby d456) (by decide) (by decide) ⟨a_18, k_19, rfl, rfl, ((((Keep.refl _ _).trans K_20 kk0).wr W_27 (Or.inl (by simp))).wr W_33 (Or.inl (by simp))), ⟨F_36, (F_30.same W_33), F_37, F_38, (ebS (ebS eb0)), by simp⟩⟩
def Q_sbi1 (Z : State) (G1 : Int32) (G3 : Value) (e0 tb : Addr) (kt : ClassId) (x : Addr) (q : Addr) (kq : ClassId) (za : Int32) (h0 : Heap) (n0 : Nat) (bk : Addr → Prop) (v : Option Value) (h : Heap) (bk' : Addr → Prop) : Prop := ∃ (u : Addr), ∃ (ku : ClassId), v = none ∧ NoB = bk' ∧ Keep h0 h [x] ∧ (StrL Z h x u ku [en (0 : Int32), en ((16 : Int32) ||| (za >>> ((4 : Int32) &&& 31))), en (((za &&& (15 : Int32)) <<< ((2 : Int32) &&& 31)) ||| (0 : Int32))])
abbrev RM_sbi1 : Room := { frames := 2, cells := 1, slots := 3, locals := 29 }
theorem ef_sbi1 (m : MethodId) (x0 : Addr) (x1 : Addr) (x2 : Int32) (x3 : Int32) (x4 : Int32) : entryFrame m #[(.ref x0), (.ref x1), (.int x2), (.int x3), (.int x4)] 7 = mkF m 0 #[.val (.ref x0), .val (.ref x1), .val (.int x2), .val (.int x3), .val (.int x4), .unset, .unset] [] := by first | (simp [entryFrame, mkF, argsToLocals, Value.category]; done) | rfl
set_option maxRecDepth 65536 in
set_option maxHeartbeats 40000000 in
theorem rm_sbi1 (l : Launch) (Z : State) (a0 : Array Value) (G1 : Int32) (G3 : Value) (e0 tb : Addr) (kt : ClassId) (hX : Ctx Z a0 G1 G3) (hY : More Z e0 tb kt) (n0 : Nat) (h0 : Heap) (O0 : Old Z n0 h0) (x : Addr) (q : Addr) (kq : ClassId) (za : Int32) (pf_0 : Exa Z h0 x "java/lang/String") (pf_1 : Fld Z h0 x "java/lang/String" "value" "[B" .null) (pf_2 : Fld Z h0 x "java/lang/String" "coder" "B" (.int (0 : Int32))) (pf_3 : Exa Z h0 q "[B") (pf_4 : Arv Z h0 q kq .byte (3 : Int32) [(.int ((en (0 : Int32)).toInt8.toInt32)), (.int ((en ((16 : Int32) ||| (za >>> ((4 : Int32) &&& 31)))).toInt8.toInt32)), (.int ((en (((za &&& (15 : Int32)) <<< ((2 : Int32) &&& 31)) ||| (0 : Int32))).toInt8.toInt32))] (.int (0 : Int32))) (gx : n0 ≤ x) (xq : @Ne Nat x q) (ws : List Jvm.Cond) : Met l Z EL1 n0 NoB (⟨"java/lang/String", "<init>", "([BIII)V"⟩ : MethodName) jdk_42_method_7_code 7 (Option.none : Option FieldType) RM_sbi1 #[(.ref x), (.ref q), (.int (0 : Int32)), (.int (0 : Int32)), (.int (3 : Int32))] h0 (Q_sbi1 Z G1 G3 e0 tb kt x q kq za h0 n0 NoB) ws := by
  have hX' := hX
  obtain ⟨hw, hE, S1, P1, S3, P3⟩ := hX'
  have hY' := hY
  obtain ⟨s_e, x_e, f_u, f_n, f_l, f_p, s_t, a_t⟩ := hY'
  have wT : ∀ (i : Nat) {d : Jvm.Cond}, tables_1[i]? = some d → d.before a0 Z = true := fun i d h => hw d (List.mem_of_getElem? h)
  have z0 : n0 ≤ h0.size := by rw [← O0.1]; exact O0.2.1
  refine Met.of (by decide +kernel) O0 hE ?_
  intro p e s m below meth c hx hby hml hret hlk hnm
  refine k_cast (ef_sbi1 m x q (0 : Int32) (0 : Int32) (3 : Int32)) ?_
  show Run p l e _ s m _ below meth c Z EL1 _ n0 NoB h0 0 0 (mkF m 0 #[.val (.ref x), .val (.ref q), .val (.int (0 : Int32)), .val (.int (0 : Int32)), .val (.int (3 : Int32)), .unset, .unset] []) _
  have lt_1 : @LT.lt Nat _ x (Array.size h0) := pf_0.lt
  have lt_2 : @LT.lt Nat _ x (Array.size h0) := pf_1.lt
  have lt_3 : @LT.lt Nat _ x (Array.size h0) := pf_2.lt
  have lt_4 : @LT.lt Nat _ q (Array.size h0) := pf_3.lt
  have lt_5 : @LT.lt Nat _ q (Array.size h0) := pf_4.lt
  refine k_pure (g' := (mkF m 1 #[.val (.ref x), .val (.ref q), .val (.int (0 : Int32)), .val (.int (0 : Int32)), .val (.int (3 : Int32)), .unset, .unset] [(.ref x)])) (fun _ J _ j => XS.aloadN J hx rfl (hb hby d429) rfl rfl j) ?_
  refine k_initO hx (wT 91 rfl) (wT 8 rfl) (wT 9 rfl) rfl (by rw [hml]; rfl) rfl (hb hby d430) (by decide) (W := 0) (by show 2 * 0 + _ ≤ _; exact Nat.le_of_eq rfl) (by decide) ?_
  refine k_pure (g' := (mkF m 8 #[.val (.ref x), .val (.ref q), .val (.int (0 : Int32)), .val (.int (0 : Int32)), .val (.int (3 : Int32)), .unset, .unset] [(.ref q), (.int (3 : Int32)), (.int (0 : Int32))])) (fun TT HH tt kk => XS.iloadN HH hx rfl (hb hby d431) rfl (XS.iload HH hx rfl (hb hby d432) rfl (XS.aloadN HH hx rfl (hb hby d433) rfl rfl kk))) ?_
  refine k_alen hx pf_4 rfl rfl (hb hby d434) ?_
  show Run p l e _ s m _ below meth c Z EL1 _ n0 NoB h0 0 0 (mkF m 9 #[.val (.ref x), .val (.ref q), .val (.int (0 : Int32)), .val (.int (0 : Int32)), .val (.int (3 : Int32)), .unset, .unset] [(.int (3 : Int32)), (.int (3 : Int32)), (.int (0 : Int32))]) _
  refine k_callS hx (y := (⟨"java/lang/String", "checkBoundsOffCount", "(III)I"⟩ : MethodName)) (wT 92 rfl) (wT 93 rfl) (wT 86 rfl) (wT 94 rfl) (by decide) (W := 0) (argsL := [(.int (0 : Int32)), (.int (3 : Int32)), (.int (3 : Int32))]) (rest := []) (Pays.of_met (rm_cbo1 l Z a0 G1 G3 e0 tb kt hX hY n0 h0 O0   []) (wT 94 rfl) (wT 86 rfl) (by decide) (by decide)) rfl (by rw [hml]; rfl) (lenOf pd__28_III_29_I rfl) rfl (by show 2 * 0 + _ ≤ _; exact Nat.le_of_eq rfl) (hb hby d435) (by decide) (by decide) ?_
  intro v_6 h_7 bk_8 O_9 z_10 Q_11
  obtain ⟨rfl, rfl, rfl⟩ := Q_11
  refine k_pure (g' := (mkF m 37 #[.val (.ref x), .val (.ref q), .val (.int (0 : Int32)), .val (.int (0 : Int32)), .val (.int (3 : Int32)), .unset, .unset] [])) (fun TT HH tt kk => XS.pop HH hx rfl (hb hby d436) rfl rfl (XS.iload HH hx rfl (hb hby d437) rfl (XS.ifYes HH hx rfl (pc0 := 15) (pc' := 37) rfl (hb hby d438) rfl ((if0 _ _).trans (feq (by decide : ¬ ((3 : Int32) = (0 : Int32)))).2) (by decide) (by decide) kk))) ?_
  refine k_getS hx (host := "") (Or.inl (wT 100 rfl)) Via.refl (S1.ext O0.2) rfl (hb hby d439) ?_
  refine k_pure (g' := (mkF m 48 #[.val (.ref x), .val (.ref q), .val (.int (0 : Int32)), .val (.int (0 : Int32)), .val (.int (3 : Int32)), .unset, .unset] [])) (fun TT HH tt kk => XS.ifNo HH hx rfl (hb hby d440) rfl ((if0 _ _).trans (feq P1).1) (XS.iloadN HH hx rfl (hb hby d441) rfl (XS.i2b HH hx rfl (hb hby d442) rfl (XS.ifNo HH hx rfl (hb hby d443) rfl ((if0 _ _).trans (teq (by decide : ((0 : Int32) = (0 : Int32)))).2) kk)))) ?_
  refine k_pure (g' := (mkF m 52 #[.val (.ref x), .val (.ref q), .val (.int (0 : Int32)), .val (.int (0 : Int32)), .val (.int (3 : Int32)), .unset, .unset] [(.int (0 : Int32)), (.int (0 : Int32)), (.ref q), (.ref x)])) (fun TT HH tt kk => XS.aloadN HH hx rfl (hb hby d444) rfl rfl (XS.aloadN HH hx rfl (hb hby d445) rfl rfl (XS.iloadN HH hx rfl (hb hby d446) rfl (XS.iloadN HH hx rfl (hb hby d447) rfl kk)))) ?_
  refine k_pure (g' := (mkF m 55 #[.val (.ref x), .val (.ref q), .val (.int (0 : Int32)), .val (.int (0 : Int32)), .val (.int (3 : Int32)), .unset, .unset] [(.int (3 : Int32)), (.int (0 : Int32)), (.ref q), (.ref x)])) (fun TT HH tt kk => XS.iload HH hx rfl (hb hby d448) rfl (XS.iadd HH hx rfl (hb hby d449) rfl kk)) ?_
  refine k_callS hx (y := (⟨"java/util/Arrays", "copyOfRange", "([BII)[B"⟩ : MethodName)) (wT 101 rfl) (wT 102 rfl) (wT 103 rfl) (wT 104 rfl) (by decide) (W := 1) (argsL := [(.ref q), (.int (0 : Int32)), (.int (3 : Int32))]) (rest := [(.ref x)]) (Pays.of_met (rm_cor1 l Z a0 G1 G3 e0 tb kt hX hY n0 h0 O0 q kq za pf_3 pf_4 []) (wT 104 rfl) (wT 103 rfl) (by decide) (by decide)) rfl (by rw [hml]; rfl) (lenOf pd__28__5b_BII_29__5b_B rfl) rfl (by show 2 * 0 + _ ≤ _; exact Nat.le_of_eq rfl) (hb hby d450) (by decide) (by decide) ?_
  intro v_12 h_13 bk_14 O_15 z_16 Q_17
  obtain ⟨a_18, k_19, rfl, rfl, K_20, F_21, P_22⟩ := Q_17
  have lt_23 : @LT.lt Nat _ a_18 (Array.size h_13) := F_21.lt
  show Run p l e _ s m _ below meth c Z EL1 _ n0 NoB h_13 1 3 (mkF m 58 #[.val (.ref x), .val (.ref q), .val (.int (0 : Int32)), .val (.int (0 : Int32)), .val (.int (3 : Int32)), .unset, .unset] [(.ref a_18), (.ref x)]) _
  have F_24 : Fld Z h_13 x "java/lang/String" "value" "[B" .null := (pf_1.keep K_20 nin0)
  have F_25 : Exa Z h_13 x "java/lang/String" := (pf_0.keep K_20)
  refine k_putF hx (host := "") (Or.inl (wT 107 rfl)) Via.refl F_24 F_25 (Or.inr ⟨(wT 108 rfl), rfl, hnm⟩) (wT 85 rfl) (ty := (.array .byte)) (by decide) rfl rfl (by omega) (fun q => q) rfl rfl (hb hby d451) ?_
  intro h_26 O_28 W_27
  have z_29 := W_27.size
  refine k_pure (g' := (mkF m 63 #[.val (.ref x), .val (.ref q), .val (.int (0 : Int32)), .val (.int (0 : Int32)), .val (.int (3 : Int32)), .unset, .unset] [(.int (0 : Int32)), (.ref x)])) (fun TT HH tt kk => XS.aloadN HH hx rfl (hb hby d452) rfl rfl (XS.iconst HH hx rfl (hb hby d453) kk)) ?_
  have F_30 : Fld Z h_26 x "java/lang/String" "coder" "B" (.int (0 : Int32)) := ((pf_2.keep K_20 nin0).other W_27 (Or.inr (RoadKit.slot_ne (C := "java/lang/String") (Or.inr (wT 110 rfl)) (Or.inr (wT 108 rfl)) (by decide) (t := .byte) (t' := (.array .byte)) (by decide) (by decide))))
  have F_31 : Exa Z h_26 x "java/lang/String" := (F_25.wr W_27)
  refine k_putF hx (host := "") (Or.inl (wT 109 rfl)) Via.refl F_30 F_31 (Or.inr ⟨(wT 110 rfl), rfl, hnm⟩) (wT 85 rfl) (ty := .byte) (by decide) rfl rfl (by omega) (fun q => q) rfl rfl (hb hby d454) ?_
  intro h_32 O_34 W_33
  have z_35 := W_33.size
  refine k_pure (g' := (mkF m 127 #[.val (.ref x), .val (.ref q), .val (.int (0 : Int32)), .val (.int (0 : Int32)), .val (.int (3 : Int32)), .unset, .unset] [])) (fun _ J _ j => XS.goto J hx rfl (pc0 := 66) (pc' := 127) rfl (hb hby d455) (by decide) (by decide) j) ?_
  have F_36 : Exa Z h_32 x "java/lang/String" := (F_31.wr W_33)
  have F_37 : Fld Z h_32 x "java/lang/String" "value" "[B" (.ref a_18) := ((F_24.same W_27).other W_33 (Or.inr (RoadKit.slot_ne (C := "java/lang/String") (Or.inr (wT 108 rfl)) (Or.inr (wT 110 rfl)) (by decide) (t := (.array .byte)) (t' := .byte) (by decide) (by decide))))
  have F_38 : Arv Z h_32 a_18 k_19 .byte (3 : Int32) [(.int ((en (0 : Int32)).toInt8.toInt32)), (.int ((en ((16 : Int32) ||| (za >>> ((4 : Int32) &&& 31)))).toInt8.toInt32)), (.int ((en (((za &&& (15 : Int32)) <<< ((2 : Int32) &&& 31)) ||| (0 : Int32))).toInt8.toInt32))] (.int (0 : Int32)) := ((F_21.other W_27 (ne_ad (by omega))).other W_33 (ne_ad (by omega)))
  exact k_ret0 hx hlk hret (hb hby d456) (by decide) (by decide) ⟨a_18, k_19, rfl, rfl, ((((Keep.refl _ _).trans K_20 kk0).wr W_27 (Or.inl (by simp))).wr W_33 (Or.inl (by simp))), ⟨F_36, (F_30.same W_33), F_37, F_38, (ebS (ebS (ebS eb0))), by simp⟩⟩
def Q_sbi2 (Z : State) (G1 : Int32) (G3 : Value) (e0 tb : Addr) (kt : ClassId) (x : Addr) (q : Addr) (kq : ClassId) (za : Int32) (zb : Int32) (h0 : Heap) (n0 : Nat) (bk : Addr → Prop) (v : Option Value) (h : Heap) (bk' : Addr → Prop) : Prop := ∃ (u : Addr), ∃ (ku : ClassId), v = none ∧ NoB = bk' ∧ Keep h0 h [x] ∧ (StrL Z h x u ku [en (0 : Int32), en ((16 : Int32) ||| (za >>> ((4 : Int32) &&& 31))), en (((za &&& (15 : Int32)) <<< ((2 : Int32) &&& 31)) ||| (zb >>> ((6 : Int32) &&& 31))), en (zb &&& (63 : Int32))])
abbrev RM_sbi2 : Room := { frames := 2, cells := 1, slots := 4, locals := 29 }
theorem ef_sbi2 (m : MethodId) (x0 : Addr) (x1 : Addr) (x2 : Int32) (x3 : Int32) (x4 : Int32) : entryFrame m #[(.ref x0), (.ref x1), (.int x2), (.int x3), (.int x4)] 7 = mkF m 0 #[.val (.ref x0), .val (.ref x1), .val (.int x2), .val (.int x3), .val (.int x4), .unset, .unset] [] := by first | (simp [entryFrame, mkF, argsToLocals, Value.category]; done) | rfl
set_option maxRecDepth 65536 in
set_option maxHeartbeats 40000000 in
theorem rm_sbi2 (l : Launch) (Z : State) (a0 : Array Value) (G1 : Int32) (G3 : Value) (e0 tb : Addr) (kt : ClassId) (hX : Ctx Z a0 G1 G3) (hY : More Z e0 tb kt) (n0 : Nat) (h0 : Heap) (O0 : Old Z n0 h0) (x : Addr) (q : Addr) (kq : ClassId) (za : Int32) (zb : Int32) (pf_0 : Exa Z h0 x "java/lang/String") (pf_1 : Fld Z h0 x "java/lang/String" "value" "[B" .null) (pf_2 : Fld Z h0 x "java/lang/String" "coder" "B" (.int (0 : Int32))) (pf_3 : Exa Z h0 q "[B") (pf_4 : Arv Z h0 q kq .byte (4 : Int32) [(.int ((en (0 : Int32)).toInt8.toInt32)), (.int ((en ((16 : Int32) ||| (za >>> ((4 : Int32) &&& 31)))).toInt8.toInt32)), (.int ((en (((za &&& (15 : Int32)) <<< ((2 : Int32) &&& 31)) ||| (zb >>> ((6 : Int32) &&& 31)))).toInt8.toInt32)), (.int ((en (zb &&& (63 : Int32))).toInt8.toInt32))] (.int (0 : Int32))) (gx : n0 ≤ x) (xq : @Ne Nat x q) (ws : List Jvm.Cond) : Met l Z EL1 n0 NoB (⟨"java/lang/String", "<init>", "([BIII)V"⟩ : MethodName) jdk_42_method_7_code 7 (Option.none : Option FieldType) RM_sbi2 #[(.ref x), (.ref q), (.int (0 : Int32)), (.int (0 : Int32)), (.int (4 : Int32))] h0 (Q_sbi2 Z G1 G3 e0 tb kt x q kq za zb h0 n0 NoB) ws := by
  have hX' := hX
  obtain ⟨hw, hE, S1, P1, S3, P3⟩ := hX'
  have hY' := hY
  obtain ⟨s_e, x_e, f_u, f_n, f_l, f_p, s_t, a_t⟩ := hY'
  have wT : ∀ (i : Nat) {d : Jvm.Cond}, tables_1[i]? = some d → d.before a0 Z = true := fun i d h => hw d (List.mem_of_getElem? h)
  have z0 : n0 ≤ h0.size := by rw [← O0.1]; exact O0.2.1
  refine Met.of (by decide +kernel) O0 hE ?_
  intro p e s m below meth c hx hby hml hret hlk hnm
  refine k_cast (ef_sbi2 m x q (0 : Int32) (0 : Int32) (4 : Int32)) ?_
  show Run p l e _ s m _ below meth c Z EL1 _ n0 NoB h0 0 0 (mkF m 0 #[.val (.ref x), .val (.ref q), .val (.int (0 : Int32)), .val (.int (0 : Int32)), .val (.int (4 : Int32)), .unset, .unset] []) _
  have lt_1 : @LT.lt Nat _ x (Array.size h0) := pf_0.lt
  have lt_2 : @LT.lt Nat _ x (Array.size h0) := pf_1.lt
  have lt_3 : @LT.lt Nat _ x (Array.size h0) := pf_2.lt
  have lt_4 : @LT.lt Nat _ q (Array.size h0) := pf_3.lt
  have lt_5 : @LT.lt Nat _ q (Array.size h0) := pf_4.lt
  refine k_pure (g' := (mkF m 1 #[.val (.ref x), .val (.ref q), .val (.int (0 : Int32)), .val (.int (0 : Int32)), .val (.int (4 : Int32)), .unset, .unset] [(.ref x)])) (fun _ J _ j => XS.aloadN J hx rfl (hb hby d429) rfl rfl j) ?_
  refine k_initO hx (wT 91 rfl) (wT 8 rfl) (wT 9 rfl) rfl (by rw [hml]; rfl) rfl (hb hby d430) (by decide) (W := 0) (by show 2 * 0 + _ ≤ _; exact Nat.le_of_eq rfl) (by decide) ?_
  refine k_pure (g' := (mkF m 8 #[.val (.ref x), .val (.ref q), .val (.int (0 : Int32)), .val (.int (0 : Int32)), .val (.int (4 : Int32)), .unset, .unset] [(.ref q), (.int (4 : Int32)), (.int (0 : Int32))])) (fun TT HH tt kk => XS.iloadN HH hx rfl (hb hby d431) rfl (XS.iload HH hx rfl (hb hby d432) rfl (XS.aloadN HH hx rfl (hb hby d433) rfl rfl kk))) ?_
  refine k_alen hx pf_4 rfl rfl (hb hby d434) ?_
  show Run p l e _ s m _ below meth c Z EL1 _ n0 NoB h0 0 0 (mkF m 9 #[.val (.ref x), .val (.ref q), .val (.int (0 : Int32)), .val (.int (0 : Int32)), .val (.int (4 : Int32)), .unset, .unset] [(.int (4 : Int32)), (.int (4 : Int32)), (.int (0 : Int32))]) _
  refine k_callS hx (y := (⟨"java/lang/String", "checkBoundsOffCount", "(III)I"⟩ : MethodName)) (wT 92 rfl) (wT 93 rfl) (wT 86 rfl) (wT 94 rfl) (by decide) (W := 0) (argsL := [(.int (0 : Int32)), (.int (4 : Int32)), (.int (4 : Int32))]) (rest := []) (Pays.of_met (rm_cbo2 l Z a0 G1 G3 e0 tb kt hX hY n0 h0 O0   []) (wT 94 rfl) (wT 86 rfl) (by decide) (by decide)) rfl (by rw [hml]; rfl) (lenOf pd__28_III_29_I rfl) rfl (by show 2 * 0 + _ ≤ _; exact Nat.le_of_eq rfl) (hb hby d435) (by decide) (by decide) ?_
  intro v_6 h_7 bk_8 O_9 z_10 Q_11
  obtain ⟨rfl, rfl, rfl⟩ := Q_11
  refine k_pure (g' := (mkF m 37 #[.val (.ref x), .val (.ref q), .val (.int (0 : Int32)), .val (.int (0 : Int32)), .val (.int (4 : Int32)), .unset, .unset] [])) (fun TT HH tt kk => XS.pop HH hx rfl (hb hby d436) rfl rfl (XS.iload HH hx rfl (hb hby d437) rfl (XS.ifYes HH hx rfl (pc0 := 15) (pc' := 37) rfl (hb hby d438) rfl ((if0 _ _).trans (feq (by decide : ¬ ((4 : Int32) = (0 : Int32)))).2) (by decide) (by decide) kk))) ?_
  refine k_getS hx (host := "") (Or.inl (wT 100 rfl)) Via.refl (S1.ext O0.2) rfl (hb hby d439) ?_
  refine k_pure (g' := (mkF m 48 #[.val (.ref x), .val (.ref q), .val (.int (0 : Int32)), .val (.int (0 : Int32)), .val (.int (4 : Int32)), .unset, .unset] [])) (fun TT HH tt kk => XS.ifNo HH hx rfl (hb hby d440) rfl ((if0 _ _).trans (feq P1).1) (XS.iloadN HH hx rfl (hb hby d441) rfl (XS.i2b HH hx rfl (hb hby d442) rfl (XS.ifNo HH hx rfl (hb hby d443) rfl ((if0 _ _).trans (teq (by decide : ((0 : Int32) = (0 : Int32)))).2) kk)))) ?_
  refine k_pure (g' := (mkF m 52 #[.val (.ref x), .val (.ref q), .val (.int (0 : Int32)), .val (.int (0 : Int32)), .val (.int (4 : Int32)), .unset, .unset] [(.int (0 : Int32)), (.int (0 : Int32)), (.ref q), (.ref x)])) (fun TT HH tt kk => XS.aloadN HH hx rfl (hb hby d444) rfl rfl (XS.aloadN HH hx rfl (hb hby d445) rfl rfl (XS.iloadN HH hx rfl (hb hby d446) rfl (XS.iloadN HH hx rfl (hb hby d447) rfl kk)))) ?_
  refine k_pure (g' := (mkF m 55 #[.val (.ref x), .val (.ref q), .val (.int (0 : Int32)), .val (.int (0 : Int32)), .val (.int (4 : Int32)), .unset, .unset] [(.int (4 : Int32)), (.int (0 : Int32)), (.ref q), (.ref x)])) (fun TT HH tt kk => XS.iload HH hx rfl (hb hby d448) rfl (XS.iadd HH hx rfl (hb hby d449) rfl kk)) ?_
  refine k_callS hx (y := (⟨"java/util/Arrays", "copyOfRange", "([BII)[B"⟩ : MethodName)) (wT 101 rfl) (wT 102 rfl) (wT 103 rfl) (wT 104 rfl) (by decide) (W := 1) (argsL := [(.ref q), (.int (0 : Int32)), (.int (4 : Int32))]) (rest := [(.ref x)]) (Pays.of_met (rm_cor2 l Z a0 G1 G3 e0 tb kt hX hY n0 h0 O0 q kq za zb pf_3 pf_4 []) (wT 104 rfl) (wT 103 rfl) (by decide) (by decide)) rfl (by rw [hml]; rfl) (lenOf pd__28__5b_BII_29__5b_B rfl) rfl (by show 2 * 0 + _ ≤ _; exact Nat.le_of_eq rfl) (hb hby d450) (by decide) (by decide) ?_
  intro v_12 h_13 bk_14 O_15 z_16 Q_17
  obtain ⟨a_18, k_19, rfl, rfl, K_20, F_21, P_22⟩ := Q_17
  have lt_23 : @LT.lt Nat _ a_18 (Array.size h_13) := F_21.lt
  show Run p l e _ s m _ below meth c Z EL1 _ n0 NoB h_13 1 4 (mkF m 58 #[.val (.ref x), .val (.ref q), .val (.int (0 : Int32)), .val (.int (0 : Int32)), .val (.int (4 : Int32)), .unset, .unset] [(.ref a_18), (.ref x)]) _
  have F_24 : Fld Z h_13 x "java/lang/String" "value" "[B" .null := (pf_1.keep K_20 nin0)
  have F_25 : Exa Z h_13 x "java/lang/String" := (pf_0.keep K_20)
  refine k_putF hx (host := "") (Or.inl (wT 107 rfl)) Via.refl F_24 F_25 (Or.inr ⟨(wT 108 rfl), rfl, hnm⟩) (wT 85 rfl) (ty := (.array .byte)) (by decide) rfl rfl (by omega) (fun q => q) rfl rfl (hb hby d451) ?_
  intro h_26 O_28 W_27
  have z_29 := W_27.size
  refine k_pure (g' := (mkF m 63 #[.val (.ref x), .val (.ref q), .val (.int (0 : Int32)), .val (.int (0 : Int32)), .val (.int (4 : Int32)), .unset, .unset] [(.int (0 : Int32)), (.ref x)])) (fun TT HH tt kk => XS.aloadN HH hx rfl (hb hby d452) rfl rfl (XS.iconst HH hx rfl (hb hby d453) kk)) ?_
  have F_30 : Fld Z h_26 x "java/lang/String" "coder" "B" (.int (0 : Int32)) := ((pf_2.keep K_20 nin0).other W_27 (Or.inr (RoadKit.slot_ne (C := "java/lang/String") (Or.inr (wT 110 rfl)) (Or.inr (wT 108 rfl)) (by decide) (t := .byte) (t' := (.array .byte)) (by decide) (by decide))))
  have F_31 : Exa Z h_26 x "java/lang/String" := (F_25.wr W_27)
  refine k_putF hx (host := "") (Or.inl (wT 109 rfl)) Via.refl F_30 F_31 (Or.inr ⟨(wT 110 rfl), rfl, hnm⟩) (wT 85 rfl) (ty := .byte) (by decide) rfl rfl (by omega) (fun q => q) rfl rfl (hb hby d454) ?_
  intro h_32 O_34 W_33
  have z_35 := W_33.size
  refine k_pure (g' := (mkF m 127 #[.val (.ref x), .val (.ref q), .val (.int (0 : Int32)), .val (.int (0 : Int32)), .val (.int (4 : Int32)), .unset, .unset] [])) (fun _ J _ j => XS.goto J hx rfl (pc0 := 66) (pc' := 127) rfl (hb hby d455) (by decide) (by decide) j) ?_
  have F_36 : Exa Z h_32 x "java/lang/String" := (F_31.wr W_33)
  have F_37 : Fld Z h_32 x "java/lang/String" "value" "[B" (.ref a_18) := ((F_24.same W_27).other W_33 (Or.inr (RoadKit.slot_ne (C := "java/lang/String") (Or.inr (wT 108 rfl)) (Or.inr (wT 110 rfl)) (by decide) (t := (.array .byte)) (t' := .byte) (by decide) (by decide))))
  have F_38 : Arv Z h_32 a_18 k_19 .byte (4 : Int32) [(.int ((en (0 : Int32)).toInt8.toInt32)), (.int ((en ((16 : Int32) ||| (za >>> ((4 : Int32) &&& 31)))).toInt8.toInt32)), (.int ((en (((za &&& (15 : Int32)) <<< ((2 : Int32) &&& 31)) ||| (zb >>> ((6 : Int32) &&& 31)))).toInt8.toInt32)), (.int ((en (zb &&& (63 : Int32))).toInt8.toInt32))] (.int (0 : Int32)) := ((F_21.other W_27 (ne_ad (by omega))).other W_33 (ne_ad (by omega)))
  exact k_ret0 hx hlk hret (hb hby d456) (by decide) (by decide) ⟨a_18, k_19, rfl, rfl, ((((Keep.refl _ _).trans K_20 kk0).wr W_27 (Or.inl (by simp))).wr W_33 (Or.inl (by simp))), ⟨F_36, (F_30.same W_33), F_37, F_38, (ebS (ebS (ebS (ebS eb0)))), by simp⟩⟩
def Q_sbi3 (Z : State) (G1 : Int32) (G3 : Value) (e0 tb : Addr) (kt : ClassId) (x : Addr) (q : Addr) (kq : ClassId) (za : Int32) (zb : Int32) (zc : Int32) (h0 : Heap) (n0 : Nat) (bk : Addr → Prop) (v : Option Value) (h : Heap) (bk' : Addr → Prop) : Prop := ∃ (u : Addr), ∃ (ku : ClassId), v = none ∧ NoB = bk' ∧ Keep h0 h [x] ∧ (StrL Z h x u ku [en (0 : Int32), en ((16 : Int32) ||| (za >>> ((4 : Int32) &&& 31))), en (((za &&& (15 : Int32)) <<< ((2 : Int32) &&& 31)) ||| (zb >>> ((6 : Int32) &&& 31))), en (zb &&& (63 : Int32)), en (zc >>> ((2 : Int32) &&& 31)), en ((zc &&& (3 : Int32)) <<< ((4 : Int32) &&& 31))])
abbrev RM_sbi3 : Room := { frames := 2, cells := 1, slots := 6, locals := 29 }
theorem ef_sbi3 (m : MethodId) (x0 : Addr) (x1 : Addr) (x2 : Int32) (x3 : Int32) (x4 : Int32) : entryFrame m #[(.ref x0), (.ref x1), (.int x2), (.int x3), (.int x4)] 7 = mkF m 0 #[.val (.ref x0), .val (.ref x1), .val (.int x2), .val (.int x3), .val (.int x4), .unset, .unset] [] := by first | (simp [entryFrame, mkF, argsToLocals, Value.category]; done) | rfl
set_option maxRecDepth 65536 in
set_option maxHeartbeats 40000000 in
theorem rm_sbi3 (l : Launch) (Z : State) (a0 : Array Value) (G1 : Int32) (G3 : Value) (e0 tb : Addr) (kt : ClassId) (hX : Ctx Z a0 G1 G3) (hY : More Z e0 tb kt) (n0 : Nat) (h0 : Heap) (O0 : Old Z n0 h0) (x : Addr) (q : Addr) (kq : ClassId) (za : Int32) (zb : Int32) (zc : Int32) (pf_0 : Exa Z h0 x "java/lang/String") (pf_1 : Fld Z h0 x "java/lang/String" "value" "[B" .null) (pf_2 : Fld Z h0 x "java/lang/String" "coder" "B" (.int (0 : Int32))) (pf_3 : Exa Z h0 q "[B") (pf_4 : Arv Z h0 q kq .byte (6 : Int32) [(.int ((en (0 : Int32)).toInt8.toInt32)), (.int ((en ((16 : Int32) ||| (za >>> ((4 : Int32) &&& 31)))).toInt8.toInt32)), (.int ((en (((za &&& (15 : Int32)) <<< ((2 : Int32) &&& 31)) ||| (zb >>> ((6 : Int32) &&& 31)))).toInt8.toInt32)), (.int ((en (zb &&& (63 : Int32))).toInt8.toInt32)), (.int ((en (zc >>> ((2 : Int32) &&& 31))).toInt8.toInt32)), (.int ((en ((zc &&& (3 : Int32)) <<< ((4 : Int32) &&& 31))).toInt8.toInt32))] (.int (0 : Int32))) (gx : n0 ≤ x) (xq : @Ne Nat x q) (ws : List Jvm.Cond) : Met l Z EL1 n0 NoB (⟨"java/lang/String", "<init>", "([BIII)V"⟩ : MethodName) jdk_42_method_7_code 7 (Option.none : Option FieldType) RM_sbi3 #[(.ref x), (.ref q), (.int (0 : Int32)), (.int (0 : Int32)), (.int (6 : Int32))] h0 (Q_sbi3 Z G1 G3 e0 tb kt x q kq za zb zc h0 n0 NoB) ws := by
  have hX' := hX
  obtain ⟨hw, hE, S1, P1, S3, P3⟩ := hX'
  have hY' := hY
  obtain ⟨s_e, x_e, f_u, f_n, f_l, f_p, s_t, a_t⟩ := hY'
  have wT : ∀ (i : Nat) {d : Jvm.Cond}, tables_1[i]? = some d → d.before a0 Z = true := fun i d h => hw d (List.mem_of_getElem? h)
  have z0 : n0 ≤ h0.size := by rw [← O0.1]; exact O0.2.1
  refine Met.of (by decide +kernel) O0 hE ?_
  intro p e s m below meth c hx hby hml hret hlk hnm
  refine k_cast (ef_sbi3 m x q (0 : Int32) (0 : Int32) (6 : Int32)) ?_
  show Run p l e _ s m _ below meth c Z EL1 _ n0 NoB h0 0 0 (mkF m 0 #[.val (.ref x), .val (.ref q), .val (.int (0 : Int32)), .val (.int (0 : Int32)), .val (.int (6 : Int32)), .unset, .unset] []) _
  have lt_1 : @LT.lt Nat _ x (Array.size h0) := pf_0.lt
  have lt_2 : @LT.lt Nat _ x (Array.size h0) := pf_1.lt
  have lt_3 : @LT.lt Nat _ x (Array.size h0) := pf_2.lt
  have lt_4 : @LT.lt Nat _ q (Array.size h0) := pf_3.lt
  have lt_5 : @LT.lt Nat _ q (Array.size h0) := pf_4.lt
  refine k_pure (g' := (mkF m 1 #[.val (.ref x), .val (.ref q), .val (.int (0 : Int32)), .val (.int (0 : Int32)), .val (.int (6 : Int32)), .unset, .unset] [(.ref x)])) (fun _ J _ j => XS.aloadN J hx rfl (hb hby d429) rfl rfl j) ?_
  refine k_initO hx (wT 91 rfl) (wT 8 rfl) (wT 9 rfl) rfl (by rw [hml]; rfl) rfl (hb hby d430) (by decide) (W := 0) (by show 2 * 0 + _ ≤ _; exact Nat.le_of_eq rfl) (by decide) ?_
  refine k_pure (g' := (mkF m 8 #[.val (.ref x), .val (.ref q), .val (.int (0 : Int32)), .val (.int (0 : Int32)), .val (.int (6 : Int32)), .unset, .unset] [(.ref q), (.int (6 : Int32)), (.int (0 : Int32))])) (fun TT HH tt kk => XS.iloadN HH hx rfl (hb hby d431) rfl (XS.iload HH hx rfl (hb hby d432) rfl (XS.aloadN HH hx rfl (hb hby d433) rfl rfl kk))) ?_
  refine k_alen hx pf_4 rfl rfl (hb hby d434) ?_
  show Run p l e _ s m _ below meth c Z EL1 _ n0 NoB h0 0 0 (mkF m 9 #[.val (.ref x), .val (.ref q), .val (.int (0 : Int32)), .val (.int (0 : Int32)), .val (.int (6 : Int32)), .unset, .unset] [(.int (6 : Int32)), (.int (6 : Int32)), (.int (0 : Int32))]) _
  refine k_callS hx (y := (⟨"java/lang/String", "checkBoundsOffCount", "(III)I"⟩ : MethodName)) (wT 92 rfl) (wT 93 rfl) (wT 86 rfl) (wT 94 rfl) (by decide) (W := 0) (argsL := [(.int (0 : Int32)), (.int (6 : Int32)), (.int (6 : Int32))]) (rest := []) (Pays.of_met (rm_cbo3 l Z a0 G1 G3 e0 tb kt hX hY n0 h0 O0   []) (wT 94 rfl) (wT 86 rfl) (by decide) (by decide)) rfl (by rw [hml]; rfl) (lenOf pd__28_III_29_I rfl) rfl (by show 2 * 0 + _ ≤ _; exact Nat.le_of_eq rfl) (hb hby d435) (by decide) (by decide) ?_
  intro v_6 h_7 bk_8 O_9 z_10 Q_11
  obtain ⟨rfl, rfl, rfl⟩ := Q_11
  refine k_pure (g' := (mkF m 37 #[.val (.ref x), .val (.ref q), .val (.int (0 : Int32)), .val (.int (0 : Int32)), .val (.int (6 : Int32)), .unset, .unset] [])) (fun TT HH tt kk => XS.pop HH hx rfl (hb hby d436) rfl rfl (XS.iload HH hx rfl (hb hby d437) rfl (XS.ifYes HH hx rfl (pc0 := 15) (pc' := 37) rfl (hb hby d438) rfl ((if0 _ _).trans (feq (by decide : ¬ ((6 : Int32) = (0 : Int32)))).2) (by decide) (by decide) kk))) ?_
  refine k_getS hx (host := "") (Or.inl (wT 100 rfl)) Via.refl (S1.ext O0.2) rfl (hb hby d439) ?_
  refine k_pure (g' := (mkF m 48 #[.val (.ref x), .val (.ref q), .val (.int (0 : Int32)), .val (.int (0 : Int32)), .val (.int (6 : Int32)), .unset, .unset] [])) (fun TT HH tt kk => XS.ifNo HH hx rfl (hb hby d440) rfl ((if0 _ _).trans (feq P1).1) (XS.iloadN HH hx rfl (hb hby d441) rfl (XS.i2b HH hx rfl (hb hby d442) rfl (XS.ifNo HH hx rfl (hb hby d443) rfl ((if0 _ _).trans (teq (by decide : ((0 : Int32) = (0 : Int32)))).2) kk)))) ?_
  refine k_pure (g' := (mkF m 52 #[.val (.ref x), .val (.ref q), .val (.int (0 : Int32)), .val (.int (0 : Int32)), .val (.int (6 : Int32)), .unset, .unset] [(.int (0 : Int32)), (.int (0 : Int32)), (.ref q), (.ref x)])) (fun TT HH tt kk => XS.aloadN HH hx rfl (hb hby d444) rfl rfl (XS.aloadN HH hx rfl (hb hby d445) rfl rfl (XS.iloadN HH hx rfl (hb hby d446) rfl (XS.iloadN HH hx rfl (hb hby d447) rfl kk)))) ?_
  refine k_pure (g' := (mkF m 55 #[.val (.ref x), .val (.ref q), .val (.int (0 : Int32)), .val (.int (0 : Int32)), .val (.int (6 : Int32)), .unset, .unset] [(.int (6 : Int32)), (.int (0 : Int32)), (.ref q), (.ref x)])) (fun TT HH tt kk => XS.iload HH hx rfl (hb hby d448) rfl (XS.iadd HH hx rfl (hb hby d449) rfl kk)) ?_
  refine k_callS hx (y := (⟨"java/util/Arrays", "copyOfRange", "([BII)[B"⟩ : MethodName)) (wT 101 rfl) (wT 102 rfl) (wT 103 rfl) (wT 104 rfl) (by decide) (W := 1) (argsL := [(.ref q), (.int (0 : Int32)), (.int (6 : Int32))]) (rest := [(.ref x)]) (Pays.of_met (rm_cor3 l Z a0 G1 G3 e0 tb kt hX hY n0 h0 O0 q kq za zb zc pf_3 pf_4 []) (wT 104 rfl) (wT 103 rfl) (by decide) (by decide)) rfl (by rw [hml]; rfl) (lenOf pd__28__5b_BII_29__5b_B rfl) rfl (by show 2 * 0 + _ ≤ _; exact Nat.le_of_eq rfl) (hb hby d450) (by decide) (by decide) ?_
  intro v_12 h_13 bk_14 O_15 z_16 Q_17
  obtain ⟨a_18, k_19, rfl, rfl, K_20, F_21, P_22⟩ := Q_17
  have lt_23 : @LT.lt Nat _ a_18 (Array.size h_13) := F_21.lt
  show Run p l e _ s m _ below meth c Z EL1 _ n0 NoB h_13 1 6 (mkF m 58 #[.val (.ref x), .val (.ref q), .val (.int (0 : Int32)), .val (.int (0 : Int32)), .val (.int (6 : Int32)), .unset, .unset] [(.ref a_18), (.ref x)]) _
  have F_24 : Fld Z h_13 x "java/lang/String" "value" "[B" .null := (pf_1.keep K_20 nin0)
  have F_25 : Exa Z h_13 x "java/lang/String" := (pf_0.keep K_20)
  refine k_putF hx (host := "") (Or.inl (wT 107 rfl)) Via.refl F_24 F_25 (Or.inr ⟨(wT 108 rfl), rfl, hnm⟩) (wT 85 rfl) (ty := (.array .byte)) (by decide) rfl rfl (by omega) (fun q => q) rfl rfl (hb hby d451) ?_
  intro h_26 O_28 W_27
  have z_29 := W_27.size
  refine k_pure (g' := (mkF m 63 #[.val (.ref x), .val (.ref q), .val (.int (0 : Int32)), .val (.int (0 : Int32)), .val (.int (6 : Int32)), .unset, .unset] [(.int (0 : Int32)), (.ref x)])) (fun TT HH tt kk => XS.aloadN HH hx rfl (hb hby d452) rfl rfl (XS.iconst HH hx rfl (hb hby d453) kk)) ?_
  have F_30 : Fld Z h_26 x "java/lang/String" "coder" "B" (.int (0 : Int32)) := ((pf_2.keep K_20 nin0).other W_27 (Or.inr (RoadKit.slot_ne (C := "java/lang/String") (Or.inr (wT 110 rfl)) (Or.inr (wT 108 rfl)) (by decide) (t := .byte) (t' := (.array .byte)) (by decide) (by decide))))
  have F_31 : Exa Z h_26 x "java/lang/String" := (F_25.wr W_27)
  refine k_putF hx (host := "") (Or.inl (wT 109 rfl)) Via.refl F_30 F_31 (Or.inr ⟨(wT 110 rfl), rfl, hnm⟩) (wT 85 rfl) (ty := .byte) (by decide) rfl rfl (by omega) (fun q => q) rfl rfl (hb hby d454) ?_
  intro h_32 O_34 W_33
  have z_35 := W_33.size
  refine k_pure (g' := (mkF m 127 #[.val (.ref x), .val (.ref q), .val (.int (0 : Int32)), .val (.int (0 : Int32)), .val (.int (6 : Int32)), .unset, .unset] [])) (fun _ J _ j => XS.goto J hx rfl (pc0 := 66) (pc' := 127) rfl (hb hby d455) (by decide) (by decide) j) ?_
  have F_36 : Exa Z h_32 x "java/lang/String" := (F_31.wr W_33)
  have F_37 : Fld Z h_32 x "java/lang/String" "value" "[B" (.ref a_18) := ((F_24.same W_27).other W_33 (Or.inr (RoadKit.slot_ne (C := "java/lang/String") (Or.inr (wT 108 rfl)) (Or.inr (wT 110 rfl)) (by decide) (t := (.array .byte)) (t' := .byte) (by decide) (by decide))))
  have F_38 : Arv Z h_32 a_18 k_19 .byte (6 : Int32) [(.int ((en (0 : Int32)).toInt8.toInt32)), (.int ((en ((16 : Int32) ||| (za >>> ((4 : Int32) &&& 31)))).toInt8.toInt32)), (.int ((en (((za &&& (15 : Int32)) <<< ((2 : Int32) &&& 31)) ||| (zb >>> ((6 : Int32) &&& 31)))).toInt8.toInt32)), (.int ((en (zb &&& (63 : Int32))).toInt8.toInt32)), (.int ((en (zc >>> ((2 : Int32) &&& 31))).toInt8.toInt32)), (.int ((en ((zc &&& (3 : Int32)) <<< ((4 : Int32) &&& 31))).toInt8.toInt32))] (.int (0 : Int32)) := ((F_21.other W_27 (ne_ad (by omega))).other W_33 (ne_ad (by omega)))
  exact k_ret0 hx hlk hret (hb hby d456) (by decide) (by decide) ⟨a_18, k_19, rfl, rfl, ((((Keep.refl _ _).trans K_20 kk0).wr W_27 (Or.inl (by simp))).wr W_33 (Or.inl (by simp))), ⟨F_36, (F_30.same W_33), F_37, F_38, (ebS (ebS (ebS (ebS (ebS (ebS eb0)))))), by simp⟩⟩
def Q_ets0 (Z : State) (G1 : Int32) (G3 : Value) (e0 tb : Addr) (kt : ClassId) (x : Addr) (q : Addr) (kq : ClassId) (h0 : Heap) (n0 : Nat) (bk : Addr → Prop) (v : Option Value) (h : Heap) (bk' : Addr → Prop) : Prop := ∃ (a : Addr), ∃ (t : Addr), ∃ (kb : ClassId), v = some (.ref a) ∧ NoB = bk' ∧ Keep h0 h [] ∧ (StrL Z h a t kb [en (0 : Int32), en (16 : Int32)])
theorem d457 : decode jdk_2452_method_5_code 0 = .ok (.aload_n 0, 1) := by decide +kernel
theorem d458 : decode jdk_2452_method_5_code 1 = .ok (.aload_n 1, 1) := by decide +kernel
theorem d459 : decode jdk_2452_method_5_code 2 = .ok (.invokevirtual 61, 3) := by decide +kernel
theorem pd__28__5b_B_29__5b_B : parseMethodDescriptor "([B)[B" = some ⟨[(.array .byte)], some (.array .byte)⟩ := by decide +kernel
theorem d460 : decode jdk_2452_method_5_code 5 = .ok (.astore_n 2, 1) := by decide +kernel
theorem d461 : decode jdk_2452_method_5_code 6 = .ok (.new 65, 3) := by decide +kernel
theorem d462 : decode jdk_2452_method_5_code 9 = .ok (.dup, 1) := by decide +kernel
theorem d463 : decode jdk_2452_method_5_code 10 = .ok (.aload_n 2, 1) := by decide +kernel
theorem d464 : decode jdk_2452_method_5_code 11 = .ok (.iconst 0, 1) := by decide +kernel
theorem d465 : decode jdk_2452_method_5_code 12 = .ok (.iconst 0, 1) := by decide +kernel
theorem d466 : decode jdk_2452_method_5_code 13 = .ok (.aload_n 2, 1) := by decide +kernel
theorem d467 : decode jdk_2452_method_5_code 14 = .ok (.arraylength, 1) := by decide +kernel
theorem d468 : decode jdk_2452_method_5_code 15 = .ok (.invokespecial 67, 3) := by decide +kernel
theorem pd__28__5b_BIII_29_V : parseMethodDescriptor "([BIII)V" = some ⟨[(.array .byte), .int, .int, .int], none⟩ := by decide +kernel
theorem d469 : decode jdk_2452_method_5_code 18 = .ok (.areturn, 1) := by decide +kernel
abbrev RM_ets0 : Room := { frames := 3, cells := 3, slots := 8, locals := 48 }
theorem ef_ets0 (m : MethodId) (x0 : Addr) (x1 : Addr) : entryFrame m #[(.ref x0), (.ref x1)] 3 = mkF m 0 #[.val (.ref x0), .val (.ref x1), .unset] [] := by first | (simp [entryFrame, mkF, argsToLocals, Value.category]; done) | rfl
set_option maxRecDepth 65536 in
set_option maxHeartbeats 40000000 in
theorem rm_ets0 (l : Launch) (Z : State) (a0 : Array Value) (G1 : Int32) (G3 : Value) (e0 tb : Addr) (kt : ClassId) (hX : Ctx Z a0 G1 G3) (hY : More Z e0 tb kt) (n0 : Nat) (h0 : Heap) (O0 : Old Z n0 h0) (x : Addr) (q : Addr) (kq : ClassId) (pf_0 : Exa Z h0 x "java/util/Base64$Encoder") (pf_1 : Fld Z h0 x "java/util/Base64$Encoder" "isURL" "Z" (.int (1 : Int32))) (pf_2 : Fld Z h0 x "java/util/Base64$Encoder" "newline" "[B" .null) (pf_3 : Fld Z h0 x "java/util/Base64$Encoder" "linemax" "I" (.int ((-1) : Int32))) (pf_4 : Fld Z h0 x "java/util/Base64$Encoder" "doPadding" "Z" (.int (0 : Int32))) (pf_5 : Arv Z h0 q kq .byte (1 : Int32) [(.int (1 : Int32))] (.int (0 : Int32))) (ws : List Jvm.Cond) : Met l Z EL1 n0 NoB (⟨"java/util/Base64$Encoder", "encodeToString", "([B)Ljava/lang/String;"⟩ : MethodName) jdk_2452_method_5_code 3 (Option.some (FieldType.object "java/lang/String")) RM_ets0 #[(.ref x), (.ref q)] h0 (Q_ets0 Z G1 G3 e0 tb kt x q kq h0 n0 NoB) ws := by
  have hX' := hX
  obtain ⟨hw, hE, S1, P1, S3, P3⟩ := hX'
  have hY' := hY
  obtain ⟨s_e, x_e, f_u, f_n, f_l, f_p, s_t, a_t⟩ := hY'
  have wT : ∀ (i : Nat) {d : Jvm.Cond}, tables_1[i]? = some d → d.before a0 Z = true := fun i d h => hw d (List.mem_of_getElem? h)
  have z0 : n0 ≤ h0.size := by rw [← O0.1]; exact O0.2.1
  refine Met.of (by decide +kernel) O0 hE ?_
  intro p e s m below meth c hx hby hml hret hlk hnm
  refine k_cast (ef_ets0 m x q) ?_
  show Run p l e _ s m _ below meth c Z EL1 _ n0 NoB h0 0 0 (mkF m 0 #[.val (.ref x), .val (.ref q), .unset] []) _
  have lt_1 : @LT.lt Nat _ x (Array.size h0) := pf_0.lt
  have lt_2 : @LT.lt Nat _ x (Array.size h0) := pf_1.lt
  have lt_3 : @LT.lt Nat _ x (Array.size h0) := pf_2.lt
  have lt_4 : @LT.lt Nat _ x (Array.size h0) := pf_3.lt
  have lt_5 : @LT.lt Nat _ x (Array.size h0) := pf_4.lt
  have lt_6 : @LT.lt Nat _ q (Array.size h0) := pf_5.lt
  refine k_pure (g' := (mkF m 2 #[.val (.ref x), .val (.ref q), .unset] [(.ref q), (.ref x)])) (fun TT HH tt kk => XS.aloadN HH hx rfl (hb hby d457) rfl rfl (XS.aloadN HH hx rfl (hb hby d458) rfl rfl kk)) ?_
  refine k_callV hx (y := (⟨"java/util/Base64$Encoder", "encode", "([B)[B"⟩ : MethodName)) (z := (⟨"java/util/Base64$Encoder", "encode", "([B)[B"⟩ : MethodName)) (wT 61 rfl) (wT 62 rfl) (fun s' hZ => notFace_of_selects (args := #[]) (mv hZ (wT 64 rfl))) (wT 64 rfl) (wT 63 rfl) (by decide) (W := 0) (a := x) (argsL := [(.ref q)]) (rest := []) (Pays.of_met (rm_enc0 l Z a0 G1 G3 e0 tb kt hX hY n0 h0 O0 x q kq pf_0 pf_1 pf_2 pf_3 pf_4 pf_5 []) (wT 65 rfl) (wT 35 rfl) (by decide) (by decide)) pf_0 rfl (by rw [hml]; rfl) (lenOf pd__28__5b_B_29__5b_B rfl) rfl (by show 2 * 0 + _ ≤ _; exact Nat.le_of_eq rfl) (hb hby d459) (by decide) (by decide) ?_
  intro v_7 h_8 bk_9 O_10 z_11 Q_12
  obtain ⟨a_13, k_14, rfl, rfl, K_15, F_16, F_17, P_18⟩ := Q_12
  have lt_19 : @LT.lt Nat _ a_13 (Array.size h_8) := F_16.lt
  have lt_20 : @LT.lt Nat _ a_13 (Array.size h_8) := F_17.lt
  refine k_pure (g' := (mkF m 6 #[.val (.ref x), .val (.ref q), .val (.ref a_13)] [])) (fun _ J _ j => XS.astoreN J hx rfl (hb hby d460) rfl rfl (l' := #[.val (.ref x), .val (.ref q), .val (.ref a_13)]) rfl j) ?_
  refine k_newO hx (wT 84 rfl) (wT 85 rfl) (wT 86 rfl) rfl (hb hby d461) (by decide) (by decide) ?_
  intro h_22 a_21 g_28 O_23 E_24 A_25 D_26 U_27
  have z_29 := E_24.1
  have lt_30 : @LT.lt Nat _ a_21 (Array.size h_22) := A_25.lt
  refine k_pure (g' := (mkF m 13 #[.val (.ref x), .val (.ref q), .val (.ref a_13)] [(.int (0 : Int32)), (.int (0 : Int32)), (.ref a_13), (.ref a_21), (.ref a_21)])) (fun TT HH tt kk => XS.dup HH hx rfl (hb hby d462) rfl rfl (XS.aloadN HH hx rfl (hb hby d463) rfl rfl (XS.iconst HH hx rfl (hb hby d464) (XS.iconst HH hx rfl (hb hby d465) kk)))) ?_
  refine k_pure (g' := (mkF m 14 #[.val (.ref x), .val (.ref q), .val (.ref a_13)] [(.ref a_13), (.int (0 : Int32)), (.int (0 : Int32)), (.ref a_13), (.ref a_21), (.ref a_21)])) (fun _ J _ j => XS.aloadN J hx rfl (hb hby d466) rfl rfl j) ?_
  have F_31 : Arv Z h_22 a_13 k_14 .byte (2 : Int32) [(.int ((en (0 : Int32)).toInt8.toInt32)), (.int ((en (16 : Int32)).toInt8.toInt32))] (.int (0 : Int32)) := (F_17.ext E_24)
  refine k_alen hx F_31 rfl rfl (hb hby d467) ?_
  show Run p l e _ s m _ below meth c Z EL1 _ n0 NoB h_22 2 6 (mkF m 15 #[.val (.ref x), .val (.ref q), .val (.ref a_13)] [(.int (2 : Int32)), (.int (0 : Int32)), (.int (0 : Int32)), (.ref a_13), (.ref a_21), (.ref a_21)]) _
  have F_32 : Exa Z h_22 a_13 "[B" := (F_16.ext E_24)
  refine k_callI hx (y := (⟨"java/lang/String", "<init>", "([BIII)V"⟩ : MethodName)) rfl (wT 87 rfl) (wT 88 rfl) (wT 90 rfl) (by decide) (W := 1) (a := a_21) (argsL := [(.ref a_13), (.int (0 : Int32)), (.int (0 : Int32)), (.int (2 : Int32))]) (rest := [(.ref a_21)]) (Pays.of_met (rm_sbi0 l Z a0 G1 G3 e0 tb kt hX hY n0 h_22 O_23 a_21 a_13 k_14 A_25 (D_26 (Or.inr (wT 108 rfl)) (ty := (.array .byte)) (by decide)) (D_26 (Or.inr (wT 110 rfl)) (ty := .byte) (by decide)) F_32 F_31 (by omega) (by omega) []) (wT 90 rfl) (wT 86 rfl) (by decide) (by decide)) rfl (by rw [hml]; rfl) (lenOf pd__28__5b_BIII_29_V rfl) rfl (by show 2 * 0 + _ ≤ _; exact Nat.le_of_eq rfl) (hb hby d468) (by decide) (by decide) ?_
  intro v_33 h_34 bk_35 O_36 z_37 Q_38
  obtain ⟨a_39, k_40, rfl, rfl, K_41, F_42⟩ := Q_38
  have lt_43 : @LT.lt Nat _ a_21 (Array.size h_34) := F_42.lt1
  have lt_44 : @LT.lt Nat _ a_39 (Array.size h_34) := F_42.lt2
  show Run p l e _ s m _ below meth c Z EL1 _ n0 NoB h_34 3 8 (mkF m 18 #[.val (.ref x), .val (.ref q), .val (.ref a_13)] [(.ref a_21)]) _
  exact k_retA hx hlk hret rfl rfl rfl (hb hby d469) (by decide) (by decide) ⟨a_21, a_39, k_40, rfl, rfl, ((((Keep.refl _ _).trans K_15 kk0).ext E_24).trans K_41 (kkS (Or.inr (by omega)) kk0)), F_42⟩
def Q_ets1 (Z : State) (G1 : Int32) (G3 : Value) (e0 tb : Addr) (kt : ClassId) (x : Addr) (q : Addr) (kq : ClassId) (za : Int32) (h0 : Heap) (n0 : Nat) (bk : Addr → Prop) (v : Option Value) (h : Heap) (bk' : Addr → Prop) : Prop := ∃ (a : Addr), ∃ (t : Addr), ∃ (kb : ClassId), v = some (.ref a) ∧ NoB = bk' ∧ Keep h0 h [] ∧ (StrL Z h a t kb [en (0 : Int32), en ((16 : Int32) ||| (za >>> ((4 : Int32) &&& 31))), en (((za &&& (15 : Int32)) <<< ((2 : Int32) &&& 31)) ||| (0 : Int32))])
abbrev RM_ets1 : Room := { frames := 3, cells := 3, slots := 10, locals := 48 }
theorem ef_ets1 (m : MethodId) (x0 : Addr) (x1 : Addr) : entryFrame m #[(.ref x0), (.ref x1)] 3 = mkF m 0 #[.val (.ref x0), .val (.ref x1), .unset] [] := by first | (simp [entryFrame, mkF, argsToLocals, Value.category]; done) | rfl
set_option maxRecDepth 65536 in
set_option maxHeartbeats 40000000 in
theorem rm_ets1 (l : Launch) (Z : State) (a0 : Array Value) (G1 : Int32) (G3 : Value) (e0 tb : Addr) (kt : ClassId) (hX : Ctx Z a0 G1 G3) (hY : More Z e0 tb kt) (n0 : Nat) (h0 : Heap) (O0 : Old Z n0 h0) (x : Addr) (q : Addr) (kq : ClassId) (za : Int32) (pf_0 : Exa Z h0 x "java/util/Base64$Encoder") (pf_1 : Fld Z h0 x "java/util/Base64$Encoder" "isURL" "Z" (.int (1 : Int32))) (pf_2 : Fld Z h0 x "java/util/Base64$Encoder" "newline" "[B" .null) (pf_3 : Fld Z h0 x "java/util/Base64$Encoder" "linemax" "I" (.int ((-1) : Int32))) (pf_4 : Fld Z h0 x "java/util/Base64$Encoder" "doPadding" "Z" (.int (0 : Int32))) (pf_5 : Arv Z h0 q kq .byte (2 : Int32) [(.int (1 : Int32)), (.int (za.toInt8.toInt32))] (.int (0 : Int32))) (b_za : 0 ≤ za.toInt ∧ za.toInt ≤ 255) (ws : List Jvm.Cond) : Met l Z EL1 n0 NoB (⟨"java/util/Base64$Encoder", "encodeToString", "([B)Ljava/lang/String;"⟩ : MethodName) jdk_2452_method_5_code 3 (Option.some (FieldType.object "java/lang/String")) RM_ets1 #[(.ref x), (.ref q)] h0 (Q_ets1 Z G1 G3 e0 tb kt x q kq za h0 n0 NoB) ws := by
  have hX' := hX
  obtain ⟨hw, hE, S1, P1, S3, P3⟩ := hX'
  have hY' := hY
  obtain ⟨s_e, x_e, f_u, f_n, f_l, f_p, s_t, a_t⟩ := hY'
  have wT : ∀ (i : Nat) {d : Jvm.Cond}, tables_1[i]? = some d → d.before a0 Z = true := fun i d h => hw d (List.mem_of_getElem? h)
  have z0 : n0 ≤ h0.size := by rw [← O0.1]; exact O0.2.1
  refine Met.of (by decide +kernel) O0 hE ?_
  intro p e s m below meth c hx hby hml hret hlk hnm
  refine k_cast (ef_ets1 m x q) ?_
  show Run p l e _ s m _ below meth c Z EL1 _ n0 NoB h0 0 0 (mkF m 0 #[.val (.ref x), .val (.ref q), .unset] []) _
  have lt_1 : @LT.lt Nat _ x (Array.size h0) := pf_0.lt
  have lt_2 : @LT.lt Nat _ x (Array.size h0) := pf_1.lt
  have lt_3 : @LT.lt Nat _ x (Array.size h0) := pf_2.lt
  have lt_4 : @LT.lt Nat _ x (Array.size h0) := pf_3.lt
  have lt_5 : @LT.lt Nat _ x (Array.size h0) := pf_4.lt
  have lt_6 : @LT.lt Nat _ q (Array.size h0) := pf_5.lt
  refine k_pure (g' := (mkF m 2 #[.val (.ref x), .val (.ref q), .unset] [(.ref q), (.ref x)])) (fun TT HH tt kk => XS.aloadN HH hx rfl (hb hby d457) rfl rfl (XS.aloadN HH hx rfl (hb hby d458) rfl rfl kk)) ?_
  refine k_callV hx (y := (⟨"java/util/Base64$Encoder", "encode", "([B)[B"⟩ : MethodName)) (z := (⟨"java/util/Base64$Encoder", "encode", "([B)[B"⟩ : MethodName)) (wT 61 rfl) (wT 62 rfl) (fun s' hZ => notFace_of_selects (args := #[]) (mv hZ (wT 64 rfl))) (wT 64 rfl) (wT 63 rfl) (by decide) (W := 0) (a := x) (argsL := [(.ref q)]) (rest := []) (Pays.of_met (rm_enc1 l Z a0 G1 G3 e0 tb kt hX hY n0 h0 O0 x q kq za pf_0 pf_1 pf_2 pf_3 pf_4 pf_5 b_za []) (wT 65 rfl) (wT 35 rfl) (by decide) (by decide)) pf_0 rfl (by rw [hml]; rfl) (lenOf pd__28__5b_B_29__5b_B rfl) rfl (by show 2 * 0 + _ ≤ _; exact Nat.le_of_eq rfl) (hb hby d459) (by decide) (by decide) ?_
  intro v_7 h_8 bk_9 O_10 z_11 Q_12
  obtain ⟨a_13, k_14, rfl, rfl, K_15, F_16, F_17, P_18⟩ := Q_12
  have lt_19 : @LT.lt Nat _ a_13 (Array.size h_8) := F_16.lt
  have lt_20 : @LT.lt Nat _ a_13 (Array.size h_8) := F_17.lt
  refine k_pure (g' := (mkF m 6 #[.val (.ref x), .val (.ref q), .val (.ref a_13)] [])) (fun _ J _ j => XS.astoreN J hx rfl (hb hby d460) rfl rfl (l' := #[.val (.ref x), .val (.ref q), .val (.ref a_13)]) rfl j) ?_
  refine k_newO hx (wT 84 rfl) (wT 85 rfl) (wT 86 rfl) rfl (hb hby d461) (by decide) (by decide) ?_
  intro h_22 a_21 g_28 O_23 E_24 A_25 D_26 U_27
  have z_29 := E_24.1
  have lt_30 : @LT.lt Nat _ a_21 (Array.size h_22) := A_25.lt
  refine k_pure (g' := (mkF m 13 #[.val (.ref x), .val (.ref q), .val (.ref a_13)] [(.int (0 : Int32)), (.int (0 : Int32)), (.ref a_13), (.ref a_21), (.ref a_21)])) (fun TT HH tt kk => XS.dup HH hx rfl (hb hby d462) rfl rfl (XS.aloadN HH hx rfl (hb hby d463) rfl rfl (XS.iconst HH hx rfl (hb hby d464) (XS.iconst HH hx rfl (hb hby d465) kk)))) ?_
  refine k_pure (g' := (mkF m 14 #[.val (.ref x), .val (.ref q), .val (.ref a_13)] [(.ref a_13), (.int (0 : Int32)), (.int (0 : Int32)), (.ref a_13), (.ref a_21), (.ref a_21)])) (fun _ J _ j => XS.aloadN J hx rfl (hb hby d466) rfl rfl j) ?_
  have F_31 : Arv Z h_22 a_13 k_14 .byte (3 : Int32) [(.int ((en (0 : Int32)).toInt8.toInt32)), (.int ((en ((16 : Int32) ||| (za >>> ((4 : Int32) &&& 31)))).toInt8.toInt32)), (.int ((en (((za &&& (15 : Int32)) <<< ((2 : Int32) &&& 31)) ||| (0 : Int32))).toInt8.toInt32))] (.int (0 : Int32)) := (F_17.ext E_24)
  refine k_alen hx F_31 rfl rfl (hb hby d467) ?_
  show Run p l e _ s m _ below meth c Z EL1 _ n0 NoB h_22 2 7 (mkF m 15 #[.val (.ref x), .val (.ref q), .val (.ref a_13)] [(.int (3 : Int32)), (.int (0 : Int32)), (.int (0 : Int32)), (.ref a_13), (.ref a_21), (.ref a_21)]) _
  have F_32 : Exa Z h_22 a_13 "[B" := (F_16.ext E_24)
  refine k_callI hx (y := (⟨"java/lang/String", "<init>", "([BIII)V"⟩ : MethodName)) rfl (wT 87 rfl) (wT 88 rfl) (wT 90 rfl) (by decide) (W := 1) (a := a_21) (argsL := [(.ref a_13), (.int (0 : Int32)), (.int (0 : Int32)), (.int (3 : Int32))]) (rest := [(.ref a_21)]) (Pays.of_met (rm_sbi1 l Z a0 G1 G3 e0 tb kt hX hY n0 h_22 O_23 a_21 a_13 k_14 za A_25 (D_26 (Or.inr (wT 108 rfl)) (ty := (.array .byte)) (by decide)) (D_26 (Or.inr (wT 110 rfl)) (ty := .byte) (by decide)) F_32 F_31 (by omega) (by omega) []) (wT 90 rfl) (wT 86 rfl) (by decide) (by decide)) rfl (by rw [hml]; rfl) (lenOf pd__28__5b_BIII_29_V rfl) rfl (by show 2 * 0 + _ ≤ _; exact Nat.le_of_eq rfl) (hb hby d468) (by decide) (by decide) ?_
  intro v_33 h_34 bk_35 O_36 z_37 Q_38
  obtain ⟨a_39, k_40, rfl, rfl, K_41, F_42⟩ := Q_38
  have lt_43 : @LT.lt Nat _ a_21 (Array.size h_34) := F_42.lt1
  have lt_44 : @LT.lt Nat _ a_39 (Array.size h_34) := F_42.lt2
  show Run p l e _ s m _ below meth c Z EL1 _ n0 NoB h_34 3 10 (mkF m 18 #[.val (.ref x), .val (.ref q), .val (.ref a_13)] [(.ref a_21)]) _
  exact k_retA hx hlk hret rfl rfl rfl (hb hby d469) (by decide) (by decide) ⟨a_21, a_39, k_40, rfl, rfl, ((((Keep.refl _ _).trans K_15 kk0).ext E_24).trans K_41 (kkS (Or.inr (by omega)) kk0)), F_42⟩
def Q_ets2 (Z : State) (G1 : Int32) (G3 : Value) (e0 tb : Addr) (kt : ClassId) (x : Addr) (q : Addr) (kq : ClassId) (za : Int32) (zb : Int32) (h0 : Heap) (n0 : Nat) (bk : Addr → Prop) (v : Option Value) (h : Heap) (bk' : Addr → Prop) : Prop := ∃ (a : Addr), ∃ (t : Addr), ∃ (kb : ClassId), v = some (.ref a) ∧ NoB = bk' ∧ Keep h0 h [] ∧ (StrL Z h a t kb [en (0 : Int32), en ((16 : Int32) ||| (za >>> ((4 : Int32) &&& 31))), en (((za &&& (15 : Int32)) <<< ((2 : Int32) &&& 31)) ||| (zb >>> ((6 : Int32) &&& 31))), en (zb &&& (63 : Int32))])
abbrev RM_ets2 : Room := { frames := 3, cells := 3, slots := 12, locals := 65 }
theorem ef_ets2 (m : MethodId) (x0 : Addr) (x1 : Addr) : entryFrame m #[(.ref x0), (.ref x1)] 3 = mkF m 0 #[.val (.ref x0), .val (.ref x1), .unset] [] := by first | (simp [entryFrame, mkF, argsToLocals, Value.category]; done) | rfl
set_option maxRecDepth 65536 in
set_option maxHeartbeats 40000000 in
theorem rm_ets2 (l : Launch) (Z : State) (a0 : Array Value) (G1 : Int32) (G3 : Value) (e0 tb : Addr) (kt : ClassId) (hX : Ctx Z a0 G1 G3) (hY : More Z e0 tb kt) (n0 : Nat) (h0 : Heap) (O0 : Old Z n0 h0) (x : Addr) (q : Addr) (kq : ClassId) (za : Int32) (zb : Int32) (pf_0 : Exa Z h0 x "java/util/Base64$Encoder") (pf_1 : Fld Z h0 x "java/util/Base64$Encoder" "isURL" "Z" (.int (1 : Int32))) (pf_2 : Fld Z h0 x "java/util/Base64$Encoder" "newline" "[B" .null) (pf_3 : Fld Z h0 x "java/util/Base64$Encoder" "linemax" "I" (.int ((-1) : Int32))) (pf_4 : Fld Z h0 x "java/util/Base64$Encoder" "doPadding" "Z" (.int (0 : Int32))) (pf_5 : Arv Z h0 q kq .byte (3 : Int32) [(.int (1 : Int32)), (.int (za.toInt8.toInt32)), (.int (zb.toInt8.toInt32))] (.int (0 : Int32))) (b_za : 0 ≤ za.toInt ∧ za.toInt ≤ 255) (b_zb : 0 ≤ zb.toInt ∧ zb.toInt ≤ 255) (ws : List Jvm.Cond) : Met l Z EL1 n0 NoB (⟨"java/util/Base64$Encoder", "encodeToString", "([B)Ljava/lang/String;"⟩ : MethodName) jdk_2452_method_5_code 3 (Option.some (FieldType.object "java/lang/String")) RM_ets2 #[(.ref x), (.ref q)] h0 (Q_ets2 Z G1 G3 e0 tb kt x q kq za zb h0 n0 NoB) ws := by
  have hX' := hX
  obtain ⟨hw, hE, S1, P1, S3, P3⟩ := hX'
  have hY' := hY
  obtain ⟨s_e, x_e, f_u, f_n, f_l, f_p, s_t, a_t⟩ := hY'
  have wT : ∀ (i : Nat) {d : Jvm.Cond}, tables_1[i]? = some d → d.before a0 Z = true := fun i d h => hw d (List.mem_of_getElem? h)
  have z0 : n0 ≤ h0.size := by rw [← O0.1]; exact O0.2.1
  refine Met.of (by decide +kernel) O0 hE ?_
  intro p e s m below meth c hx hby hml hret hlk hnm
  refine k_cast (ef_ets2 m x q) ?_
  show Run p l e _ s m _ below meth c Z EL1 _ n0 NoB h0 0 0 (mkF m 0 #[.val (.ref x), .val (.ref q), .unset] []) _
  have lt_1 : @LT.lt Nat _ x (Array.size h0) := pf_0.lt
  have lt_2 : @LT.lt Nat _ x (Array.size h0) := pf_1.lt
  have lt_3 : @LT.lt Nat _ x (Array.size h0) := pf_2.lt
  have lt_4 : @LT.lt Nat _ x (Array.size h0) := pf_3.lt
  have lt_5 : @LT.lt Nat _ x (Array.size h0) := pf_4.lt
  have lt_6 : @LT.lt Nat _ q (Array.size h0) := pf_5.lt
  refine k_pure (g' := (mkF m 2 #[.val (.ref x), .val (.ref q), .unset] [(.ref q), (.ref x)])) (fun TT HH tt kk => XS.aloadN HH hx rfl (hb hby d457) rfl rfl (XS.aloadN HH hx rfl (hb hby d458) rfl rfl kk)) ?_
  refine k_callV hx (y := (⟨"java/util/Base64$Encoder", "encode", "([B)[B"⟩ : MethodName)) (z := (⟨"java/util/Base64$Encoder", "encode", "([B)[B"⟩ : MethodName)) (wT 61 rfl) (wT 62 rfl) (fun s' hZ => notFace_of_selects (args := #[]) (mv hZ (wT 64 rfl))) (wT 64 rfl) (wT 63 rfl) (by decide) (W := 0) (a := x) (argsL := [(.ref q)]) (rest := []) (Pays.of_met (rm_enc2 l Z a0 G1 G3 e0 tb kt hX hY n0 h0 O0 x q kq za zb pf_0 pf_1 pf_2 pf_3 pf_4 pf_5 b_za b_zb []) (wT 65 rfl) (wT 35 rfl) (by decide) (by decide)) pf_0 rfl (by rw [hml]; rfl) (lenOf pd__28__5b_B_29__5b_B rfl) rfl (by show 2 * 0 + _ ≤ _; exact Nat.le_of_eq rfl) (hb hby d459) (by decide) (by decide) ?_
  intro v_7 h_8 bk_9 O_10 z_11 Q_12
  obtain ⟨a_13, k_14, rfl, rfl, K_15, F_16, F_17, P_18⟩ := Q_12
  have lt_19 : @LT.lt Nat _ a_13 (Array.size h_8) := F_16.lt
  have lt_20 : @LT.lt Nat _ a_13 (Array.size h_8) := F_17.lt
  refine k_pure (g' := (mkF m 6 #[.val (.ref x), .val (.ref q), .val (.ref a_13)] [])) (fun _ J _ j => XS.astoreN J hx rfl (hb hby d460) rfl rfl (l' := #[.val (.ref x), .val (.ref q), .val (.ref a_13)]) rfl j) ?_
  refine k_newO hx (wT 84 rfl) (wT 85 rfl) (wT 86 rfl) rfl (hb hby d461) (by decide) (by decide) ?_
  intro h_22 a_21 g_28 O_23 E_24 A_25 D_26 U_27
  have z_29 := E_24.1
  have lt_30 : @LT.lt Nat _ a_21 (Array.size h_22) := A_25.lt
  refine k_pure (g' := (mkF m 13 #[.val (.ref x), .val (.ref q), .val (.ref a_13)] [(.int (0 : Int32)), (.int (0 : Int32)), (.ref a_13), (.ref a_21), (.ref a_21)])) (fun TT HH tt kk => XS.dup HH hx rfl (hb hby d462) rfl rfl (XS.aloadN HH hx rfl (hb hby d463) rfl rfl (XS.iconst HH hx rfl (hb hby d464) (XS.iconst HH hx rfl (hb hby d465) kk)))) ?_
  refine k_pure (g' := (mkF m 14 #[.val (.ref x), .val (.ref q), .val (.ref a_13)] [(.ref a_13), (.int (0 : Int32)), (.int (0 : Int32)), (.ref a_13), (.ref a_21), (.ref a_21)])) (fun _ J _ j => XS.aloadN J hx rfl (hb hby d466) rfl rfl j) ?_
  have F_31 : Arv Z h_22 a_13 k_14 .byte (4 : Int32) [(.int ((en (0 : Int32)).toInt8.toInt32)), (.int ((en ((16 : Int32) ||| (za >>> ((4 : Int32) &&& 31)))).toInt8.toInt32)), (.int ((en (((za &&& (15 : Int32)) <<< ((2 : Int32) &&& 31)) ||| (zb >>> ((6 : Int32) &&& 31)))).toInt8.toInt32)), (.int ((en (zb &&& (63 : Int32))).toInt8.toInt32))] (.int (0 : Int32)) := (F_17.ext E_24)
  refine k_alen hx F_31 rfl rfl (hb hby d467) ?_
  show Run p l e _ s m _ below meth c Z EL1 _ n0 NoB h_22 2 8 (mkF m 15 #[.val (.ref x), .val (.ref q), .val (.ref a_13)] [(.int (4 : Int32)), (.int (0 : Int32)), (.int (0 : Int32)), (.ref a_13), (.ref a_21), (.ref a_21)]) _
  have F_32 : Exa Z h_22 a_13 "[B" := (F_16.ext E_24)
  refine k_callI hx (y := (⟨"java/lang/String", "<init>", "([BIII)V"⟩ : MethodName)) rfl (wT 87 rfl) (wT 88 rfl) (wT 90 rfl) (by decide) (W := 1) (a := a_21) (argsL := [(.ref a_13), (.int (0 : Int32)), (.int (0 : Int32)), (.int (4 : Int32))]) (rest := [(.ref a_21)]) (Pays.of_met (rm_sbi2 l Z a0 G1 G3 e0 tb kt hX hY n0 h_22 O_23 a_21 a_13 k_14 za zb A_25 (D_26 (Or.inr (wT 108 rfl)) (ty := (.array .byte)) (by decide)) (D_26 (Or.inr (wT 110 rfl)) (ty := .byte) (by decide)) F_32 F_31 (by omega) (by omega) []) (wT 90 rfl) (wT 86 rfl) (by decide) (by decide)) rfl (by rw [hml]; rfl) (lenOf pd__28__5b_BIII_29_V rfl) rfl (by show 2 * 0 + _ ≤ _; exact Nat.le_of_eq rfl) (hb hby d468) (by decide) (by decide) ?_
  intro v_33 h_34 bk_35 O_36 z_37 Q_38
  obtain ⟨a_39, k_40, rfl, rfl, K_41, F_42⟩ := Q_38
  have lt_43 : @LT.lt Nat _ a_21 (Array.size h_34) := F_42.lt1
  have lt_44 : @LT.lt Nat _ a_39 (Array.size h_34) := F_42.lt2
  show Run p l e _ s m _ below meth c Z EL1 _ n0 NoB h_34 3 12 (mkF m 18 #[.val (.ref x), .val (.ref q), .val (.ref a_13)] [(.ref a_21)]) _
  exact k_retA hx hlk hret rfl rfl rfl (hb hby d469) (by decide) (by decide) ⟨a_21, a_39, k_40, rfl, rfl, ((((Keep.refl _ _).trans K_15 kk0).ext E_24).trans K_41 (kkS (Or.inr (by omega)) kk0)), F_42⟩
def Q_ets3 (Z : State) (G1 : Int32) (G3 : Value) (e0 tb : Addr) (kt : ClassId) (x : Addr) (q : Addr) (kq : ClassId) (za : Int32) (zb : Int32) (zc : Int32) (h0 : Heap) (n0 : Nat) (bk : Addr → Prop) (v : Option Value) (h : Heap) (bk' : Addr → Prop) : Prop := ∃ (a : Addr), ∃ (t : Addr), ∃ (kb : ClassId), v = some (.ref a) ∧ NoB = bk' ∧ Keep h0 h [] ∧ (StrL Z h a t kb [en (0 : Int32), en ((16 : Int32) ||| (za >>> ((4 : Int32) &&& 31))), en (((za &&& (15 : Int32)) <<< ((2 : Int32) &&& 31)) ||| (zb >>> ((6 : Int32) &&& 31))), en (zb &&& (63 : Int32)), en (zc >>> ((2 : Int32) &&& 31)), en ((zc &&& (3 : Int32)) <<< ((4 : Int32) &&& 31))])
abbrev RM_ets3 : Room := { frames := 3, cells := 3, slots := 16, locals := 65 }
theorem ef_ets3 (m : MethodId) (x0 : Addr) (x1 : Addr) : entryFrame m #[(.ref x0), (.ref x1)] 3 = mkF m 0 #[.val (.ref x0), .val (.ref x1), .unset] [] := by first | (simp [entryFrame, mkF, argsToLocals, Value.category]; done) | rfl
set_option maxRecDepth 65536 in
set_option maxHeartbeats 40000000 in
theorem rm_ets3 (l : Launch) (Z : State) (a0 : Array Value) (G1 : Int32) (G3 : Value) (e0 tb : Addr) (kt : ClassId) (hX : Ctx Z a0 G1 G3) (hY : More Z e0 tb kt) (n0 : Nat) (h0 : Heap) (O0 : Old Z n0 h0) (x : Addr) (q : Addr) (kq : ClassId) (za : Int32) (zb : Int32) (zc : Int32) (pf_0 : Exa Z h0 x "java/util/Base64$Encoder") (pf_1 : Fld Z h0 x "java/util/Base64$Encoder" "isURL" "Z" (.int (1 : Int32))) (pf_2 : Fld Z h0 x "java/util/Base64$Encoder" "newline" "[B" .null) (pf_3 : Fld Z h0 x "java/util/Base64$Encoder" "linemax" "I" (.int ((-1) : Int32))) (pf_4 : Fld Z h0 x "java/util/Base64$Encoder" "doPadding" "Z" (.int (0 : Int32))) (pf_5 : Arv Z h0 q kq .byte (4 : Int32) [(.int (1 : Int32)), (.int (za.toInt8.toInt32)), (.int (zb.toInt8.toInt32)), (.int (zc.toInt8.toInt32))] (.int (0 : Int32))) (b_za : 0 ≤ za.toInt ∧ za.toInt ≤ 255) (b_zb : 0 ≤ zb.toInt ∧ zb.toInt ≤ 255) (b_zc : 0 ≤ zc.toInt ∧ zc.toInt ≤ 255) (ws : List Jvm.Cond) : Met l Z EL1 n0 NoB (⟨"java/util/Base64$Encoder", "encodeToString", "([B)Ljava/lang/String;"⟩ : MethodName) jdk_2452_method_5_code 3 (Option.some (FieldType.object "java/lang/String")) RM_ets3 #[(.ref x), (.ref q)] h0 (Q_ets3 Z G1 G3 e0 tb kt x q kq za zb zc h0 n0 NoB) ws := by
  have hX' := hX
  obtain ⟨hw, hE, S1, P1, S3, P3⟩ := hX'
  have hY' := hY
  obtain ⟨s_e, x_e, f_u, f_n, f_l, f_p, s_t, a_t⟩ := hY'
  have wT : ∀ (i : Nat) {d : Jvm.Cond}, tables_1[i]? = some d → d.before a0 Z = true := fun i d h => hw d (List.mem_of_getElem? h)
  have z0 : n0 ≤ h0.size := by rw [← O0.1]; exact O0.2.1
  refine Met.of (by decide +kernel) O0 hE ?_
  intro p e s m below meth c hx hby hml hret hlk hnm
  refine k_cast (ef_ets3 m x q) ?_
  show Run p l e _ s m _ below meth c Z EL1 _ n0 NoB h0 0 0 (mkF m 0 #[.val (.ref x), .val (.ref q), .unset] []) _
  have lt_1 : @LT.lt Nat _ x (Array.size h0) := pf_0.lt
  have lt_2 : @LT.lt Nat _ x (Array.size h0) := pf_1.lt
  have lt_3 : @LT.lt Nat _ x (Array.size h0) := pf_2.lt
  have lt_4 : @LT.lt Nat _ x (Array.size h0) := pf_3.lt
  have lt_5 : @LT.lt Nat _ x (Array.size h0) := pf_4.lt
  have lt_6 : @LT.lt Nat _ q (Array.size h0) := pf_5.lt
  refine k_pure (g' := (mkF m 2 #[.val (.ref x), .val (.ref q), .unset] [(.ref q), (.ref x)])) (fun TT HH tt kk => XS.aloadN HH hx rfl (hb hby d457) rfl rfl (XS.aloadN HH hx rfl (hb hby d458) rfl rfl kk)) ?_
  refine k_callV hx (y := (⟨"java/util/Base64$Encoder", "encode", "([B)[B"⟩ : MethodName)) (z := (⟨"java/util/Base64$Encoder", "encode", "([B)[B"⟩ : MethodName)) (wT 61 rfl) (wT 62 rfl) (fun s' hZ => notFace_of_selects (args := #[]) (mv hZ (wT 64 rfl))) (wT 64 rfl) (wT 63 rfl) (by decide) (W := 0) (a := x) (argsL := [(.ref q)]) (rest := []) (Pays.of_met (rm_enc3 l Z a0 G1 G3 e0 tb kt hX hY n0 h0 O0 x q kq za zb zc pf_0 pf_1 pf_2 pf_3 pf_4 pf_5 b_za b_zb b_zc []) (wT 65 rfl) (wT 35 rfl) (by decide) (by decide)) pf_0 rfl (by rw [hml]; rfl) (lenOf pd__28__5b_B_29__5b_B rfl) rfl (by show 2 * 0 + _ ≤ _; exact Nat.le_of_eq rfl) (hb hby d459) (by decide) (by decide) ?_
  intro v_7 h_8 bk_9 O_10 z_11 Q_12
  obtain ⟨a_13, k_14, rfl, rfl, K_15, F_16, F_17, P_18⟩ := Q_12
  have lt_19 : @LT.lt Nat _ a_13 (Array.size h_8) := F_16.lt
  have lt_20 : @LT.lt Nat _ a_13 (Array.size h_8) := F_17.lt
  refine k_pure (g' := (mkF m 6 #[.val (.ref x), .val (.ref q), .val (.ref a_13)] [])) (fun _ J _ j => XS.astoreN J hx rfl (hb hby d460) rfl rfl (l' := #[.val (.ref x), .val (.ref q), .val (.ref a_13)]) rfl j) ?_
  refine k_newO hx (wT 84 rfl) (wT 85 rfl) (wT 86 rfl) rfl (hb hby d461) (by decide) (by decide) ?_
  intro h_22 a_21 g_28 O_23 E_24 A_25 D_26 U_27
  have z_29 := E_24.1
  have lt_30 : @LT.lt Nat _ a_21 (Array.size h_22) := A_25.lt
  refine k_pure (g' := (mkF m 13 #[.val (.ref x), .val (.ref q), .val (.ref a_13)] [(.int (0 : Int32)), (.int (0 : Int32)), (.ref a_13), (.ref a_21), (.ref a_21)])) (fun TT HH tt kk => XS.dup HH hx rfl (hb hby d462) rfl rfl (XS.aloadN HH hx rfl (hb hby d463) rfl rfl (XS.iconst HH hx rfl (hb hby d464) (XS.iconst HH hx rfl (hb hby d465) kk)))) ?_
  refine k_pure (g' := (mkF m 14 #[.val (.ref x), .val (.ref q), .val (.ref a_13)] [(.ref a_13), (.int (0 : Int32)), (.int (0 : Int32)), (.ref a_13), (.ref a_21), (.ref a_21)])) (fun _ J _ j => XS.aloadN J hx rfl (hb hby d466) rfl rfl j) ?_
  have F_31 : Arv Z h_22 a_13 k_14 .byte (6 : Int32) [(.int ((en (0 : Int32)).toInt8.toInt32)), (.int ((en ((16 : Int32) ||| (za >>> ((4 : Int32) &&& 31)))).toInt8.toInt32)), (.int ((en (((za &&& (15 : Int32)) <<< ((2 : Int32) &&& 31)) ||| (zb >>> ((6 : Int32) &&& 31)))).toInt8.toInt32)), (.int ((en (zb &&& (63 : Int32))).toInt8.toInt32)), (.int ((en (zc >>> ((2 : Int32) &&& 31))).toInt8.toInt32)), (.int ((en ((zc &&& (3 : Int32)) <<< ((4 : Int32) &&& 31))).toInt8.toInt32))] (.int (0 : Int32)) := (F_17.ext E_24)
  refine k_alen hx F_31 rfl rfl (hb hby d467) ?_
  show Run p l e _ s m _ below meth c Z EL1 _ n0 NoB h_22 2 10 (mkF m 15 #[.val (.ref x), .val (.ref q), .val (.ref a_13)] [(.int (6 : Int32)), (.int (0 : Int32)), (.int (0 : Int32)), (.ref a_13), (.ref a_21), (.ref a_21)]) _
  have F_32 : Exa Z h_22 a_13 "[B" := (F_16.ext E_24)
  refine k_callI hx (y := (⟨"java/lang/String", "<init>", "([BIII)V"⟩ : MethodName)) rfl (wT 87 rfl) (wT 88 rfl) (wT 90 rfl) (by decide) (W := 1) (a := a_21) (argsL := [(.ref a_13), (.int (0 : Int32)), (.int (0 : Int32)), (.int (6 : Int32))]) (rest := [(.ref a_21)]) (Pays.of_met (rm_sbi3 l Z a0 G1 G3 e0 tb kt hX hY n0 h_22 O_23 a_21 a_13 k_14 za zb zc A_25 (D_26 (Or.inr (wT 108 rfl)) (ty := (.array .byte)) (by decide)) (D_26 (Or.inr (wT 110 rfl)) (ty := .byte) (by decide)) F_32 F_31 (by omega) (by omega) []) (wT 90 rfl) (wT 86 rfl) (by decide) (by decide)) rfl (by rw [hml]; rfl) (lenOf pd__28__5b_BIII_29_V rfl) rfl (by show 2 * 0 + _ ≤ _; exact Nat.le_of_eq rfl) (hb hby d468) (by decide) (by decide) ?_
  intro v_33 h_34 bk_35 O_36 z_37 Q_38
  obtain ⟨a_39, k_40, rfl, rfl, K_41, F_42⟩ := Q_38
  have lt_43 : @LT.lt Nat _ a_21 (Array.size h_34) := F_42.lt1
  have lt_44 : @LT.lt Nat _ a_39 (Array.size h_34) := F_42.lt2
  show Run p l e _ s m _ below meth c Z EL1 _ n0 NoB h_34 3 16 (mkF m 18 #[.val (.ref x), .val (.ref q), .val (.ref a_13)] [(.ref a_21)]) _
  exact k_retA hx hlk hret rfl rfl rfl (hb hby d469) (by decide) (by decide) ⟨a_21, a_39, k_40, rfl, rfl, ((((Keep.refl _ _).trans K_15 kk0).ext E_24).trans K_41 (kkS (Or.inr (by omega)) kk0)), F_42⟩
def Q_ein (Z : State) (G1 : Int32) (G3 : Value) (e0 tb : Addr) (kt : ClassId) (x : Addr) (h0 : Heap) (n0 : Nat) (bk : Addr → Prop) (v : Option Value) (h : Heap) (bk' : Addr → Prop) : Prop := v = none ∧ NoB = bk' ∧ Keep h0 h [x] ∧ (Exa Z h x "java/util/Base64$Encoder") ∧ (Fld Z h x "java/util/Base64$Encoder" "isURL" "Z" (.int (1 : Int32))) ∧ (Fld Z h x "java/util/Base64$Encoder" "newline" "[B" .null) ∧ (Fld Z h x "java/util/Base64$Encoder" "linemax" "I" (.int ((-1) : Int32))) ∧ (Fld Z h x "java/util/Base64$Encoder" "doPadding" "Z" (.int (0 : Int32)))
theorem d470 : decode jdk_2452_method_1_code 0 = .ok (.aload_n 0, 1) := by decide +kernel
theorem d471 : decode jdk_2452_method_1_code 1 = .ok (.invokespecial 1, 3) := by decide +kernel
theorem d472 : decode jdk_2452_method_1_code 4 = .ok (.aload_n 0, 1) := by decide +kernel
theorem d473 : decode jdk_2452_method_1_code 5 = .ok (.iload_n 1, 1) := by decide +kernel
theorem d474 : decode jdk_2452_method_1_code 6 = .ok (.putfield 7, 3) := by decide +kernel
theorem d475 : decode jdk_2452_method_1_code 9 = .ok (.aload_n 0, 1) := by decide +kernel
theorem d476 : decode jdk_2452_method_1_code 10 = .ok (.aload_n 2, 1) := by decide +kernel
theorem d477 : decode jdk_2452_method_1_code 11 = .ok (.putfield 13, 3) := by decide +kernel
theorem d478 : decode jdk_2452_method_1_code 14 = .ok (.aload_n 0, 1) := by decide +kernel
theorem d479 : decode jdk_2452_method_1_code 15 = .ok (.iload_n 3, 1) := by decide +kernel
theorem d480 : decode jdk_2452_method_1_code 16 = .ok (.putfield 17, 3) := by decide +kernel
theorem d481 : decode jdk_2452_method_1_code 19 = .ok (.aload_n 0, 1) := by decide +kernel
theorem d482 : decode jdk_2452_method_1_code 20 = .ok (.iload 4, 2) := by decide +kernel
theorem d483 : decode jdk_2452_method_1_code 22 = .ok (.putfield 21, 3) := by decide +kernel
theorem d484 : decode jdk_2452_method_1_code 25 = .ok (.return_, 1) := by decide +kernel
abbrev RM_ein : Room := { frames := 1, cells := 0, slots := 0, locals := 12 }
theorem ef_ein (m : MethodId) (x0 : Addr) (x1 : Int32) (x3 : Int32) (x4 : Int32) : entryFrame m #[(.ref x0), (.int x1), .null, (.int x3), (.int x4)] 5 = mkF m 0 #[.val (.ref x0), .val (.int x1), .val .null, .val (.int x3), .val (.int x4)] [] := by first | (simp [entryFrame, mkF, argsToLocals, Value.category]; done) | rfl
set_option maxRecDepth 65536 in
set_option maxHeartbeats 40000000 in
theorem rm_ein (l : Launch) (Z : State) (a0 : Array Value) (G1 : Int32) (G3 : Value) (e0 tb : Addr) (kt : ClassId) (hX : Ctx Z a0 G1 G3) (hY : More Z e0 tb kt) (n0 : Nat) (h0 : Heap) (O0 : Old Z n0 h0) (x : Addr) (pf_0 : Exa Z h0 x "java/util/Base64$Encoder") (pf_1 : Fld Z h0 x "java/util/Base64$Encoder" "isURL" "Z" (.int (0 : Int32))) (pf_2 : Fld Z h0 x "java/util/Base64$Encoder" "newline" "[B" .null) (pf_3 : Fld Z h0 x "java/util/Base64$Encoder" "linemax" "I" (.int (0 : Int32))) (pf_4 : Fld Z h0 x "java/util/Base64$Encoder" "doPadding" "Z" (.int (0 : Int32))) (gx : n0 ≤ x) (ws : List Jvm.Cond) : Met l Z EL1 n0 NoB (⟨"java/util/Base64$Encoder", "<init>", "(Z[BIZ)V"⟩ : MethodName) jdk_2452_method_1_code 5 (Option.none : Option FieldType) RM_ein #[(.ref x), (.int (1 : Int32)), .null, (.int ((-1) : Int32)), (.int (0 : Int32))] h0 (Q_ein Z G1 G3 e0 tb kt x h0 n0 NoB) ws := by
  have hX' := hX
  obtain ⟨hw, hE, S1, P1, S3, P3⟩ := hX'
  have hY' := hY
  obtain ⟨s_e, x_e, f_u, f_n, f_l, f_p, s_t, a_t⟩ := hY'
  have wT : ∀ (i : Nat) {d : Jvm.Cond}, tables_1[i]? = some d → d.before a0 Z = true := fun i d h => hw d (List.mem_of_getElem? h)
  have z0 : n0 ≤ h0.size := by rw [← O0.1]; exact O0.2.1
  refine Met.of (by decide +kernel) O0 hE ?_
  intro p e s m below meth c hx hby hml hret hlk hnm
  refine k_cast (ef_ein m x (1 : Int32) ((-1) : Int32) (0 : Int32)) ?_
  show Run p l e _ s m _ below meth c Z EL1 _ n0 NoB h0 0 0 (mkF m 0 #[.val (.ref x), .val (.int (1 : Int32)), .val .null, .val (.int ((-1) : Int32)), .val (.int (0 : Int32))] []) _
  have lt_1 : @LT.lt Nat _ x (Array.size h0) := pf_0.lt
  have lt_2 : @LT.lt Nat _ x (Array.size h0) := pf_1.lt
  have lt_3 : @LT.lt Nat _ x (Array.size h0) := pf_2.lt
  have lt_4 : @LT.lt Nat _ x (Array.size h0) := pf_3.lt
  have lt_5 : @LT.lt Nat _ x (Array.size h0) := pf_4.lt
  refine k_pure (g' := (mkF m 1 #[.val (.ref x), .val (.int (1 : Int32)), .val .null, .val (.int ((-1) : Int32)), .val (.int (0 : Int32))] [(.ref x)])) (fun _ J _ j => XS.aloadN J hx rfl (hb hby d470) rfl rfl j) ?_
  refine k_initO hx (wT 55 rfl) (wT 8 rfl) (wT 9 rfl) rfl (by rw [hml]; rfl) rfl (hb hby d471) (by decide) (W := 0) (by show 2 * 0 + _ ≤ _; exact Nat.le_of_eq rfl) (by decide) ?_
  refine k_pure (g' := (mkF m 6 #[.val (.ref x), .val (.int (1 : Int32)), .val .null, .val (.int ((-1) : Int32)), .val (.int (0 : Int32))] [(.int (1 : Int32)), (.ref x)])) (fun TT HH tt kk => XS.aloadN HH hx rfl (hb hby d472) rfl rfl (XS.iloadN HH hx rfl (hb hby d473) rfl kk)) ?_
  refine k_putF hx (host := "") (Or.inl (wT 45 rfl)) Via.refl pf_1 pf_0 (Or.inr ⟨(wT 46 rfl), rfl, hnm⟩) (wT 44 rfl) (ty := .boolean) (by decide) rfl rfl (by omega) (fun q => q) rfl rfl (hb hby d474) ?_
  intro h_6 O_8 W_7
  have z_9 := W_7.size
  refine k_pure (g' := (mkF m 11 #[.val (.ref x), .val (.int (1 : Int32)), .val .null, .val (.int ((-1) : Int32)), .val (.int (0 : Int32))] [.null, (.ref x)])) (fun TT HH tt kk => XS.aloadN HH hx rfl (hb hby d475) rfl rfl (XS.aloadN HH hx rfl (hb hby d476) rfl rfl kk)) ?_
  have F_10 : Fld Z h_6 x "java/util/Base64$Encoder" "newline" "[B" .null := (pf_2.other W_7 (Or.inr (RoadKit.slot_ne (C := "java/util/Base64$Encoder") (Or.inr (wT 48 rfl)) (Or.inr (wT 46 rfl)) (by decide) (t := (.array .byte)) (t' := .boolean) (by decide) (by decide))))
  have F_11 : Exa Z h_6 x "java/util/Base64$Encoder" := (pf_0.wr W_7)
  refine k_putF hx (host := "") (Or.inl (wT 47 rfl)) Via.refl F_10 F_11 (Or.inr ⟨(wT 48 rfl), rfl, hnm⟩) (wT 44 rfl) (ty := (.array .byte)) (by decide) rfl rfl (by omega) (fun q => q) rfl rfl (hb hby d477) ?_
  intro h_12 O_14 W_13
  have z_15 := W_13.size
  refine k_pure (g' := (mkF m 16 #[.val (.ref x), .val (.int (1 : Int32)), .val .null, .val (.int ((-1) : Int32)), .val (.int (0 : Int32))] [(.int ((-1) : Int32)), (.ref x)])) (fun TT HH tt kk => XS.aloadN HH hx rfl (hb hby d478) rfl rfl (XS.iloadN HH hx rfl (hb hby d479) rfl kk)) ?_
  have F_16 : Fld Z h_12 x "java/util/Base64$Encoder" "linemax" "I" (.int (0 : Int32)) := ((pf_3.other W_7 (Or.inr (RoadKit.slot_ne (C := "java/util/Base64$Encoder") (Or.inr (wT 50 rfl)) (Or.inr (wT 46 rfl)) (by decide) (t := .int) (t' := .boolean) (by decide) (by decide)))).other W_13 (Or.inr (RoadKit.slot_ne (C := "java/util/Base64$Encoder") (Or.inr (wT 50 rfl)) (Or.inr (wT 48 rfl)) (by decide) (t := .int) (t' := (.array .byte)) (by decide) (by decide))))
  have F_17 : Exa Z h_12 x "java/util/Base64$Encoder" := (F_11.wr W_13)
  refine k_putF hx (host := "") (Or.inl (wT 49 rfl)) Via.refl F_16 F_17 (Or.inr ⟨(wT 50 rfl), rfl, hnm⟩) (wT 44 rfl) (ty := .int) (by decide) rfl rfl (by omega) (fun q => q) rfl rfl (hb hby d480) ?_
  intro h_18 O_20 W_19
  have z_21 := W_19.size
  refine k_pure (g' := (mkF m 22 #[.val (.ref x), .val (.int (1 : Int32)), .val .null, .val (.int ((-1) : Int32)), .val (.int (0 : Int32))] [(.int (0 : Int32)), (.ref x)])) (fun TT HH tt kk => XS.aloadN HH hx rfl (hb hby d481) rfl rfl (XS.iload HH hx rfl (hb hby d482) rfl kk)) ?_
  have F_22 : Fld Z h_18 x "java/util/Base64$Encoder" "doPadding" "Z" (.int (0 : Int32)) := (((pf_4.other W_7 (Or.inr (RoadKit.slot_ne (C := "java/util/Base64$Encoder") (Or.inr (wT 42 rfl)) (Or.inr (wT 46 rfl)) (by decide) (t := .boolean) (t' := .boolean) (by decide) (by decide)))).other W_13 (Or.inr (RoadKit.slot_ne (C := "java/util/Base64$Encoder") (Or.inr (wT 42 rfl)) (Or.inr (wT 48 rfl)) (by decide) (t := .boolean) (t' := (.array .byte)) (by decide) (by decide)))).other W_19 (Or.inr (RoadKit.slot_ne (C := "java/util/Base64$Encoder") (Or.inr (wT 42 rfl)) (Or.inr (wT 50 rfl)) (by decide) (t := .boolean) (t' := .int) (by decide) (by decide))))
  have F_23 : Exa Z h_18 x "java/util/Base64$Encoder" := (F_17.wr W_19)
  refine k_putF hx (host := "") (Or.inl (wT 41 rfl)) Via.refl F_22 F_23 (Or.inr ⟨(wT 42 rfl), rfl, hnm⟩) (wT 44 rfl) (ty := .boolean) (by decide) rfl rfl (by omega) (fun q => q) rfl rfl (hb hby d483) ?_
  intro h_24 O_26 W_25
  have z_27 := W_25.size
  show Run p l e _ s m _ below meth c Z EL1 _ n0 NoB h_24 0 0 (mkF m 25 #[.val (.ref x), .val (.int (1 : Int32)), .val .null, .val (.int ((-1) : Int32)), .val (.int (0 : Int32))] []) _
  have F_28 : Exa Z h_24 x "java/util/Base64$Encoder" := (F_23.wr W_25)
  have F_29 : Fld Z h_24 x "java/util/Base64$Encoder" "isURL" "Z" (.int (1 : Int32)) := ((((pf_1.same W_7).other W_13 (Or.inr (RoadKit.slot_ne (C := "java/util/Base64$Encoder") (Or.inr (wT 46 rfl)) (Or.inr (wT 48 rfl)) (by decide) (t := .boolean) (t' := (.array .byte)) (by decide) (by decide)))).other W_19 (Or.inr (RoadKit.slot_ne (C := "java/util/Base64$Encoder") (Or.inr (wT 46 rfl)) (Or.inr (wT 50 rfl)) (by decide) (t := .boolean) (t' := .int) (by decide) (by decide)))).other W_25 (Or.inr (RoadKit.slot_ne (C := "java/util/Base64$Encoder") (Or.inr (wT 46 rfl)) (Or.inr (wT 42 rfl)) (by decide) (t := .boolean) (t' := .boolean) (by decide) (by decide))))
  have F_30 : Fld Z h_24 x "java/util/Base64$Encoder" "newline" "[B" .null := (((F_10.same W_13).other W_19 (Or.inr (RoadKit.slot_ne (C := "java/util/Base64$Encoder") (Or.inr (wT 48 rfl)) (Or.inr (wT 50 rfl)) (by decide) (t := (.array .byte)) (t' := .int) (by decide) (by decide)))).other W_25 (Or.inr (RoadKit.slot_ne (C := "java/util/Base64$Encoder") (Or.inr (wT 48 rfl)) (Or.inr (wT 42 rfl)) (by decide) (t := (.array .byte)) (t' := .boolean) (by decide) (by decide))))
  have F_31 : Fld Z h_24 x "java/util/Base64$Encoder" "linemax" "I" (.int ((-1) : Int32)) := ((F_16.same W_19).other W_25 (Or.inr (RoadKit.slot_ne (C := "java/util/Base64$Encoder") (Or.inr (wT 50 rfl)) (Or.inr (wT 42 rfl)) (by decide) (t := .int) (t' := .boolean) (by decide) (by decide))))
  exact k_ret0 hx hlk hret (hb hby d484) (by decide) (by decide) ⟨rfl, rfl, (((((Keep.refl _ _).wr W_7 (Or.inl (by simp))).wr W_13 (Or.inl (by simp))).wr W_19 (Or.inl (by simp))).wr W_25 (Or.inl (by simp))), F_28, F_29, F_30, F_31, (F_22.same W_25)⟩
def Q_gue (Z : State) (G1 : Int32) (G3 : Value) (e0 tb : Addr) (kt : ClassId)  (h0 : Heap) (n0 : Nat) (bk : Addr → Prop) (v : Option Value) (h : Heap) (bk' : Addr → Prop) : Prop := v = some (.ref e0) ∧ h0 = h ∧ NoB = bk'
theorem d485 : decode jdk_2448_method_3_code 0 = .ok (.getstatic 13, 3) := by decide +kernel
theorem d486 : decode jdk_2448_method_3_code 3 = .ok (.areturn, 1) := by decide +kernel
abbrev RM_gue : Room := { frames := 0, cells := 0, slots := 0, locals := 0 }
theorem ef_gue (m : MethodId)  : entryFrame m #[] 0 = mkF m 0 #[] [] := by first | (simp [entryFrame, mkF, argsToLocals, Value.category]; done) | rfl
set_option maxRecDepth 65536 in
set_option maxHeartbeats 40000000 in
theorem rm_gue (l : Launch) (Z : State) (a0 : Array Value) (G1 : Int32) (G3 : Value) (e0 tb : Addr) (kt : ClassId) (hX : Ctx Z a0 G1 G3) (hY : More Z e0 tb kt) (n0 : Nat) (h0 : Heap) (O0 : Old Z n0 h0)   (ws : List Jvm.Cond) : Met l Z EL1 n0 NoB (⟨"java/util/Base64", "getUrlEncoder", "()Ljava/util/Base64$Encoder;"⟩ : MethodName) jdk_2448_method_3_code 0 (Option.some (FieldType.object "java/util/Base64$Encoder")) RM_gue #[] h0 (Q_gue Z G1 G3 e0 tb kt  h0 n0 NoB) ws := by
  have hX' := hX
  obtain ⟨hw, hE, S1, P1, S3, P3⟩ := hX'
  have hY' := hY
  obtain ⟨s_e, x_e, f_u, f_n, f_l, f_p, s_t, a_t⟩ := hY'
  have wT : ∀ (i : Nat) {d : Jvm.Cond}, tables_1[i]? = some d → d.before a0 Z = true := fun i d h => hw d (List.mem_of_getElem? h)
  have z0 : n0 ≤ h0.size := by rw [← O0.1]; exact O0.2.1
  refine Met.of (by decide +kernel) O0 hE ?_
  intro p e s m below meth c hx hby hml hret hlk hnm
  refine k_cast (ef_gue m ) ?_
  show Run p l e _ s m _ below meth c Z EL1 _ n0 NoB h0 0 0 (mkF m 0 #[] []) _
  refine k_getS hx (host := "") (Or.inl (wT 34 rfl)) Via.refl (s_e.ext O0.2) rfl (hb hby d485) ?_
  show Run p l e _ s m _ below meth c Z EL1 _ n0 NoB h0 0 0 (mkF m 3 #[] [(.ref e0)]) _
  exact k_retA hx hlk hret rfl rfl rfl (hb hby d486) (by decide) (by decide) ⟨rfl, rfl, rfl⟩
def Q_wop (Z : State) (G1 : Int32) (G3 : Value) (e0 tb : Addr) (kt : ClassId)  (h0 : Heap) (n0 : Nat) (bk : Addr → Prop) (v : Option Value) (h : Heap) (bk' : Addr → Prop) : Prop := ∃ (w1 : Addr), v = some (.ref w1) ∧ NoB = bk' ∧ Keep h0 h [] ∧ (Exa Z h w1 "java/util/Base64$Encoder") ∧ (Fld Z h w1 "java/util/Base64$Encoder" "isURL" "Z" (.int (1 : Int32))) ∧ (Fld Z h w1 "java/util/Base64$Encoder" "newline" "[B" .null) ∧ (Fld Z h w1 "java/util/Base64$Encoder" "linemax" "I" (.int ((-1) : Int32))) ∧ (Fld Z h w1 "java/util/Base64$Encoder" "doPadding" "Z" (.int (0 : Int32))) ∧ (@LE.le Nat _ (Array.size h0) w1)
theorem d487 : decode jdk_2452_method_8_code 0 = .ok (.aload_n 0, 1) := by decide +kernel
theorem d488 : decode jdk_2452_method_8_code 1 = .ok (.getfield 21, 3) := by decide +kernel
theorem d489 : decode jdk_2452_method_8_code 4 = .ok (.ifCond .ne 5, 3) := by decide +kernel
theorem d490 : decode jdk_2452_method_8_code 9 = .ok (.new 8, 3) := by decide +kernel
theorem d491 : decode jdk_2452_method_8_code 12 = .ok (.dup, 1) := by decide +kernel
theorem d492 : decode jdk_2452_method_8_code 13 = .ok (.aload_n 0, 1) := by decide +kernel
theorem d493 : decode jdk_2452_method_8_code 14 = .ok (.getfield 7, 3) := by decide +kernel
theorem d494 : decode jdk_2452_method_8_code 17 = .ok (.aload_n 0, 1) := by decide +kernel
theorem d495 : decode jdk_2452_method_8_code 18 = .ok (.getfield 13, 3) := by decide +kernel
theorem d496 : decode jdk_2452_method_8_code 21 = .ok (.aload_n 0, 1) := by decide +kernel
theorem d497 : decode jdk_2452_method_8_code 22 = .ok (.getfield 17, 3) := by decide +kernel
theorem d498 : decode jdk_2452_method_8_code 25 = .ok (.iconst 0, 1) := by decide +kernel
theorem d499 : decode jdk_2452_method_8_code 26 = .ok (.invokespecial 121, 3) := by decide +kernel
theorem pd__28_Z_5b_BIZ_29_V : parseMethodDescriptor "(Z[BIZ)V" = some ⟨[.boolean, (.array .byte), .int, .boolean], none⟩ := by decide +kernel
theorem d500 : decode jdk_2452_method_8_code 29 = .ok (.areturn, 1) := by decide +kernel
abbrev RM_wop : Room := { frames := 2, cells := 1, slots := 4, locals := 29 }
theorem ef_wop (m : MethodId) (x0 : Addr) : entryFrame m #[(.ref x0)] 1 = mkF m 0 #[.val (.ref x0)] [] := by first | (simp [entryFrame, mkF, argsToLocals, Value.category]; done) | rfl
set_option maxRecDepth 65536 in
set_option maxHeartbeats 40000000 in
theorem rm_wop (l : Launch) (Z : State) (a0 : Array Value) (G1 : Int32) (G3 : Value) (e0 tb : Addr) (kt : ClassId) (hX : Ctx Z a0 G1 G3) (hY : More Z e0 tb kt) (n0 : Nat) (h0 : Heap) (O0 : Old Z n0 h0)   (ws : List Jvm.Cond) : Met l Z EL1 n0 NoB (⟨"java/util/Base64$Encoder", "withoutPadding", "()Ljava/util/Base64$Encoder;"⟩ : MethodName) jdk_2452_method_8_code 1 (Option.some (FieldType.object "java/util/Base64$Encoder")) RM_wop #[(.ref e0)] h0 (Q_wop Z G1 G3 e0 tb kt  h0 n0 NoB) ws := by
  have hX' := hX
  obtain ⟨hw, hE, S1, P1, S3, P3⟩ := hX'
  have hY' := hY
  obtain ⟨s_e, x_e, f_u, f_n, f_l, f_p, s_t, a_t⟩ := hY'
  have wT : ∀ (i : Nat) {d : Jvm.Cond}, tables_1[i]? = some d → d.before a0 Z = true := fun i d h => hw d (List.mem_of_getElem? h)
  have z0 : n0 ≤ h0.size := by rw [← O0.1]; exact O0.2.1
  refine Met.of (by decide +kernel) O0 hE ?_
  intro p e s m below meth c hx hby hml hret hlk hnm
  refine k_cast (ef_wop m e0) ?_
  refine k_pure (g' := (mkF m 1 #[.val (.ref e0)] [(.ref e0)])) (fun _ J _ j => XS.aloadN J hx rfl (hb hby d487) rfl rfl j) ?_
  have F_1 : Fld Z h0 e0 "java/util/Base64$Encoder" "doPadding" "Z" (.int (1 : Int32)) := f_p.ext O0.2
  refine k_getF hx (host := "") (Or.inl (wT 41 rfl)) Via.refl F_1 rfl rfl (hb hby d488) ?_
  refine k_pure (g' := (mkF m 9 #[.val (.ref e0)] [])) (fun _ J _ j => XS.ifYes J hx rfl (pc0 := 4) (pc' := 9) rfl (hb hby d489) rfl ((if0 _ _).trans (feq (by decide : ¬ ((1 : Int32) = (0 : Int32)))).2) (by decide) (by decide) j) ?_
  refine k_newO hx (wT 43 rfl) (wT 44 rfl) (wT 35 rfl) rfl (hb hby d490) (by decide) (by decide) ?_
  intro h_3 a_2 g_9 O_4 E_5 A_6 D_7 U_8
  have z_10 := E_5.1
  have lt_11 : @LT.lt Nat _ a_2 (Array.size h_3) := A_6.lt
  refine k_pure (g' := (mkF m 14 #[.val (.ref e0)] [(.ref e0), (.ref a_2), (.ref a_2)])) (fun TT HH tt kk => XS.dup HH hx rfl (hb hby d491) rfl rfl (XS.aloadN HH hx rfl (hb hby d492) rfl rfl kk)) ?_
  have F_12 : Fld Z h_3 e0 "java/util/Base64$Encoder" "isURL" "Z" (.int (1 : Int32)) := f_u.ext O_4.2
  refine k_getF hx (host := "") (Or.inl (wT 45 rfl)) Via.refl F_12 rfl rfl (hb hby d493) ?_
  refine k_pure (g' := (mkF m 18 #[.val (.ref e0)] [(.ref e0), (.int (1 : Int32)), (.ref a_2), (.ref a_2)])) (fun _ J _ j => XS.aloadN J hx rfl (hb hby d494) rfl rfl j) ?_
  have F_13 : Fld Z h_3 e0 "java/util/Base64$Encoder" "newline" "[B" .null := f_n.ext O_4.2
  refine k_getF hx (host := "") (Or.inl (wT 47 rfl)) Via.refl F_13 rfl rfl (hb hby d495) ?_
  refine k_pure (g' := (mkF m 22 #[.val (.ref e0)] [(.ref e0), .null, (.int (1 : Int32)), (.ref a_2), (.ref a_2)])) (fun _ J _ j => XS.aloadN J hx rfl (hb hby d496) rfl rfl j) ?_
  have F_14 : Fld Z h_3 e0 "java/util/Base64$Encoder" "linemax" "I" (.int ((-1) : Int32)) := f_l.ext O_4.2
  refine k_getF hx (host := "") (Or.inl (wT 49 rfl)) Via.refl F_14 rfl rfl (hb hby d497) ?_
  refine k_pure (g' := (mkF m 26 #[.val (.ref e0)] [(.int (0 : Int32)), (.int ((-1) : Int32)), .null, (.int (1 : Int32)), (.ref a_2), (.ref a_2)])) (fun _ J _ j => XS.iconst J hx rfl (hb hby d498) j) ?_
  refine k_callI hx (y := (⟨"java/util/Base64$Encoder", "<init>", "(Z[BIZ)V"⟩ : MethodName)) rfl (wT 51 rfl) (wT 52 rfl) (wT 54 rfl) (by decide) (W := 1) (a := a_2) (argsL := [(.int (1 : Int32)), .null, (.int ((-1) : Int32)), (.int (0 : Int32))]) (rest := [(.ref a_2)]) (Pays.of_met (rm_ein l Z a0 G1 G3 e0 tb kt hX hY n0 h_3 O_4 a_2 A_6 (D_7 (Or.inr (wT 46 rfl)) (ty := .boolean) (by decide)) (D_7 (Or.inr (wT 48 rfl)) (ty := (.array .byte)) (by decide)) (D_7 (Or.inr (wT 50 rfl)) (ty := .int) (by decide)) (D_7 (Or.inr (wT 42 rfl)) (ty := .boolean) (by decide)) (by omega) []) (wT 54 rfl) (wT 35 rfl) (by decide) (by decide)) rfl (by rw [hml]; rfl) (lenOf pd__28_Z_5b_BIZ_29_V rfl) rfl (by show 2 * 0 + _ ≤ _; exact Nat.le_of_eq rfl) (hb hby d499) (by decide) (by decide) ?_
  intro v_15 h_16 bk_17 O_18 z_19 Q_20
  obtain ⟨rfl, rfl, K_21, F_22, F_23, F_24, F_25, F_26⟩ := Q_20
  have lt_27 : @LT.lt Nat _ a_2 (Array.size h_16) := F_22.lt
  have lt_28 : @LT.lt Nat _ a_2 (Array.size h_16) := F_23.lt
  have lt_29 : @LT.lt Nat _ a_2 (Array.size h_16) := F_24.lt
  have lt_30 : @LT.lt Nat _ a_2 (Array.size h_16) := F_25.lt
  have lt_31 : @LT.lt Nat _ a_2 (Array.size h_16) := F_26.lt
  show Run p l e _ s m _ below meth c Z EL1 _ n0 NoB h_16 1 4 (mkF m 29 #[.val (.ref e0)] [(.ref a_2)]) _
  exact k_retA hx hlk hret rfl rfl rfl (hb hby d500) (by decide) (by decide) ⟨a_2, rfl, rfl, (((Keep.refl _ _).ext E_5).trans K_21 (kkS (Or.inr (by omega)) kk0)), F_22, F_23, F_24, F_25, F_26, (by omega)⟩
def Q_cin0 (Z : State) (G1 : Int32) (G3 : Value) (e0 tb : Addr) (kt : ClassId) (x : Addr) (q : Addr) (kq : ClassId) (h0 : Heap) (n0 : Nat) (bk : Addr → Prop) (v : Option Value) (h : Heap) (bk' : Addr → Prop) : Prop := ∃ (u : Addr), ∃ (ku : ClassId), v = none ∧ NoB = bk' ∧ Keep h0 h [x] ∧ (Exa Z h x "com/example/lean_entities/leanentities/session/Cursor") ∧ (Fld Z h x "com/example/lean_entities/leanentities/session/Cursor" "position" "[B" (.ref u)) ∧ (Arv Z h u ku .byte (0 : Int32) [] (.int (0 : Int32))) ∧ (@LE.le Nat _ (Array.size h0) u)
theorem d501 : decode prog_18_method_1_code 0 = .ok (.aload_n 0, 1) := by decide +kernel
theorem d502 : decode prog_18_method_1_code 1 = .ok (.invokespecial 1, 3) := by decide +kernel
theorem d503 : decode prog_18_method_1_code 4 = .ok (.aload_n 0, 1) := by decide +kernel
theorem d504 : decode prog_18_method_1_code 5 = .ok (.aload_n 1, 1) := by decide +kernel
theorem d505 : decode prog_18_method_1_code 6 = .ok (.invokevirtual 7, 3) := by decide +kernel
theorem d506 : decode prog_18_method_1_code 9 = .ok (.checkcast 8, 3) := by decide +kernel
theorem d507 : decode prog_18_method_1_code 12 = .ok (.putfield 13, 3) := by decide +kernel
theorem d508 : decode prog_18_method_1_code 15 = .ok (.return_, 1) := by decide +kernel
abbrev RM_cin0 : Room := { frames := 1, cells := 1, slots := 0, locals := 15 }
theorem ef_cin0 (m : MethodId) (x0 : Addr) (x1 : Addr) : entryFrame m #[(.ref x0), (.ref x1)] 2 = mkF m 0 #[.val (.ref x0), .val (.ref x1)] [] := by first | (simp [entryFrame, mkF, argsToLocals, Value.category]; done) | rfl
set_option maxRecDepth 65536 in
set_option maxHeartbeats 40000000 in
theorem rm_cin0 (l : Launch) (Z : State) (a0 : Array Value) (G1 : Int32) (G3 : Value) (e0 tb : Addr) (kt : ClassId) (hX : Ctx Z a0 G1 G3) (hY : More Z e0 tb kt) (n0 : Nat) (h0 : Heap) (O0 : Old Z n0 h0) (x : Addr) (q : Addr) (kq : ClassId) (pf_0 : Exa Z h0 x "com/example/lean_entities/leanentities/session/Cursor") (pf_1 : Fld Z h0 x "com/example/lean_entities/leanentities/session/Cursor" "position" "[B" .null) (pf_2 : Exa Z h0 q "[B") (pf_3 : Arv Z h0 q kq .byte (0 : Int32) [] (.int (0 : Int32))) (gx : n0 ≤ x) (ws : List Jvm.Cond) : Met l Z EL1 n0 NoB (⟨"com/example/lean_entities/leanentities/session/Cursor", "<init>", "([B)V"⟩ : MethodName) prog_18_method_1_code 2 (Option.none : Option FieldType) RM_cin0 #[(.ref x), (.ref q)] h0 (Q_cin0 Z G1 G3 e0 tb kt x q kq h0 n0 NoB) ws := by
  have hX' := hX
  obtain ⟨hw, hE, S1, P1, S3, P3⟩ := hX'
  have hY' := hY
  obtain ⟨s_e, x_e, f_u, f_n, f_l, f_p, s_t, a_t⟩ := hY'
  have wT : ∀ (i : Nat) {d : Jvm.Cond}, tables_1[i]? = some d → d.before a0 Z = true := fun i d h => hw d (List.mem_of_getElem? h)
  have z0 : n0 ≤ h0.size := by rw [← O0.1]; exact O0.2.1
  refine Met.of (by decide +kernel) O0 hE ?_
  intro p e s m below meth c hx hby hml hret hlk hnm
  refine k_cast (ef_cin0 m x q) ?_
  show Run p l e _ s m _ below meth c Z EL1 _ n0 NoB h0 0 0 (mkF m 0 #[.val (.ref x), .val (.ref q)] []) _
  have lt_1 : @LT.lt Nat _ x (Array.size h0) := pf_0.lt
  have lt_2 : @LT.lt Nat _ x (Array.size h0) := pf_1.lt
  have lt_3 : @LT.lt Nat _ q (Array.size h0) := pf_2.lt
  have lt_4 : @LT.lt Nat _ q (Array.size h0) := pf_3.lt
  refine k_pure (g' := (mkF m 1 #[.val (.ref x), .val (.ref q)] [(.ref x)])) (fun _ J _ j => XS.aloadN J hx rfl (hb hby d501) rfl rfl j) ?_
  refine k_initO hx (wT 7 rfl) (wT 8 rfl) (wT 9 rfl) rfl (by rw [hml]; rfl) rfl (hb hby d502) (by decide) (W := 0) (by show 2 * 0 + _ ≤ _; exact Nat.le_of_eq rfl) (by decide) ?_
  refine k_pure (g' := (mkF m 6 #[.val (.ref x), .val (.ref q)] [(.ref q), (.ref x)])) (fun TT HH tt kk => XS.aloadN HH hx rfl (hb hby d503) rfl rfl (XS.aloadN HH hx rfl (hb hby d504) rfl rfl kk)) ?_
  refine k_clone hx (wT 10 rfl) (wT 11 rfl) (wT 15 rfl) (wT 13 rfl) (wT 14 rfl) (wT 16 rfl) pf_3 pf_2 rfl (by rw [hml]; rfl) rfl (hb hby d505) (by decide) (W := 1) (cap := 0) (by show 2 * 0 + _ ≤ _; exact Nat.le_of_eq rfl) (by decide) (by decide) (by decide) (by decide) ?_
  intro h_6 a_5 g_7 O_8 E_9 A_10 X_11
  have z_12 := E_9.1
  have lt_13 : @LT.lt Nat _ a_5 (Array.size h_6) := A_10.lt
  show Run p l e _ s m _ below meth c Z EL1 _ n0 NoB h_6 1 0 (mkF m 9 #[.val (.ref x), .val (.ref q)] [(.ref a_5), (.ref x)]) _
  refine k_cast' hx (wT 17 rfl) (Ins.self X_11) rfl rfl (hb hby d506) ?_
  show Run p l e _ s m _ below meth c Z EL1 _ n0 NoB h_6 1 0 (mkF m 12 #[.val (.ref x), .val (.ref q)] [(.ref a_5), (.ref x)]) _
  have F_14 : Fld Z h_6 x "com/example/lean_entities/leanentities/session/Cursor" "position" "[B" .null := (pf_1.ext E_9)
  have F_15 : Exa Z h_6 x "com/example/lean_entities/leanentities/session/Cursor" := (pf_0.ext E_9)
  refine k_putF hx (host := "") (Or.inl (wT 19 rfl)) Via.refl F_14 F_15 (Or.inr ⟨(wT 20 rfl), rfl, hnm⟩) (wT 2 rfl) (ty := (.array .byte)) (by decide) rfl rfl (by omega) (fun q => q) rfl rfl (hb hby d507) ?_
  intro h_16 O_18 W_17
  have z_19 := W_17.size
  show Run p l e _ s m _ below meth c Z EL1 _ n0 NoB h_16 1 0 (mkF m 15 #[.val (.ref x), .val (.ref q)] []) _
  have F_20 : Exa Z h_16 x "com/example/lean_entities/leanentities/session/Cursor" := (F_15.wr W_17)
  have F_21 : Arv Z h_16 a_5 kq .byte (0 : Int32) [] (.int (0 : Int32)) := (A_10.other W_17 (ne_ad (by omega)))
  exact k_ret0 hx hlk hret (hb hby d508) (by decide) (by decide) ⟨a_5, kq, rfl, rfl, (((Keep.refl _ _).ext E_9).wr W_17 (Or.inl (by simp))), F_20, (F_14.same W_17), F_21, (by omega)⟩
def Q_cin1 (Z : State) (G1 : Int32) (G3 : Value) (e0 tb : Addr) (kt : ClassId) (x : Addr) (q : Addr) (kq : ClassId) (za : Int32) (h0 : Heap) (n0 : Nat) (bk : Addr → Prop) (v : Option Value) (h : Heap) (bk' : Addr → Prop) : Prop := ∃ (u : Addr), ∃ (ku : ClassId), v = none ∧ NoB = bk' ∧ Keep h0 h [x] ∧ (Exa Z h x "com/example/lean_entities/leanentities/session/Cursor") ∧ (Fld Z h x "com/example/lean_entities/leanentities/session/Cursor" "position" "[B" (.ref u)) ∧ (Arv Z h u ku .byte (1 : Int32) [(.int (za.toInt8.toInt32))] (.int (0 : Int32))) ∧ (@LE.le Nat _ (Array.size h0) u)
abbrev RM_cin1 : Room := { frames := 1, cells := 1, slots := 1, locals := 15 }
theorem ef_cin1 (m : MethodId) (x0 : Addr) (x1 : Addr) : entryFrame m #[(.ref x0), (.ref x1)] 2 = mkF m 0 #[.val (.ref x0), .val (.ref x1)] [] := by first | (simp [entryFrame, mkF, argsToLocals, Value.category]; done) | rfl
set_option maxRecDepth 65536 in
set_option maxHeartbeats 40000000 in
theorem rm_cin1 (l : Launch) (Z : State) (a0 : Array Value) (G1 : Int32) (G3 : Value) (e0 tb : Addr) (kt : ClassId) (hX : Ctx Z a0 G1 G3) (hY : More Z e0 tb kt) (n0 : Nat) (h0 : Heap) (O0 : Old Z n0 h0) (x : Addr) (q : Addr) (kq : ClassId) (za : Int32) (pf_0 : Exa Z h0 x "com/example/lean_entities/leanentities/session/Cursor") (pf_1 : Fld Z h0 x "com/example/lean_entities/leanentities/session/Cursor" "position" "[B" .null) (pf_2 : Exa Z h0 q "[B") (pf_3 : Arv Z h0 q kq .byte (1 : Int32) [(.int (za.toInt8.toInt32))] (.int (0 : Int32))) (gx : n0 ≤ x) (ws : List Jvm.Cond) : Met l Z EL1 n0 NoB (⟨"com/example/lean_entities/leanentities/session/Cursor", "<init>", "([B)V"⟩ : MethodName) prog_18_method_1_code 2 (Option.none : Option FieldType) RM_cin1 #[(.ref x), (.ref q)] h0 (Q_cin1 Z G1 G3 e0 tb kt x q kq za h0 n0 NoB) ws := by
  have hX' := hX
  obtain ⟨hw, hE, S1, P1, S3, P3⟩ := hX'
  have hY' := hY
  obtain ⟨s_e, x_e, f_u, f_n, f_l, f_p, s_t, a_t⟩ := hY'
  have wT : ∀ (i : Nat) {d : Jvm.Cond}, tables_1[i]? = some d → d.before a0 Z = true := fun i d h => hw d (List.mem_of_getElem? h)
  have z0 : n0 ≤ h0.size := by rw [← O0.1]; exact O0.2.1
  refine Met.of (by decide +kernel) O0 hE ?_
  intro p e s m below meth c hx hby hml hret hlk hnm
  refine k_cast (ef_cin1 m x q) ?_
  show Run p l e _ s m _ below meth c Z EL1 _ n0 NoB h0 0 0 (mkF m 0 #[.val (.ref x), .val (.ref q)] []) _
  have lt_1 : @LT.lt Nat _ x (Array.size h0) := pf_0.lt
  have lt_2 : @LT.lt Nat _ x (Array.size h0) := pf_1.lt
  have lt_3 : @LT.lt Nat _ q (Array.size h0) := pf_2.lt
  have lt_4 : @LT.lt Nat _ q (Array.size h0) := pf_3.lt
  refine k_pure (g' := (mkF m 1 #[.val (.ref x), .val (.ref q)] [(.ref x)])) (fun _ J _ j => XS.aloadN J hx rfl (hb hby d501) rfl rfl j) ?_
  refine k_initO hx (wT 7 rfl) (wT 8 rfl) (wT 9 rfl) rfl (by rw [hml]; rfl) rfl (hb hby d502) (by decide) (W := 0) (by show 2 * 0 + _ ≤ _; exact Nat.le_of_eq rfl) (by decide) ?_
  refine k_pure (g' := (mkF m 6 #[.val (.ref x), .val (.ref q)] [(.ref q), (.ref x)])) (fun TT HH tt kk => XS.aloadN HH hx rfl (hb hby d503) rfl rfl (XS.aloadN HH hx rfl (hb hby d504) rfl rfl kk)) ?_
  refine k_clone hx (wT 10 rfl) (wT 11 rfl) (wT 15 rfl) (wT 13 rfl) (wT 14 rfl) (wT 16 rfl) pf_3 pf_2 rfl (by rw [hml]; rfl) rfl (hb hby d505) (by decide) (W := 1) (cap := 1) (by show 2 * 0 + _ ≤ _; exact Nat.le_of_eq rfl) (by decide) (by decide) (by decide) (by decide) ?_
  intro h_6 a_5 g_7 O_8 E_9 A_10 X_11
  have z_12 := E_9.1
  have lt_13 : @LT.lt Nat _ a_5 (Array.size h_6) := A_10.lt
  show Run p l e _ s m _ below meth c Z EL1 _ n0 NoB h_6 1 1 (mkF m 9 #[.val (.ref x), .val (.ref q)] [(.ref a_5), (.ref x)]) _
  refine k_cast' hx (wT 17 rfl) (Ins.self X_11) rfl rfl (hb hby d506) ?_
  show Run p l e _ s m _ below meth c Z EL1 _ n0 NoB h_6 1 1 (mkF m 12 #[.val (.ref x), .val (.ref q)] [(.ref a_5), (.ref x)]) _
  have F_14 : Fld Z h_6 x "com/example/lean_entities/leanentities/session/Cursor" "position" "[B" .null := (pf_1.ext E_9)
  have F_15 : Exa Z h_6 x "com/example/lean_entities/leanentities/session/Cursor" := (pf_0.ext E_9)
  refine k_putF hx (host := "") (Or.inl (wT 19 rfl)) Via.refl F_14 F_15 (Or.inr ⟨(wT 20 rfl), rfl, hnm⟩) (wT 2 rfl) (ty := (.array .byte)) (by decide) rfl rfl (by omega) (fun q => q) rfl rfl (hb hby d507) ?_
  intro h_16 O_18 W_17
  have z_19 := W_17.size
  show Run p l e _ s m _ below meth c Z EL1 _ n0 NoB h_16 1 1 (mkF m 15 #[.val (.ref x), .val (.ref q)] []) _
  have F_20 : Exa Z h_16 x "com/example/lean_entities/leanentities/session/Cursor" := (F_15.wr W_17)
  have F_21 : Arv Z h_16 a_5 kq .byte (1 : Int32) [(.int (za.toInt8.toInt32))] (.int (0 : Int32)) := (A_10.other W_17 (ne_ad (by omega)))
  exact k_ret0 hx hlk hret (hb hby d508) (by decide) (by decide) ⟨a_5, kq, rfl, rfl, (((Keep.refl _ _).ext E_9).wr W_17 (Or.inl (by simp))), F_20, (F_14.same W_17), F_21, (by omega)⟩
def Q_cin2 (Z : State) (G1 : Int32) (G3 : Value) (e0 tb : Addr) (kt : ClassId) (x : Addr) (q : Addr) (kq : ClassId) (za : Int32) (zb : Int32) (h0 : Heap) (n0 : Nat) (bk : Addr → Prop) (v : Option Value) (h : Heap) (bk' : Addr → Prop) : Prop := ∃ (u : Addr), ∃ (ku : ClassId), v = none ∧ NoB = bk' ∧ Keep h0 h [x] ∧ (Exa Z h x "com/example/lean_entities/leanentities/session/Cursor") ∧ (Fld Z h x "com/example/lean_entities/leanentities/session/Cursor" "position" "[B" (.ref u)) ∧ (Arv Z h u ku .byte (2 : Int32) [(.int (za.toInt8.toInt32)), (.int (zb.toInt8.toInt32))] (.int (0 : Int32))) ∧ (@LE.le Nat _ (Array.size h0) u)
abbrev RM_cin2 : Room := { frames := 1, cells := 1, slots := 2, locals := 15 }
theorem ef_cin2 (m : MethodId) (x0 : Addr) (x1 : Addr) : entryFrame m #[(.ref x0), (.ref x1)] 2 = mkF m 0 #[.val (.ref x0), .val (.ref x1)] [] := by first | (simp [entryFrame, mkF, argsToLocals, Value.category]; done) | rfl
set_option maxRecDepth 65536 in
set_option maxHeartbeats 40000000 in
theorem rm_cin2 (l : Launch) (Z : State) (a0 : Array Value) (G1 : Int32) (G3 : Value) (e0 tb : Addr) (kt : ClassId) (hX : Ctx Z a0 G1 G3) (hY : More Z e0 tb kt) (n0 : Nat) (h0 : Heap) (O0 : Old Z n0 h0) (x : Addr) (q : Addr) (kq : ClassId) (za : Int32) (zb : Int32) (pf_0 : Exa Z h0 x "com/example/lean_entities/leanentities/session/Cursor") (pf_1 : Fld Z h0 x "com/example/lean_entities/leanentities/session/Cursor" "position" "[B" .null) (pf_2 : Exa Z h0 q "[B") (pf_3 : Arv Z h0 q kq .byte (2 : Int32) [(.int (za.toInt8.toInt32)), (.int (zb.toInt8.toInt32))] (.int (0 : Int32))) (gx : n0 ≤ x) (ws : List Jvm.Cond) : Met l Z EL1 n0 NoB (⟨"com/example/lean_entities/leanentities/session/Cursor", "<init>", "([B)V"⟩ : MethodName) prog_18_method_1_code 2 (Option.none : Option FieldType) RM_cin2 #[(.ref x), (.ref q)] h0 (Q_cin2 Z G1 G3 e0 tb kt x q kq za zb h0 n0 NoB) ws := by
  have hX' := hX
  obtain ⟨hw, hE, S1, P1, S3, P3⟩ := hX'
  have hY' := hY
  obtain ⟨s_e, x_e, f_u, f_n, f_l, f_p, s_t, a_t⟩ := hY'
  have wT : ∀ (i : Nat) {d : Jvm.Cond}, tables_1[i]? = some d → d.before a0 Z = true := fun i d h => hw d (List.mem_of_getElem? h)
  have z0 : n0 ≤ h0.size := by rw [← O0.1]; exact O0.2.1
  refine Met.of (by decide +kernel) O0 hE ?_
  intro p e s m below meth c hx hby hml hret hlk hnm
  refine k_cast (ef_cin2 m x q) ?_
  show Run p l e _ s m _ below meth c Z EL1 _ n0 NoB h0 0 0 (mkF m 0 #[.val (.ref x), .val (.ref q)] []) _
  have lt_1 : @LT.lt Nat _ x (Array.size h0) := pf_0.lt
  have lt_2 : @LT.lt Nat _ x (Array.size h0) := pf_1.lt
  have lt_3 : @LT.lt Nat _ q (Array.size h0) := pf_2.lt
  have lt_4 : @LT.lt Nat _ q (Array.size h0) := pf_3.lt
  refine k_pure (g' := (mkF m 1 #[.val (.ref x), .val (.ref q)] [(.ref x)])) (fun _ J _ j => XS.aloadN J hx rfl (hb hby d501) rfl rfl j) ?_
  refine k_initO hx (wT 7 rfl) (wT 8 rfl) (wT 9 rfl) rfl (by rw [hml]; rfl) rfl (hb hby d502) (by decide) (W := 0) (by show 2 * 0 + _ ≤ _; exact Nat.le_of_eq rfl) (by decide) ?_
  refine k_pure (g' := (mkF m 6 #[.val (.ref x), .val (.ref q)] [(.ref q), (.ref x)])) (fun TT HH tt kk => XS.aloadN HH hx rfl (hb hby d503) rfl rfl (XS.aloadN HH hx rfl (hb hby d504) rfl rfl kk)) ?_
  refine k_clone hx (wT 10 rfl) (wT 11 rfl) (wT 15 rfl) (wT 13 rfl) (wT 14 rfl) (wT 16 rfl) pf_3 pf_2 rfl (by rw [hml]; rfl) rfl (hb hby d505) (by decide) (W := 1) (cap := 2) (by show 2 * 0 + _ ≤ _; exact Nat.le_of_eq rfl) (by decide) (by decide) (by decide) (by decide) ?_
  intro h_6 a_5 g_7 O_8 E_9 A_10 X_11
  have z_12 := E_9.1
  have lt_13 : @LT.lt Nat _ a_5 (Array.size h_6) := A_10.lt
  show Run p l e _ s m _ below meth c Z EL1 _ n0 NoB h_6 1 2 (mkF m 9 #[.val (.ref x), .val (.ref q)] [(.ref a_5), (.ref x)]) _
  refine k_cast' hx (wT 17 rfl) (Ins.self X_11) rfl rfl (hb hby d506) ?_
  show Run p l e _ s m _ below meth c Z EL1 _ n0 NoB h_6 1 2 (mkF m 12 #[.val (.ref x), .val (.ref q)] [(.ref a_5), (.ref x)]) _
  have F_14 : Fld Z h_6 x "com/example/lean_entities/leanentities/session/Cursor" "position" "[B" .null := (pf_1.ext E_9)
  have F_15 : Exa Z h_6 x "com/example/lean_entities/leanentities/session/Cursor" := (pf_0.ext E_9)
  refine k_putF hx (host := "") (Or.inl (wT 19 rfl)) Via.refl F_14 F_15 (Or.inr ⟨(wT 20 rfl), rfl, hnm⟩) (wT 2 rfl) (ty := (.array .byte)) (by decide) rfl rfl (by omega) (fun q => q) rfl rfl (hb hby d507) ?_
  intro h_16 O_18 W_17
  have z_19 := W_17.size
  show Run p l e _ s m _ below meth c Z EL1 _ n0 NoB h_16 1 2 (mkF m 15 #[.val (.ref x), .val (.ref q)] []) _
  have F_20 : Exa Z h_16 x "com/example/lean_entities/leanentities/session/Cursor" := (F_15.wr W_17)
  have F_21 : Arv Z h_16 a_5 kq .byte (2 : Int32) [(.int (za.toInt8.toInt32)), (.int (zb.toInt8.toInt32))] (.int (0 : Int32)) := (A_10.other W_17 (ne_ad (by omega)))
  exact k_ret0 hx hlk hret (hb hby d508) (by decide) (by decide) ⟨a_5, kq, rfl, rfl, (((Keep.refl _ _).ext E_9).wr W_17 (Or.inl (by simp))), F_20, (F_14.same W_17), F_21, (by omega)⟩
def Q_cin3 (Z : State) (G1 : Int32) (G3 : Value) (e0 tb : Addr) (kt : ClassId) (x : Addr) (q : Addr) (kq : ClassId) (za : Int32) (zb : Int32) (zc : Int32) (h0 : Heap) (n0 : Nat) (bk : Addr → Prop) (v : Option Value) (h : Heap) (bk' : Addr → Prop) : Prop := ∃ (u : Addr), ∃ (ku : ClassId), v = none ∧ NoB = bk' ∧ Keep h0 h [x] ∧ (Exa Z h x "com/example/lean_entities/leanentities/session/Cursor") ∧ (Fld Z h x "com/example/lean_entities/leanentities/session/Cursor" "position" "[B" (.ref u)) ∧ (Arv Z h u ku .byte (3 : Int32) [(.int (za.toInt8.toInt32)), (.int (zb.toInt8.toInt32)), (.int (zc.toInt8.toInt32))] (.int (0 : Int32))) ∧ (@LE.le Nat _ (Array.size h0) u)
abbrev RM_cin3 : Room := { frames := 1, cells := 1, slots := 3, locals := 15 }
theorem ef_cin3 (m : MethodId) (x0 : Addr) (x1 : Addr) : entryFrame m #[(.ref x0), (.ref x1)] 2 = mkF m 0 #[.val (.ref x0), .val (.ref x1)] [] := by first | (simp [entryFrame, mkF, argsToLocals, Value.category]; done) | rfl
set_option maxRecDepth 65536 in
set_option maxHeartbeats 40000000 in
theorem rm_cin3 (l : Launch) (Z : State) (a0 : Array Value) (G1 : Int32) (G3 : Value) (e0 tb : Addr) (kt : ClassId) (hX : Ctx Z a0 G1 G3) (hY : More Z e0 tb kt) (n0 : Nat) (h0 : Heap) (O0 : Old Z n0 h0) (x : Addr) (q : Addr) (kq : ClassId) (za : Int32) (zb : Int32) (zc : Int32) (pf_0 : Exa Z h0 x "com/example/lean_entities/leanentities/session/Cursor") (pf_1 : Fld Z h0 x "com/example/lean_entities/leanentities/session/Cursor" "position" "[B" .null) (pf_2 : Exa Z h0 q "[B") (pf_3 : Arv Z h0 q kq .byte (3 : Int32) [(.int (za.toInt8.toInt32)), (.int (zb.toInt8.toInt32)), (.int (zc.toInt8.toInt32))] (.int (0 : Int32))) (gx : n0 ≤ x) (ws : List Jvm.Cond) : Met l Z EL1 n0 NoB (⟨"com/example/lean_entities/leanentities/session/Cursor", "<init>", "([B)V"⟩ : MethodName) prog_18_method_1_code 2 (Option.none : Option FieldType) RM_cin3 #[(.ref x), (.ref q)] h0 (Q_cin3 Z G1 G3 e0 tb kt x q kq za zb zc h0 n0 NoB) ws := by
  have hX' := hX
  obtain ⟨hw, hE, S1, P1, S3, P3⟩ := hX'
  have hY' := hY
  obtain ⟨s_e, x_e, f_u, f_n, f_l, f_p, s_t, a_t⟩ := hY'
  have wT : ∀ (i : Nat) {d : Jvm.Cond}, tables_1[i]? = some d → d.before a0 Z = true := fun i d h => hw d (List.mem_of_getElem? h)
  have z0 : n0 ≤ h0.size := by rw [← O0.1]; exact O0.2.1
  refine Met.of (by decide +kernel) O0 hE ?_
  intro p e s m below meth c hx hby hml hret hlk hnm
  refine k_cast (ef_cin3 m x q) ?_
  show Run p l e _ s m _ below meth c Z EL1 _ n0 NoB h0 0 0 (mkF m 0 #[.val (.ref x), .val (.ref q)] []) _
  have lt_1 : @LT.lt Nat _ x (Array.size h0) := pf_0.lt
  have lt_2 : @LT.lt Nat _ x (Array.size h0) := pf_1.lt
  have lt_3 : @LT.lt Nat _ q (Array.size h0) := pf_2.lt
  have lt_4 : @LT.lt Nat _ q (Array.size h0) := pf_3.lt
  refine k_pure (g' := (mkF m 1 #[.val (.ref x), .val (.ref q)] [(.ref x)])) (fun _ J _ j => XS.aloadN J hx rfl (hb hby d501) rfl rfl j) ?_
  refine k_initO hx (wT 7 rfl) (wT 8 rfl) (wT 9 rfl) rfl (by rw [hml]; rfl) rfl (hb hby d502) (by decide) (W := 0) (by show 2 * 0 + _ ≤ _; exact Nat.le_of_eq rfl) (by decide) ?_
  refine k_pure (g' := (mkF m 6 #[.val (.ref x), .val (.ref q)] [(.ref q), (.ref x)])) (fun TT HH tt kk => XS.aloadN HH hx rfl (hb hby d503) rfl rfl (XS.aloadN HH hx rfl (hb hby d504) rfl rfl kk)) ?_
  refine k_clone hx (wT 10 rfl) (wT 11 rfl) (wT 15 rfl) (wT 13 rfl) (wT 14 rfl) (wT 16 rfl) pf_3 pf_2 rfl (by rw [hml]; rfl) rfl (hb hby d505) (by decide) (W := 1) (cap := 3) (by show 2 * 0 + _ ≤ _; exact Nat.le_of_eq rfl) (by decide) (by decide) (by decide) (by decide) ?_
  intro h_6 a_5 g_7 O_8 E_9 A_10 X_11
  have z_12 := E_9.1
  have lt_13 : @LT.lt Nat _ a_5 (Array.size h_6) := A_10.lt
  show Run p l e _ s m _ below meth c Z EL1 _ n0 NoB h_6 1 3 (mkF m 9 #[.val (.ref x), .val (.ref q)] [(.ref a_5), (.ref x)]) _
  refine k_cast' hx (wT 17 rfl) (Ins.self X_11) rfl rfl (hb hby d506) ?_
  show Run p l e _ s m _ below meth c Z EL1 _ n0 NoB h_6 1 3 (mkF m 12 #[.val (.ref x), .val (.ref q)] [(.ref a_5), (.ref x)]) _
  have F_14 : Fld Z h_6 x "com/example/lean_entities/leanentities/session/Cursor" "position" "[B" .null := (pf_1.ext E_9)
  have F_15 : Exa Z h_6 x "com/example/lean_entities/leanentities/session/Cursor" := (pf_0.ext E_9)
  refine k_putF hx (host := "") (Or.inl (wT 19 rfl)) Via.refl F_14 F_15 (Or.inr ⟨(wT 20 rfl), rfl, hnm⟩) (wT 2 rfl) (ty := (.array .byte)) (by decide) rfl rfl (by omega) (fun q => q) rfl rfl (hb hby d507) ?_
  intro h_16 O_18 W_17
  have z_19 := W_17.size
  show Run p l e _ s m _ below meth c Z EL1 _ n0 NoB h_16 1 3 (mkF m 15 #[.val (.ref x), .val (.ref q)] []) _
  have F_20 : Exa Z h_16 x "com/example/lean_entities/leanentities/session/Cursor" := (F_15.wr W_17)
  have F_21 : Arv Z h_16 a_5 kq .byte (3 : Int32) [(.int (za.toInt8.toInt32)), (.int (zb.toInt8.toInt32)), (.int (zc.toInt8.toInt32))] (.int (0 : Int32)) := (A_10.other W_17 (ne_ad (by omega)))
  exact k_ret0 hx hlk hret (hb hby d508) (by decide) (by decide) ⟨a_5, kq, rfl, rfl, (((Keep.refl _ _).ext E_9).wr W_17 (Or.inl (by simp))), F_20, (F_14.same W_17), F_21, (by omega)⟩
def Q_tow0 (Z : State) (G1 : Int32) (G3 : Value) (e0 tb : Addr) (kt : ClassId) (x : Addr) (u : Addr) (ku : ClassId) (h0 : Heap) (n0 : Nat) (bk : Addr → Prop) (v : Option Value) (h : Heap) (bk' : Addr → Prop) : Prop := ∃ (a : Addr), ∃ (t : Addr), ∃ (kb : ClassId), v = some (.ref a) ∧ NoB = bk' ∧ Keep h0 h [] ∧ (StrL Z h a t kb [en (0 : Int32), en (16 : Int32)])
theorem d509 : decode prog_18_method_3_code 0 = .ok (.aload_n 0, 1) := by decide +kernel
theorem d510 : decode prog_18_method_3_code 1 = .ok (.getfield 13, 3) := by decide +kernel
theorem d511 : decode prog_18_method_3_code 4 = .ok (.arraylength, 1) := by decide +kernel
theorem d512 : decode prog_18_method_3_code 5 = .ok (.iconst 1, 1) := by decide +kernel
theorem d513 : decode prog_18_method_3_code 6 = .ok (.iadd, 1) := by decide +kernel
theorem d514 : decode prog_18_method_3_code 7 = .ok (.newarray .byte, 2) := by decide +kernel
theorem d515 : decode prog_18_method_3_code 9 = .ok (.astore_n 1, 1) := by decide +kernel
theorem d516 : decode prog_18_method_3_code 10 = .ok (.aload_n 1, 1) := by decide +kernel
theorem d517 : decode prog_18_method_3_code 11 = .ok (.iconst 0, 1) := by decide +kernel
theorem d518 : decode prog_18_method_3_code 12 = .ok (.iconst 1, 1) := by decide +kernel
theorem d519 : decode prog_18_method_3_code 13 = .ok (.bastore, 1) := by decide +kernel
theorem d520 : decode prog_18_method_3_code 14 = .ok (.aload_n 0, 1) := by decide +kernel
theorem d521 : decode prog_18_method_3_code 15 = .ok (.getfield 13, 3) := by decide +kernel
theorem d522 : decode prog_18_method_3_code 18 = .ok (.iconst 0, 1) := by decide +kernel
theorem d523 : decode prog_18_method_3_code 19 = .ok (.aload_n 1, 1) := by decide +kernel
theorem d524 : decode prog_18_method_3_code 20 = .ok (.iconst 1, 1) := by decide +kernel
theorem d525 : decode prog_18_method_3_code 21 = .ok (.aload_n 0, 1) := by decide +kernel
theorem d526 : decode prog_18_method_3_code 22 = .ok (.getfield 13, 3) := by decide +kernel
theorem d527 : decode prog_18_method_3_code 25 = .ok (.arraylength, 1) := by decide +kernel
theorem d528 : decode prog_18_method_3_code 26 = .ok (.invokestatic 62, 3) := by decide +kernel
theorem d529 : decode prog_18_method_3_code 29 = .ok (.invokestatic 68, 3) := by decide +kernel
theorem pd__28__29_Ljava_2f_util_2f_Base64_24_Encoder_3b_ : parseMethodDescriptor "()Ljava/util/Base64$Encoder;" = some ⟨[], some (.object "java/util/Base64$Encoder")⟩ := by decide +kernel
theorem d530 : decode prog_18_method_3_code 32 = .ok (.invokevirtual 72, 3) := by decide +kernel
theorem d531 : decode prog_18_method_3_code 35 = .ok (.aload_n 1, 1) := by decide +kernel
theorem d532 : decode prog_18_method_3_code 36 = .ok (.invokevirtual 77, 3) := by decide +kernel
theorem pd__28__5b_B_29_Ljava_2f_lang_2f_String_3b_ : parseMethodDescriptor "([B)Ljava/lang/String;" = some ⟨[(.array .byte)], some (.object "java/lang/String")⟩ := by decide +kernel
theorem d533 : decode prog_18_method_3_code 39 = .ok (.areturn, 1) := by decide +kernel
abbrev RM_tow0 : Room := { frames := 4, cells := 5, slots := 13, locals := 62 }
theorem ef_tow0 (m : MethodId) (x0 : Addr) : entryFrame m #[(.ref x0)] 2 = mkF m 0 #[.val (.ref x0), .unset] [] := by first | (simp [entryFrame, mkF, argsToLocals, Value.category]; done) | rfl
set_option maxRecDepth 65536 in
set_option maxHeartbeats 40000000 in
theorem rm_tow0 (l : Launch) (Z : State) (a0 : Array Value) (G1 : Int32) (G3 : Value) (e0 tb : Addr) (kt : ClassId) (hX : Ctx Z a0 G1 G3) (hY : More Z e0 tb kt) (n0 : Nat) (h0 : Heap) (O0 : Old Z n0 h0) (x : Addr) (u : Addr) (ku : ClassId) (pf_0 : Exa Z h0 x "com/example/lean_entities/leanentities/session/Cursor") (pf_1 : Fld Z h0 x "com/example/lean_entities/leanentities/session/Cursor" "position" "[B" (.ref u)) (pf_2 : Arv Z h0 u ku .byte (0 : Int32) [] (.int (0 : Int32))) (ws : List Jvm.Cond) : Met l Z EL1 n0 NoB (⟨"com/example/lean_entities/leanentities/session/Cursor", "toWebSafeString", "()Ljava/lang/String;"⟩ : MethodName) prog_18_method_3_code 2 (Option.some (FieldType.object "java/lang/String")) RM_tow0 #[(.ref x)] h0 (Q_tow0 Z G1 G3 e0 tb kt x u ku h0 n0 NoB) ws := by
  have hX' := hX
  obtain ⟨hw, hE, S1, P1, S3, P3⟩ := hX'
  have hY' := hY
  obtain ⟨s_e, x_e, f_u, f_n, f_l, f_p, s_t, a_t⟩ := hY'
  have wT : ∀ (i : Nat) {d : Jvm.Cond}, tables_1[i]? = some d → d.before a0 Z = true := fun i d h => hw d (List.mem_of_getElem? h)
  have z0 : n0 ≤ h0.size := by rw [← O0.1]; exact O0.2.1
  refine Met.of (by decide +kernel) O0 hE ?_
  intro p e s m below meth c hx hby hml hret hlk hnm
  refine k_cast (ef_tow0 m x) ?_
  show Run p l e _ s m _ below meth c Z EL1 _ n0 NoB h0 0 0 (mkF m 0 #[.val (.ref x), .unset] []) _
  have lt_1 : @LT.lt Nat _ x (Array.size h0) := pf_0.lt
  have lt_2 : @LT.lt Nat _ x (Array.size h0) := pf_1.lt
  have lt_3 : @LT.lt Nat _ u (Array.size h0) := pf_2.lt
  refine k_pure (g' := (mkF m 1 #[.val (.ref x), .unset] [(.ref x)])) (fun _ J _ j => XS.aloadN J hx rfl (hb hby d509) rfl rfl j) ?_
  refine k_getF hx (host := "") (Or.inl (wT 19 rfl)) Via.refl pf_1 rfl rfl (hb hby d510) ?_
  show Run p l e _ s m _ below meth c Z EL1 _ n0 NoB h0 0 0 (mkF m 4 #[.val (.ref x), .unset] [(.ref u)]) _
  refine k_alen hx pf_2 rfl rfl (hb hby d511) ?_
  refine k_pure (g' := (mkF m 7 #[.val (.ref x), .unset] [(.int (1 : Int32))])) (fun TT HH tt kk => XS.iconst HH hx rfl (hb hby d512) (XS.iadd HH hx rfl (hb hby d513) rfl kk)) ?_
  refine k_newP hx (wT 0 rfl) rfl (hb hby d514) rfl (by decide) (cap := 1) (by decide) (by decide) (by decide) (by decide) "[B" (by decide +kernel) ?_
  intro h_5 a_4 k_6 g_7 O_8 E_9 A_10 X_11
  have z_12 := E_9.1
  have lt_13 : @LT.lt Nat _ a_4 (Array.size h_5) := A_10.lt
  have V_14 : Arv Z h_5 a_4 k_6 .byte (1 : Int32) [(.int (0 : Int32))] (.int (0 : Int32)) := Arv.pad A_10 (pad_rep [] (.int (0 : Int32)) 1)
  refine k_pure (g' := (mkF m 13 #[.val (.ref x), .val (.ref a_4)] [(.int (1 : Int32)), (.int (0 : Int32)), (.ref a_4)])) (fun TT HH tt kk => XS.astoreN HH hx rfl (hb hby d515) rfl rfl (l' := #[.val (.ref x), .val (.ref a_4)]) rfl (XS.aloadN HH hx rfl (hb hby d516) rfl rfl (XS.iconst HH hx rfl (hb hby d517) (XS.iconst HH hx rfl (hb hby d518) kk)))) ?_
  refine k_stB hx V_14 ⟨by decide, by decide⟩ 0 (by decide) (Nat.le_of_ble_eq_true rfl) (by omega) (fun q => q) rfl rfl (hb hby d519) ?_
  intro h_15 O_16 W_17 A_18
  have z_19 := W_17.size
  have V_20 : Arv Z h_15 a_4 k_6 .byte (1 : Int32) [(.int (1 : Int32))] (.int (0 : Int32)) := A_18
  refine k_pure (g' := (mkF m 15 #[.val (.ref x), .val (.ref a_4)] [(.ref x)])) (fun _ J _ j => XS.aloadN J hx rfl (hb hby d520) rfl rfl j) ?_
  have F_21 : Fld Z h_15 x "com/example/lean_entities/leanentities/session/Cursor" "position" "[B" (.ref u) := ((pf_1.ext E_9).other W_17 (Or.inl (ne_ad (by omega))))
  refine k_getF hx (host := "") (Or.inl (wT 19 rfl)) Via.refl F_21 rfl rfl (hb hby d521) ?_
  refine k_pure (g' := (mkF m 22 #[.val (.ref x), .val (.ref a_4)] [(.ref x), (.int (1 : Int32)), (.ref a_4), (.int (0 : Int32)), (.ref u)])) (fun TT HH tt kk => XS.iconst HH hx rfl (hb hby d522) (XS.aloadN HH hx rfl (hb hby d523) rfl rfl (XS.iconst HH hx rfl (hb hby d524) (XS.aloadN HH hx rfl (hb hby d525) rfl rfl kk)))) ?_
  refine k_getF hx (host := "") (Or.inl (wT 19 rfl)) Via.refl F_21 rfl rfl (hb hby d526) ?_
  show Run p l e _ s m _ below meth c Z EL1 _ n0 NoB h_15 1 1 (mkF m 25 #[.val (.ref x), .val (.ref a_4)] [(.ref u), (.int (1 : Int32)), (.ref a_4), (.int (0 : Int32)), (.ref u)]) _
  have F_22 : Arv Z h_15 u ku .byte (0 : Int32) [] (.int (0 : Int32)) := ((pf_2.ext E_9).other W_17 (ne_ad (by omega)))
  refine k_alen hx F_22 rfl rfl (hb hby d527) ?_
  show Run p l e _ s m _ below meth c Z EL1 _ n0 NoB h_15 1 1 (mkF m 26 #[.val (.ref x), .val (.ref a_4)] [(.int (0 : Int32)), (.int (1 : Int32)), (.ref a_4), (.int (0 : Int32)), (.ref u)]) _
  have B_23 : Arv Z h_15 a_4 k_6 .byte (1 : Int32) [(.int (1 : Int32))] (.int (0 : Int32)) := V_20
  refine k_cpA hx (wT 26 rfl) (wT 29 rfl) (wT 27 rfl) (wT 28 rfl) F_22 B_23 (Or.inl ⟨rfl, rfl⟩) (by decide) (by decide) (by decide) (by decide) (by decide) rfl (by decide) (by omega) (fun q => q) rfl (by rw [hml]; rfl) rfl (hb hby d528) (by decide) (W := 0) (by show 2 * 0 + _ ≤ _; exact Nat.le_of_eq rfl) (by decide) ?_
  intro h_24 O_25 K_26 V_27
  have z_28 := K_26.1
  have V_29 : Arv Z h_24 a_4 k_6 .byte (1 : Int32) [(.int (1 : Int32))] (.int (0 : Int32)) := V_27
  show Run p l e _ s m _ below meth c Z EL1 _ n0 NoB h_24 1 1 (mkF m 29 #[.val (.ref x), .val (.ref a_4)] []) _
  refine k_callS hx (y := (⟨"java/util/Base64", "getUrlEncoder", "()Ljava/util/Base64$Encoder;"⟩ : MethodName)) (wT 30 rfl) (wT 31 rfl) (wT 32 rfl) (wT 33 rfl) (by decide) (W := 0) (argsL := []) (rest := []) (Pays.of_met (rm_gue l Z a0 G1 G3 e0 tb kt hX hY n0 h_24 O_25   []) (wT 33 rfl) (wT 32 rfl) (by decide) (by decide)) rfl (by rw [hml]; rfl) (lenOf pd__28__29_Ljava_2f_util_2f_Base64_24_Encoder_3b_ rfl) rfl (by show 2 * 0 + _ ≤ _; exact Nat.le_of_eq rfl) (hb hby d529) (by decide) (by decide) ?_
  intro v_30 h_31 bk_32 O_33 z_34 Q_35
  obtain ⟨rfl, rfl, rfl⟩ := Q_35
  show Run p l e _ s m _ below meth c Z EL1 _ n0 NoB h_24 1 1 (mkF m 32 #[.val (.ref x), .val (.ref a_4)] [(.ref e0)]) _
  have F_36 : Exa Z h_24 e0 "java/util/Base64$Encoder" := x_e.ext O_25.2
  refine k_callV hx (y := (⟨"java/util/Base64$Encoder", "withoutPadding", "()Ljava/util/Base64$Encoder;"⟩ : MethodName)) (z := (⟨"java/util/Base64$Encoder", "withoutPadding", "()Ljava/util/Base64$Encoder;"⟩ : MethodName)) (wT 36 rfl) (wT 37 rfl) (fun s' hZ => notFace_of_selects (args := #[]) (mv hZ (wT 39 rfl))) (wT 39 rfl) (wT 38 rfl) (by decide) (W := 0) (a := e0) (argsL := []) (rest := []) (Pays.of_met (rm_wop l Z a0 G1 G3 e0 tb kt hX hY n0 h_24 O_25   []) (wT 40 rfl) (wT 35 rfl) (by decide) (by decide)) F_36 rfl (by rw [hml]; rfl) (lenOf pd__28__29_Ljava_2f_util_2f_Base64_24_Encoder_3b_ rfl) rfl (by show 2 * 0 + _ ≤ _; exact Nat.le_of_eq rfl) (hb hby d530) (by decide) (by decide) ?_
  intro v_37 h_38 bk_39 O_40 z_41 Q_42
  obtain ⟨a_43, rfl, rfl, K_44, F_45, F_46, F_47, F_48, F_49, P_50⟩ := Q_42
  have lt_51 : @LT.lt Nat _ a_43 (Array.size h_38) := F_45.lt
  have lt_52 : @LT.lt Nat _ a_43 (Array.size h_38) := F_46.lt
  have lt_53 : @LT.lt Nat _ a_43 (Array.size h_38) := F_47.lt
  have lt_54 : @LT.lt Nat _ a_43 (Array.size h_38) := F_48.lt
  have lt_55 : @LT.lt Nat _ a_43 (Array.size h_38) := F_49.lt
  refine k_pure (g' := (mkF m 36 #[.val (.ref x), .val (.ref a_4)] [(.ref a_4), (.ref a_43)])) (fun _ J _ j => XS.aloadN J hx rfl (hb hby d531) rfl rfl j) ?_
  have F_56 : Arv Z h_38 a_4 k_6 .byte (1 : Int32) [(.int (1 : Int32))] (.int (0 : Int32)) := (V_29.keep K_44 nin0)
  refine k_callV hx (y := (⟨"java/util/Base64$Encoder", "encodeToString", "([B)Ljava/lang/String;"⟩ : MethodName)) (z := (⟨"java/util/Base64$Encoder", "encodeToString", "([B)Ljava/lang/String;"⟩ : MethodName)) (wT 56 rfl) (wT 57 rfl) (fun s' hZ => notFace_of_selects (args := #[]) (mv hZ (wT 59 rfl))) (wT 59 rfl) (wT 58 rfl) (by decide) (W := 0) (a := a_43) (argsL := [(.ref a_4)]) (rest := []) (Pays.of_met (rm_ets0 l Z a0 G1 G3 e0 tb kt hX hY n0 h_38 O_40 a_43 a_4 k_6 F_45 F_46 F_47 F_48 F_49 F_56 []) (wT 60 rfl) (wT 35 rfl) (by decide) (by decide)) F_45 rfl (by rw [hml]; rfl) (lenOf pd__28__5b_B_29_Ljava_2f_lang_2f_String_3b_ rfl) rfl (by show 2 * 0 + _ ≤ _; exact Nat.le_of_eq rfl) (hb hby d532) (by decide) (by decide) ?_
  intro v_57 h_58 bk_59 O_60 z_61 Q_62
  obtain ⟨a_63, a_64, k_65, rfl, rfl, K_66, F_67⟩ := Q_62
  have lt_68 : @LT.lt Nat _ a_63 (Array.size h_58) := F_67.lt1
  have lt_69 : @LT.lt Nat _ a_64 (Array.size h_58) := F_67.lt2
  show Run p l e _ s m _ below meth c Z EL1 _ n0 NoB h_58 5 13 (mkF m 39 #[.val (.ref x), .val (.ref a_4)] [(.ref a_63)]) _
  exact k_retA hx hlk hret rfl rfl rfl (hb hby d533) (by decide) (by decide) ⟨a_63, a_64, k_65, rfl, rfl, ((((((Keep.refl _ _).ext E_9).wr W_17 (Or.inr (by omega))).trans K_26 (kkS (Or.inr (by omega)) kk0)).trans K_44 kk0).trans K_66 kk0), F_67⟩
def Q_tow1 (Z : State) (G1 : Int32) (G3 : Value) (e0 tb : Addr) (kt : ClassId) (x : Addr) (u : Addr) (ku : ClassId) (za : Int32) (h0 : Heap) (n0 : Nat) (bk : Addr → Prop) (v : Option Value) (h : Heap) (bk' : Addr → Prop) : Prop := ∃ (a : Addr), ∃ (t : Addr), ∃ (kb : ClassId), v = some (.ref a) ∧ NoB = bk' ∧ Keep h0 h [] ∧ (StrL Z h a t kb [en (0 : Int32), en ((16 : Int32) ||| (za >>> ((4 : Int32) &&& 31))), en (((za &&& (15 : Int32)) <<< ((2 : Int32) &&& 31)) ||| (0 : Int32))])
abbrev RM_tow1 : Room := { frames := 4, cells := 5, slots := 16, locals := 62 }
theorem ef_tow1 (m : MethodId) (x0 : Addr) : entryFrame m #[(.ref x0)] 2 = mkF m 0 #[.val (.ref x0), .unset] [] := by first | (simp [entryFrame, mkF, argsToLocals, Value.category]; done) | rfl
set_option maxRecDepth 65536 in
set_option maxHeartbeats 40000000 in
theorem rm_tow1 (l : Launch) (Z : State) (a0 : Array Value) (G1 : Int32) (G3 : Value) (e0 tb : Addr) (kt : ClassId) (hX : Ctx Z a0 G1 G3) (hY : More Z e0 tb kt) (n0 : Nat) (h0 : Heap) (O0 : Old Z n0 h0) (x : Addr) (u : Addr) (ku : ClassId) (za : Int32) (pf_0 : Exa Z h0 x "com/example/lean_entities/leanentities/session/Cursor") (pf_1 : Fld Z h0 x "com/example/lean_entities/leanentities/session/Cursor" "position" "[B" (.ref u)) (pf_2 : Arv Z h0 u ku .byte (1 : Int32) [(.int (za.toInt8.toInt32))] (.int (0 : Int32))) (b_za : 0 ≤ za.toInt ∧ za.toInt ≤ 255) (ws : List Jvm.Cond) : Met l Z EL1 n0 NoB (⟨"com/example/lean_entities/leanentities/session/Cursor", "toWebSafeString", "()Ljava/lang/String;"⟩ : MethodName) prog_18_method_3_code 2 (Option.some (FieldType.object "java/lang/String")) RM_tow1 #[(.ref x)] h0 (Q_tow1 Z G1 G3 e0 tb kt x u ku za h0 n0 NoB) ws := by
  have hX' := hX
  obtain ⟨hw, hE, S1, P1, S3, P3⟩ := hX'
  have hY' := hY
  obtain ⟨s_e, x_e, f_u, f_n, f_l, f_p, s_t, a_t⟩ := hY'
  have wT : ∀ (i : Nat) {d : Jvm.Cond}, tables_1[i]? = some d → d.before a0 Z = true := fun i d h => hw d (List.mem_of_getElem? h)
  have z0 : n0 ≤ h0.size := by rw [← O0.1]; exact O0.2.1
  refine Met.of (by decide +kernel) O0 hE ?_
  intro p e s m below meth c hx hby hml hret hlk hnm
  refine k_cast (ef_tow1 m x) ?_
  show Run p l e _ s m _ below meth c Z EL1 _ n0 NoB h0 0 0 (mkF m 0 #[.val (.ref x), .unset] []) _
  have lt_1 : @LT.lt Nat _ x (Array.size h0) := pf_0.lt
  have lt_2 : @LT.lt Nat _ x (Array.size h0) := pf_1.lt
  have lt_3 : @LT.lt Nat _ u (Array.size h0) := pf_2.lt
  refine k_pure (g' := (mkF m 1 #[.val (.ref x), .unset] [(.ref x)])) (fun _ J _ j => XS.aloadN J hx rfl (hb hby d509) rfl rfl j) ?_
  refine k_getF hx (host := "") (Or.inl (wT 19 rfl)) Via.refl pf_1 rfl rfl (hb hby d510) ?_
  show Run p l e _ s m _ below meth c Z EL1 _ n0 NoB h0 0 0 (mkF m 4 #[.val (.ref x), .unset] [(.ref u)]) _
  refine k_alen hx pf_2 rfl rfl (hb hby d511) ?_
  refine k_pure (g' := (mkF m 7 #[.val (.ref x), .unset] [(.int (2 : Int32))])) (fun TT HH tt kk => XS.iconst HH hx rfl (hb hby d512) (XS.iadd HH hx rfl (hb hby d513) rfl kk)) ?_
  refine k_newP hx (wT 0 rfl) rfl (hb hby d514) rfl (by decide) (cap := 2) (by decide) (by decide) (by decide) (by decide) "[B" (by decide +kernel) ?_
  intro h_5 a_4 k_6 g_7 O_8 E_9 A_10 X_11
  have z_12 := E_9.1
  have lt_13 : @LT.lt Nat _ a_4 (Array.size h_5) := A_10.lt
  have V_14 : Arv Z h_5 a_4 k_6 .byte (2 : Int32) [(.int (0 : Int32)), (.int (0 : Int32))] (.int (0 : Int32)) := Arv.pad A_10 (pad_rep [] (.int (0 : Int32)) 2)
  refine k_pure (g' := (mkF m 13 #[.val (.ref x), .val (.ref a_4)] [(.int (1 : Int32)), (.int (0 : Int32)), (.ref a_4)])) (fun TT HH tt kk => XS.astoreN HH hx rfl (hb hby d515) rfl rfl (l' := #[.val (.ref x), .val (.ref a_4)]) rfl (XS.aloadN HH hx rfl (hb hby d516) rfl rfl (XS.iconst HH hx rfl (hb hby d517) (XS.iconst HH hx rfl (hb hby d518) kk)))) ?_
  refine k_stB hx V_14 ⟨by decide, by decide⟩ 0 (by decide) (Nat.le_of_ble_eq_true rfl) (by omega) (fun q => q) rfl rfl (hb hby d519) ?_
  intro h_15 O_16 W_17 A_18
  have z_19 := W_17.size
  have V_20 : Arv Z h_15 a_4 k_6 .byte (2 : Int32) [(.int (1 : Int32)), (.int (0 : Int32))] (.int (0 : Int32)) := A_18
  refine k_pure (g' := (mkF m 15 #[.val (.ref x), .val (.ref a_4)] [(.ref x)])) (fun _ J _ j => XS.aloadN J hx rfl (hb hby d520) rfl rfl j) ?_
  have F_21 : Fld Z h_15 x "com/example/lean_entities/leanentities/session/Cursor" "position" "[B" (.ref u) := ((pf_1.ext E_9).other W_17 (Or.inl (ne_ad (by omega))))
  refine k_getF hx (host := "") (Or.inl (wT 19 rfl)) Via.refl F_21 rfl rfl (hb hby d521) ?_
  refine k_pure (g' := (mkF m 22 #[.val (.ref x), .val (.ref a_4)] [(.ref x), (.int (1 : Int32)), (.ref a_4), (.int (0 : Int32)), (.ref u)])) (fun TT HH tt kk => XS.iconst HH hx rfl (hb hby d522) (XS.aloadN HH hx rfl (hb hby d523) rfl rfl (XS.iconst HH hx rfl (hb hby d524) (XS.aloadN HH hx rfl (hb hby d525) rfl rfl kk)))) ?_
  refine k_getF hx (host := "") (Or.inl (wT 19 rfl)) Via.refl F_21 rfl rfl (hb hby d526) ?_
  show Run p l e _ s m _ below meth c Z EL1 _ n0 NoB h_15 1 2 (mkF m 25 #[.val (.ref x), .val (.ref a_4)] [(.ref u), (.int (1 : Int32)), (.ref a_4), (.int (0 : Int32)), (.ref u)]) _
  have F_22 : Arv Z h_15 u ku .byte (1 : Int32) [(.int (za.toInt8.toInt32))] (.int (0 : Int32)) := ((pf_2.ext E_9).other W_17 (ne_ad (by omega)))
  refine k_alen hx F_22 rfl rfl (hb hby d527) ?_
  show Run p l e _ s m _ below meth c Z EL1 _ n0 NoB h_15 1 2 (mkF m 26 #[.val (.ref x), .val (.ref a_4)] [(.int (1 : Int32)), (.int (1 : Int32)), (.ref a_4), (.int (0 : Int32)), (.ref u)]) _
  have B_23 : Arv Z h_15 a_4 k_6 .byte (2 : Int32) [(.int (1 : Int32)), (.int (0 : Int32))] (.int (0 : Int32)) := V_20
  refine k_cpA hx (wT 26 rfl) (wT 29 rfl) (wT 27 rfl) (wT 28 rfl) F_22 B_23 (Or.inl ⟨rfl, rfl⟩) (by decide) (by decide) (by decide) (by decide) (by decide) rfl (by decide) (by omega) (fun q => q) rfl (by rw [hml]; rfl) rfl (hb hby d528) (by decide) (W := 0) (by show 2 * 0 + _ ≤ _; exact Nat.le_of_eq rfl) (by decide) ?_
  intro h_24 O_25 K_26 V_27
  have z_28 := K_26.1
  have V_29 : Arv Z h_24 a_4 k_6 .byte (2 : Int32) [(.int (1 : Int32)), (.int (za.toInt8.toInt32))] (.int (0 : Int32)) := V_27
  show Run p l e _ s m _ below meth c Z EL1 _ n0 NoB h_24 1 2 (mkF m 29 #[.val (.ref x), .val (.ref a_4)] []) _
  refine k_callS hx (y := (⟨"java/util/Base64", "getUrlEncoder", "()Ljava/util/Base64$Encoder;"⟩ : MethodName)) (wT 30 rfl) (wT 31 rfl) (wT 32 rfl) (wT 33 rfl) (by decide) (W := 0) (argsL := []) (rest := []) (Pays.of_met (rm_gue l Z a0 G1 G3 e0 tb kt hX hY n0 h_24 O_25   []) (wT 33 rfl) (wT 32 rfl) (by decide) (by decide)) rfl (by rw [hml]; rfl) (lenOf pd__28__29_Ljava_2f_util_2f_Base64_24_Encoder_3b_ rfl) rfl (by show 2 * 0 + _ ≤ _; exact Nat.le_of_eq rfl) (hb hby d529) (by decide) (by decide) ?_
  intro v_30 h_31 bk_32 O_33 z_34 Q_35
  obtain ⟨rfl, rfl, rfl⟩ := Q_35
  show Run p l e _ s m _ below meth c Z EL1 _ n0 NoB h_24 1 2 (mkF m 32 #[.val (.ref x), .val (.ref a_4)] [(.ref e0)]) _
  have F_36 : Exa Z h_24 e0 "java/util/Base64$Encoder" := x_e.ext O_25.2
  refine k_callV hx (y := (⟨"java/util/Base64$Encoder", "withoutPadding", "()Ljava/util/Base64$Encoder;"⟩ : MethodName)) (z := (⟨"java/util/Base64$Encoder", "withoutPadding", "()Ljava/util/Base64$Encoder;"⟩ : MethodName)) (wT 36 rfl) (wT 37 rfl) (fun s' hZ => notFace_of_selects (args := #[]) (mv hZ (wT 39 rfl))) (wT 39 rfl) (wT 38 rfl) (by decide) (W := 0) (a := e0) (argsL := []) (rest := []) (Pays.of_met (rm_wop l Z a0 G1 G3 e0 tb kt hX hY n0 h_24 O_25   []) (wT 40 rfl) (wT 35 rfl) (by decide) (by decide)) F_36 rfl (by rw [hml]; rfl) (lenOf pd__28__29_Ljava_2f_util_2f_Base64_24_Encoder_3b_ rfl) rfl (by show 2 * 0 + _ ≤ _; exact Nat.le_of_eq rfl) (hb hby d530) (by decide) (by decide) ?_
  intro v_37 h_38 bk_39 O_40 z_41 Q_42
  obtain ⟨a_43, rfl, rfl, K_44, F_45, F_46, F_47, F_48, F_49, P_50⟩ := Q_42
  have lt_51 : @LT.lt Nat _ a_43 (Array.size h_38) := F_45.lt
  have lt_52 : @LT.lt Nat _ a_43 (Array.size h_38) := F_46.lt
  have lt_53 : @LT.lt Nat _ a_43 (Array.size h_38) := F_47.lt
  have lt_54 : @LT.lt Nat _ a_43 (Array.size h_38) := F_48.lt
  have lt_55 : @LT.lt Nat _ a_43 (Array.size h_38) := F_49.lt
  refine k_pure (g' := (mkF m 36 #[.val (.ref x), .val (.ref a_4)] [(.ref a_4), (.ref a_43)])) (fun _ J _ j => XS.aloadN J hx rfl (hb hby d531) rfl rfl j) ?_
  have F_56 : Arv Z h_38 a_4 k_6 .byte (2 : Int32) [(.int (1 : Int32)), (.int (za.toInt8.toInt32))] (.int (0 : Int32)) := (V_29.keep K_44 nin0)
  refine k_callV hx (y := (⟨"java/util/Base64$Encoder", "encodeToString", "([B)Ljava/lang/String;"⟩ : MethodName)) (z := (⟨"java/util/Base64$Encoder", "encodeToString", "([B)Ljava/lang/String;"⟩ : MethodName)) (wT 56 rfl) (wT 57 rfl) (fun s' hZ => notFace_of_selects (args := #[]) (mv hZ (wT 59 rfl))) (wT 59 rfl) (wT 58 rfl) (by decide) (W := 0) (a := a_43) (argsL := [(.ref a_4)]) (rest := []) (Pays.of_met (rm_ets1 l Z a0 G1 G3 e0 tb kt hX hY n0 h_38 O_40 a_43 a_4 k_6 za F_45 F_46 F_47 F_48 F_49 F_56 b_za []) (wT 60 rfl) (wT 35 rfl) (by decide) (by decide)) F_45 rfl (by rw [hml]; rfl) (lenOf pd__28__5b_B_29_Ljava_2f_lang_2f_String_3b_ rfl) rfl (by show 2 * 0 + _ ≤ _; exact Nat.le_of_eq rfl) (hb hby d532) (by decide) (by decide) ?_
  intro v_57 h_58 bk_59 O_60 z_61 Q_62
  obtain ⟨a_63, a_64, k_65, rfl, rfl, K_66, F_67⟩ := Q_62
  have lt_68 : @LT.lt Nat _ a_63 (Array.size h_58) := F_67.lt1
  have lt_69 : @LT.lt Nat _ a_64 (Array.size h_58) := F_67.lt2
  show Run p l e _ s m _ below meth c Z EL1 _ n0 NoB h_58 5 16 (mkF m 39 #[.val (.ref x), .val (.ref a_4)] [(.ref a_63)]) _
  exact k_retA hx hlk hret rfl rfl rfl (hb hby d533) (by decide) (by decide) ⟨a_63, a_64, k_65, rfl, rfl, ((((((Keep.refl _ _).ext E_9).wr W_17 (Or.inr (by omega))).trans K_26 (kkS (Or.inr (by omega)) kk0)).trans K_44 kk0).trans K_66 kk0), F_67⟩
def Q_tow2 (Z : State) (G1 : Int32) (G3 : Value) (e0 tb : Addr) (kt : ClassId) (x : Addr) (u : Addr) (ku : ClassId) (za : Int32) (zb : Int32) (h0 : Heap) (n0 : Nat) (bk : Addr → Prop) (v : Option Value) (h : Heap) (bk' : Addr → Prop) : Prop := ∃ (a : Addr), ∃ (t : Addr), ∃ (kb : ClassId), v = some (.ref a) ∧ NoB = bk' ∧ Keep h0 h [] ∧ (StrL Z h a t kb [en (0 : Int32), en ((16 : Int32) ||| (za >>> ((4 : Int32) &&& 31))), en (((za &&& (15 : Int32)) <<< ((2 : Int32) &&& 31)) ||| (zb >>> ((6 : Int32) &&& 31))), en (zb &&& (63 : Int32))])
abbrev RM_tow2 : Room := { frames := 4, cells := 5, slots := 19, locals := 79 }
theorem ef_tow2 (m : MethodId) (x0 : Addr) : entryFrame m #[(.ref x0)] 2 = mkF m 0 #[.val (.ref x0), .unset] [] := by first | (simp [entryFrame, mkF, argsToLocals, Value.category]; done) | rfl
set_option maxRecDepth 65536 in
set_option maxHeartbeats 40000000 in
theorem rm_tow2 (l : Launch) (Z : State) (a0 : Array Value) (G1 : Int32) (G3 : Value) (e0 tb : Addr) (kt : ClassId) (hX : Ctx Z a0 G1 G3) (hY : More Z e0 tb kt) (n0 : Nat) (h0 : Heap) (O0 : Old Z n0 h0) (x : Addr) (u : Addr) (ku : ClassId) (za : Int32) (zb : Int32) (pf_0 : Exa Z h0 x "com/example/lean_entities/leanentities/session/Cursor") (pf_1 : Fld Z h0 x "com/example/lean_entities/leanentities/session/Cursor" "position" "[B" (.ref u)) (pf_2 : Arv Z h0 u ku .byte (2 : Int32) [(.int (za.toInt8.toInt32)), (.int (zb.toInt8.toInt32))] (.int (0 : Int32))) (b_za : 0 ≤ za.toInt ∧ za.toInt ≤ 255) (b_zb : 0 ≤ zb.toInt ∧ zb.toInt ≤ 255) (ws : List Jvm.Cond) : Met l Z EL1 n0 NoB (⟨"com/example/lean_entities/leanentities/session/Cursor", "toWebSafeString", "()Ljava/lang/String;"⟩ : MethodName) prog_18_method_3_code 2 (Option.some (FieldType.object "java/lang/String")) RM_tow2 #[(.ref x)] h0 (Q_tow2 Z G1 G3 e0 tb kt x u ku za zb h0 n0 NoB) ws := by
  have hX' := hX
  obtain ⟨hw, hE, S1, P1, S3, P3⟩ := hX'
  have hY' := hY
  obtain ⟨s_e, x_e, f_u, f_n, f_l, f_p, s_t, a_t⟩ := hY'
  have wT : ∀ (i : Nat) {d : Jvm.Cond}, tables_1[i]? = some d → d.before a0 Z = true := fun i d h => hw d (List.mem_of_getElem? h)
  have z0 : n0 ≤ h0.size := by rw [← O0.1]; exact O0.2.1
  refine Met.of (by decide +kernel) O0 hE ?_
  intro p e s m below meth c hx hby hml hret hlk hnm
  refine k_cast (ef_tow2 m x) ?_
  show Run p l e _ s m _ below meth c Z EL1 _ n0 NoB h0 0 0 (mkF m 0 #[.val (.ref x), .unset] []) _
  have lt_1 : @LT.lt Nat _ x (Array.size h0) := pf_0.lt
  have lt_2 : @LT.lt Nat _ x (Array.size h0) := pf_1.lt
  have lt_3 : @LT.lt Nat _ u (Array.size h0) := pf_2.lt
  refine k_pure (g' := (mkF m 1 #[.val (.ref x), .unset] [(.ref x)])) (fun _ J _ j => XS.aloadN J hx rfl (hb hby d509) rfl rfl j) ?_
  refine k_getF hx (host := "") (Or.inl (wT 19 rfl)) Via.refl pf_1 rfl rfl (hb hby d510) ?_
  show Run p l e _ s m _ below meth c Z EL1 _ n0 NoB h0 0 0 (mkF m 4 #[.val (.ref x), .unset] [(.ref u)]) _
  refine k_alen hx pf_2 rfl rfl (hb hby d511) ?_
  refine k_pure (g' := (mkF m 7 #[.val (.ref x), .unset] [(.int (3 : Int32))])) (fun TT HH tt kk => XS.iconst HH hx rfl (hb hby d512) (XS.iadd HH hx rfl (hb hby d513) rfl kk)) ?_
  refine k_newP hx (wT 0 rfl) rfl (hb hby d514) rfl (by decide) (cap := 3) (by decide) (by decide) (by decide) (by decide) "[B" (by decide +kernel) ?_
  intro h_5 a_4 k_6 g_7 O_8 E_9 A_10 X_11
  have z_12 := E_9.1
  have lt_13 : @LT.lt Nat _ a_4 (Array.size h_5) := A_10.lt
  have V_14 : Arv Z h_5 a_4 k_6 .byte (3 : Int32) [(.int (0 : Int32)), (.int (0 : Int32)), (.int (0 : Int32))] (.int (0 : Int32)) := Arv.pad A_10 (pad_rep [] (.int (0 : Int32)) 3)
  refine k_pure (g' := (mkF m 13 #[.val (.ref x), .val (.ref a_4)] [(.int (1 : Int32)), (.int (0 : Int32)), (.ref a_4)])) (fun TT HH tt kk => XS.astoreN HH hx rfl (hb hby d515) rfl rfl (l' := #[.val (.ref x), .val (.ref a_4)]) rfl (XS.aloadN HH hx rfl (hb hby d516) rfl rfl (XS.iconst HH hx rfl (hb hby d517) (XS.iconst HH hx rfl (hb hby d518) kk)))) ?_
  refine k_stB hx V_14 ⟨by decide, by decide⟩ 0 (by decide) (Nat.le_of_ble_eq_true rfl) (by omega) (fun q => q) rfl rfl (hb hby d519) ?_
  intro h_15 O_16 W_17 A_18
  have z_19 := W_17.size
  have V_20 : Arv Z h_15 a_4 k_6 .byte (3 : Int32) [(.int (1 : Int32)), (.int (0 : Int32)), (.int (0 : Int32))] (.int (0 : Int32)) := A_18
  refine k_pure (g' := (mkF m 15 #[.val (.ref x), .val (.ref a_4)] [(.ref x)])) (fun _ J _ j => XS.aloadN J hx rfl (hb hby d520) rfl rfl j) ?_
  have F_21 : Fld Z h_15 x "com/example/lean_entities/leanentities/session/Cursor" "position" "[B" (.ref u) := ((pf_1.ext E_9).other W_17 (Or.inl (ne_ad (by omega))))
  refine k_getF hx (host := "") (Or.inl (wT 19 rfl)) Via.refl F_21 rfl rfl (hb hby d521) ?_
  refine k_pure (g' := (mkF m 22 #[.val (.ref x), .val (.ref a_4)] [(.ref x), (.int (1 : Int32)), (.ref a_4), (.int (0 : Int32)), (.ref u)])) (fun TT HH tt kk => XS.iconst HH hx rfl (hb hby d522) (XS.aloadN HH hx rfl (hb hby d523) rfl rfl (XS.iconst HH hx rfl (hb hby d524) (XS.aloadN HH hx rfl (hb hby d525) rfl rfl kk)))) ?_
  refine k_getF hx (host := "") (Or.inl (wT 19 rfl)) Via.refl F_21 rfl rfl (hb hby d526) ?_
  show Run p l e _ s m _ below meth c Z EL1 _ n0 NoB h_15 1 3 (mkF m 25 #[.val (.ref x), .val (.ref a_4)] [(.ref u), (.int (1 : Int32)), (.ref a_4), (.int (0 : Int32)), (.ref u)]) _
  have F_22 : Arv Z h_15 u ku .byte (2 : Int32) [(.int (za.toInt8.toInt32)), (.int (zb.toInt8.toInt32))] (.int (0 : Int32)) := ((pf_2.ext E_9).other W_17 (ne_ad (by omega)))
  refine k_alen hx F_22 rfl rfl (hb hby d527) ?_
  show Run p l e _ s m _ below meth c Z EL1 _ n0 NoB h_15 1 3 (mkF m 26 #[.val (.ref x), .val (.ref a_4)] [(.int (2 : Int32)), (.int (1 : Int32)), (.ref a_4), (.int (0 : Int32)), (.ref u)]) _
  have B_23 : Arv Z h_15 a_4 k_6 .byte (3 : Int32) [(.int (1 : Int32)), (.int (0 : Int32)), (.int (0 : Int32))] (.int (0 : Int32)) := V_20
  refine k_cpA hx (wT 26 rfl) (wT 29 rfl) (wT 27 rfl) (wT 28 rfl) F_22 B_23 (Or.inl ⟨rfl, rfl⟩) (by decide) (by decide) (by decide) (by decide) (by decide) rfl (by decide) (by omega) (fun q => q) rfl (by rw [hml]; rfl) rfl (hb hby d528) (by decide) (W := 0) (by show 2 * 0 + _ ≤ _; exact Nat.le_of_eq rfl) (by decide) ?_
  intro h_24 O_25 K_26 V_27
  have z_28 := K_26.1
  have V_29 : Arv Z h_24 a_4 k_6 .byte (3 : Int32) [(.int (1 : Int32)), (.int (za.toInt8.toInt32)), (.int (zb.toInt8.toInt32))] (.int (0 : Int32)) := V_27
  show Run p l e _ s m _ below meth c Z EL1 _ n0 NoB h_24 1 3 (mkF m 29 #[.val (.ref x), .val (.ref a_4)] []) _
  refine k_callS hx (y := (⟨"java/util/Base64", "getUrlEncoder", "()Ljava/util/Base64$Encoder;"⟩ : MethodName)) (wT 30 rfl) (wT 31 rfl) (wT 32 rfl) (wT 33 rfl) (by decide) (W := 0) (argsL := []) (rest := []) (Pays.of_met (rm_gue l Z a0 G1 G3 e0 tb kt hX hY n0 h_24 O_25   []) (wT 33 rfl) (wT 32 rfl) (by decide) (by decide)) rfl (by rw [hml]; rfl) (lenOf pd__28__29_Ljava_2f_util_2f_Base64_24_Encoder_3b_ rfl) rfl (by show 2 * 0 + _ ≤ _; exact Nat.le_of_eq rfl) (hb hby d529) (by decide) (by decide) ?_
  intro v_30 h_31 bk_32 O_33 z_34 Q_35
  obtain ⟨rfl, rfl, rfl⟩ := Q_35
  show Run p l e _ s m _ below meth c Z EL1 _ n0 NoB h_24 1 3 (mkF m 32 #[.val (.ref x), .val (.ref a_4)] [(.ref e0)]) _
  have F_36 : Exa Z h_24 e0 "java/util/Base64$Encoder" := x_e.ext O_25.2
  refine k_callV hx (y := (⟨"java/util/Base64$Encoder", "withoutPadding", "()Ljava/util/Base64$Encoder;"⟩ : MethodName)) (z := (⟨"java/util/Base64$Encoder", "withoutPadding", "()Ljava/util/Base64$Encoder;"⟩ : MethodName)) (wT 36 rfl) (wT 37 rfl) (fun s' hZ => notFace_of_selects (args := #[]) (mv hZ (wT 39 rfl))) (wT 39 rfl) (wT 38 rfl) (by decide) (W := 0) (a := e0) (argsL := []) (rest := []) (Pays.of_met (rm_wop l Z a0 G1 G3 e0 tb kt hX hY n0 h_24 O_25   []) (wT 40 rfl) (wT 35 rfl) (by decide) (by decide)) F_36 rfl (by rw [hml]; rfl) (lenOf pd__28__29_Ljava_2f_util_2f_Base64_24_Encoder_3b_ rfl) rfl (by show 2 * 0 + _ ≤ _; exact Nat.le_of_eq rfl) (hb hby d530) (by decide) (by decide) ?_
  intro v_37 h_38 bk_39 O_40 z_41 Q_42
  obtain ⟨a_43, rfl, rfl, K_44, F_45, F_46, F_47, F_48, F_49, P_50⟩ := Q_42
  have lt_51 : @LT.lt Nat _ a_43 (Array.size h_38) := F_45.lt
  have lt_52 : @LT.lt Nat _ a_43 (Array.size h_38) := F_46.lt
  have lt_53 : @LT.lt Nat _ a_43 (Array.size h_38) := F_47.lt
  have lt_54 : @LT.lt Nat _ a_43 (Array.size h_38) := F_48.lt
  have lt_55 : @LT.lt Nat _ a_43 (Array.size h_38) := F_49.lt
  refine k_pure (g' := (mkF m 36 #[.val (.ref x), .val (.ref a_4)] [(.ref a_4), (.ref a_43)])) (fun _ J _ j => XS.aloadN J hx rfl (hb hby d531) rfl rfl j) ?_
  have F_56 : Arv Z h_38 a_4 k_6 .byte (3 : Int32) [(.int (1 : Int32)), (.int (za.toInt8.toInt32)), (.int (zb.toInt8.toInt32))] (.int (0 : Int32)) := (V_29.keep K_44 nin0)
  refine k_callV hx (y := (⟨"java/util/Base64$Encoder", "encodeToString", "([B)Ljava/lang/String;"⟩ : MethodName)) (z := (⟨"java/util/Base64$Encoder", "encodeToString", "([B)Ljava/lang/String;"⟩ : MethodName)) (wT 56 rfl) (wT 57 rfl) (fun s' hZ => notFace_of_selects (args := #[]) (mv hZ (wT 59 rfl))) (wT 59 rfl) (wT 58 rfl) (by decide) (W := 0) (a := a_43) (argsL := [(.ref a_4)]) (rest := []) (Pays.of_met (rm_ets2 l Z a0 G1 G3 e0 tb kt hX hY n0 h_38 O_40 a_43 a_4 k_6 za zb F_45 F_46 F_47 F_48 F_49 F_56 b_za b_zb []) (wT 60 rfl) (wT 35 rfl) (by decide) (by decide)) F_45 rfl (by rw [hml]; rfl) (lenOf pd__28__5b_B_29_Ljava_2f_lang_2f_String_3b_ rfl) rfl (by show 2 * 0 + _ ≤ _; exact Nat.le_of_eq rfl) (hb hby d532) (by decide) (by decide) ?_
  intro v_57 h_58 bk_59 O_60 z_61 Q_62
  obtain ⟨a_63, a_64, k_65, rfl, rfl, K_66, F_67⟩ := Q_62
  have lt_68 : @LT.lt Nat _ a_63 (Array.size h_58) := F_67.lt1
  have lt_69 : @LT.lt Nat _ a_64 (Array.size h_58) := F_67.lt2
  show Run p l e _ s m _ below meth c Z EL1 _ n0 NoB h_58 5 19 (mkF m 39 #[.val (.ref x), .val (.ref a_4)] [(.ref a_63)]) _
  exact k_retA hx hlk hret rfl rfl rfl (hb hby d533) (by decide) (by decide) ⟨a_63, a_64, k_65, rfl, rfl, ((((((Keep.refl _ _).ext E_9).wr W_17 (Or.inr (by omega))).trans K_26 (kkS (Or.inr (by omega)) kk0)).trans K_44 kk0).trans K_66 kk0), F_67⟩
def Q_tow3 (Z : State) (G1 : Int32) (G3 : Value) (e0 tb : Addr) (kt : ClassId) (x : Addr) (u : Addr) (ku : ClassId) (za : Int32) (zb : Int32) (zc : Int32) (h0 : Heap) (n0 : Nat) (bk : Addr → Prop) (v : Option Value) (h : Heap) (bk' : Addr → Prop) : Prop := ∃ (a : Addr), ∃ (t : Addr), ∃ (kb : ClassId), v = some (.ref a) ∧ NoB = bk' ∧ Keep h0 h [] ∧ (StrL Z h a t kb [en (0 : Int32), en ((16 : Int32) ||| (za >>> ((4 : Int32) &&& 31))), en (((za &&& (15 : Int32)) <<< ((2 : Int32) &&& 31)) ||| (zb >>> ((6 : Int32) &&& 31))), en (zb &&& (63 : Int32)), en (zc >>> ((2 : Int32) &&& 31)), en ((zc &&& (3 : Int32)) <<< ((4 : Int32) &&& 31))])
abbrev RM_tow3 : Room := { frames := 4, cells := 5, slots := 24, locals := 79 }
theorem ef_tow3 (m : MethodId) (x0 : Addr) : entryFrame m #[(.ref x0)] 2 = mkF m 0 #[.val (.ref x0), .unset] [] := by first | (simp [entryFrame, mkF, argsToLocals, Value.category]; done) | rfl
set_option maxRecDepth 65536 in
set_option maxHeartbeats 40000000 in
theorem rm_tow3 (l : Launch) (Z : State) (a0 : Array Value) (G1 : Int32) (G3 : Value) (e0 tb : Addr) (kt : ClassId) (hX : Ctx Z a0 G1 G3) (hY : More Z e0 tb kt) (n0 : Nat) (h0 : Heap) (O0 : Old Z n0 h0) (x : Addr) (u : Addr) (ku : ClassId) (za : Int32) (zb : Int32) (zc : Int32) (pf_0 : Exa Z h0 x "com/example/lean_entities/leanentities/session/Cursor") (pf_1 : Fld Z h0 x "com/example/lean_entities/leanentities/session/Cursor" "position" "[B" (.ref u)) (pf_2 : Arv Z h0 u ku .byte (3 : Int32) [(.int (za.toInt8.toInt32)), (.int (zb.toInt8.toInt32)), (.int (zc.toInt8.toInt32))] (.int (0 : Int32))) (b_za : 0 ≤ za.toInt ∧ za.toInt ≤ 255) (b_zb : 0 ≤ zb.toInt ∧ zb.toInt ≤ 255) (b_zc : 0 ≤ zc.toInt ∧ zc.toInt ≤ 255) (ws : List Jvm.Cond) : Met l Z EL1 n0 NoB (⟨"com/example/lean_entities/leanentities/session/Cursor", "toWebSafeString", "()Ljava/lang/String;"⟩ : MethodName) prog_18_method_3_code 2 (Option.some (FieldType.object "java/lang/String")) RM_tow3 #[(.ref x)] h0 (Q_tow3 Z G1 G3 e0 tb kt x u ku za zb zc h0 n0 NoB) ws := by
  have hX' := hX
  obtain ⟨hw, hE, S1, P1, S3, P3⟩ := hX'
  have hY' := hY
  obtain ⟨s_e, x_e, f_u, f_n, f_l, f_p, s_t, a_t⟩ := hY'
  have wT : ∀ (i : Nat) {d : Jvm.Cond}, tables_1[i]? = some d → d.before a0 Z = true := fun i d h => hw d (List.mem_of_getElem? h)
  have z0 : n0 ≤ h0.size := by rw [← O0.1]; exact O0.2.1
  refine Met.of (by decide +kernel) O0 hE ?_
  intro p e s m below meth c hx hby hml hret hlk hnm
  refine k_cast (ef_tow3 m x) ?_
  show Run p l e _ s m _ below meth c Z EL1 _ n0 NoB h0 0 0 (mkF m 0 #[.val (.ref x), .unset] []) _
  have lt_1 : @LT.lt Nat _ x (Array.size h0) := pf_0.lt
  have lt_2 : @LT.lt Nat _ x (Array.size h0) := pf_1.lt
  have lt_3 : @LT.lt Nat _ u (Array.size h0) := pf_2.lt
  refine k_pure (g' := (mkF m 1 #[.val (.ref x), .unset] [(.ref x)])) (fun _ J _ j => XS.aloadN J hx rfl (hb hby d509) rfl rfl j) ?_
  refine k_getF hx (host := "") (Or.inl (wT 19 rfl)) Via.refl pf_1 rfl rfl (hb hby d510) ?_
  show Run p l e _ s m _ below meth c Z EL1 _ n0 NoB h0 0 0 (mkF m 4 #[.val (.ref x), .unset] [(.ref u)]) _
  refine k_alen hx pf_2 rfl rfl (hb hby d511) ?_
  refine k_pure (g' := (mkF m 7 #[.val (.ref x), .unset] [(.int (4 : Int32))])) (fun TT HH tt kk => XS.iconst HH hx rfl (hb hby d512) (XS.iadd HH hx rfl (hb hby d513) rfl kk)) ?_
  refine k_newP hx (wT 0 rfl) rfl (hb hby d514) rfl (by decide) (cap := 4) (by decide) (by decide) (by decide) (by decide) "[B" (by decide +kernel) ?_
  intro h_5 a_4 k_6 g_7 O_8 E_9 A_10 X_11
  have z_12 := E_9.1
  have lt_13 : @LT.lt Nat _ a_4 (Array.size h_5) := A_10.lt
  have V_14 : Arv Z h_5 a_4 k_6 .byte (4 : Int32) [(.int (0 : Int32)), (.int (0 : Int32)), (.int (0 : Int32)), (.int (0 : Int32))] (.int (0 : Int32)) := Arv.pad A_10 (pad_rep [] (.int (0 : Int32)) 4)
  refine k_pure (g' := (mkF m 13 #[.val (.ref x), .val (.ref a_4)] [(.int (1 : Int32)), (.int (0 : Int32)), (.ref a_4)])) (fun TT HH tt kk => XS.astoreN HH hx rfl (hb hby d515) rfl rfl (l' := #[.val (.ref x), .val (.ref a_4)]) rfl (XS.aloadN HH hx rfl (hb hby d516) rfl rfl (XS.iconst HH hx rfl (hb hby d517) (XS.iconst HH hx rfl (hb hby d518) kk)))) ?_
  refine k_stB hx V_14 ⟨by decide, by decide⟩ 0 (by decide) (Nat.le_of_ble_eq_true rfl) (by omega) (fun q => q) rfl rfl (hb hby d519) ?_
  intro h_15 O_16 W_17 A_18
  have z_19 := W_17.size
  have V_20 : Arv Z h_15 a_4 k_6 .byte (4 : Int32) [(.int (1 : Int32)), (.int (0 : Int32)), (.int (0 : Int32)), (.int (0 : Int32))] (.int (0 : Int32)) := A_18
  refine k_pure (g' := (mkF m 15 #[.val (.ref x), .val (.ref a_4)] [(.ref x)])) (fun _ J _ j => XS.aloadN J hx rfl (hb hby d520) rfl rfl j) ?_
  have F_21 : Fld Z h_15 x "com/example/lean_entities/leanentities/session/Cursor" "position" "[B" (.ref u) := ((pf_1.ext E_9).other W_17 (Or.inl (ne_ad (by omega))))
  refine k_getF hx (host := "") (Or.inl (wT 19 rfl)) Via.refl F_21 rfl rfl (hb hby d521) ?_
  refine k_pure (g' := (mkF m 22 #[.val (.ref x), .val (.ref a_4)] [(.ref x), (.int (1 : Int32)), (.ref a_4), (.int (0 : Int32)), (.ref u)])) (fun TT HH tt kk => XS.iconst HH hx rfl (hb hby d522) (XS.aloadN HH hx rfl (hb hby d523) rfl rfl (XS.iconst HH hx rfl (hb hby d524) (XS.aloadN HH hx rfl (hb hby d525) rfl rfl kk)))) ?_
  refine k_getF hx (host := "") (Or.inl (wT 19 rfl)) Via.refl F_21 rfl rfl (hb hby d526) ?_
  show Run p l e _ s m _ below meth c Z EL1 _ n0 NoB h_15 1 4 (mkF m 25 #[.val (.ref x), .val (.ref a_4)] [(.ref u), (.int (1 : Int32)), (.ref a_4), (.int (0 : Int32)), (.ref u)]) _
  have F_22 : Arv Z h_15 u ku .byte (3 : Int32) [(.int (za.toInt8.toInt32)), (.int (zb.toInt8.toInt32)), (.int (zc.toInt8.toInt32))] (.int (0 : Int32)) := ((pf_2.ext E_9).other W_17 (ne_ad (by omega)))
  refine k_alen hx F_22 rfl rfl (hb hby d527) ?_
  show Run p l e _ s m _ below meth c Z EL1 _ n0 NoB h_15 1 4 (mkF m 26 #[.val (.ref x), .val (.ref a_4)] [(.int (3 : Int32)), (.int (1 : Int32)), (.ref a_4), (.int (0 : Int32)), (.ref u)]) _
  have B_23 : Arv Z h_15 a_4 k_6 .byte (4 : Int32) [(.int (1 : Int32)), (.int (0 : Int32)), (.int (0 : Int32)), (.int (0 : Int32))] (.int (0 : Int32)) := V_20
  refine k_cpA hx (wT 26 rfl) (wT 29 rfl) (wT 27 rfl) (wT 28 rfl) F_22 B_23 (Or.inl ⟨rfl, rfl⟩) (by decide) (by decide) (by decide) (by decide) (by decide) rfl (by decide) (by omega) (fun q => q) rfl (by rw [hml]; rfl) rfl (hb hby d528) (by decide) (W := 0) (by show 2 * 0 + _ ≤ _; exact Nat.le_of_eq rfl) (by decide) ?_
  intro h_24 O_25 K_26 V_27
  have z_28 := K_26.1
  have V_29 : Arv Z h_24 a_4 k_6 .byte (4 : Int32) [(.int (1 : Int32)), (.int (za.toInt8.toInt32)), (.int (zb.toInt8.toInt32)), (.int (zc.toInt8.toInt32))] (.int (0 : Int32)) := V_27
  show Run p l e _ s m _ below meth c Z EL1 _ n0 NoB h_24 1 4 (mkF m 29 #[.val (.ref x), .val (.ref a_4)] []) _
  refine k_callS hx (y := (⟨"java/util/Base64", "getUrlEncoder", "()Ljava/util/Base64$Encoder;"⟩ : MethodName)) (wT 30 rfl) (wT 31 rfl) (wT 32 rfl) (wT 33 rfl) (by decide) (W := 0) (argsL := []) (rest := []) (Pays.of_met (rm_gue l Z a0 G1 G3 e0 tb kt hX hY n0 h_24 O_25   []) (wT 33 rfl) (wT 32 rfl) (by decide) (by decide)) rfl (by rw [hml]; rfl) (lenOf pd__28__29_Ljava_2f_util_2f_Base64_24_Encoder_3b_ rfl) rfl (by show 2 * 0 + _ ≤ _; exact Nat.le_of_eq rfl) (hb hby d529) (by decide) (by decide) ?_
  intro v_30 h_31 bk_32 O_33 z_34 Q_35
  obtain ⟨rfl, rfl, rfl⟩ := Q_35
  show Run p l e _ s m _ below meth c Z EL1 _ n0 NoB h_24 1 4 (mkF m 32 #[.val (.ref x), .val (.ref a_4)] [(.ref e0)]) _
  have F_36 : Exa Z h_24 e0 "java/util/Base64$Encoder" := x_e.ext O_25.2
  refine k_callV hx (y := (⟨"java/util/Base64$Encoder", "withoutPadding", "()Ljava/util/Base64$Encoder;"⟩ : MethodName)) (z := (⟨"java/util/Base64$Encoder", "withoutPadding", "()Ljava/util/Base64$Encoder;"⟩ : MethodName)) (wT 36 rfl) (wT 37 rfl) (fun s' hZ => notFace_of_selects (args := #[]) (mv hZ (wT 39 rfl))) (wT 39 rfl) (wT 38 rfl) (by decide) (W := 0) (a := e0) (argsL := []) (rest := []) (Pays.of_met (rm_wop l Z a0 G1 G3 e0 tb kt hX hY n0 h_24 O_25   []) (wT 40 rfl) (wT 35 rfl) (by decide) (by decide)) F_36 rfl (by rw [hml]; rfl) (lenOf pd__28__29_Ljava_2f_util_2f_Base64_24_Encoder_3b_ rfl) rfl (by show 2 * 0 + _ ≤ _; exact Nat.le_of_eq rfl) (hb hby d530) (by decide) (by decide) ?_
  intro v_37 h_38 bk_39 O_40 z_41 Q_42
  obtain ⟨a_43, rfl, rfl, K_44, F_45, F_46, F_47, F_48, F_49, P_50⟩ := Q_42
  have lt_51 : @LT.lt Nat _ a_43 (Array.size h_38) := F_45.lt
  have lt_52 : @LT.lt Nat _ a_43 (Array.size h_38) := F_46.lt
  have lt_53 : @LT.lt Nat _ a_43 (Array.size h_38) := F_47.lt
  have lt_54 : @LT.lt Nat _ a_43 (Array.size h_38) := F_48.lt
  have lt_55 : @LT.lt Nat _ a_43 (Array.size h_38) := F_49.lt
  refine k_pure (g' := (mkF m 36 #[.val (.ref x), .val (.ref a_4)] [(.ref a_4), (.ref a_43)])) (fun _ J _ j => XS.aloadN J hx rfl (hb hby d531) rfl rfl j) ?_
  have F_56 : Arv Z h_38 a_4 k_6 .byte (4 : Int32) [(.int (1 : Int32)), (.int (za.toInt8.toInt32)), (.int (zb.toInt8.toInt32)), (.int (zc.toInt8.toInt32))] (.int (0 : Int32)) := (V_29.keep K_44 nin0)
  refine k_callV hx (y := (⟨"java/util/Base64$Encoder", "encodeToString", "([B)Ljava/lang/String;"⟩ : MethodName)) (z := (⟨"java/util/Base64$Encoder", "encodeToString", "([B)Ljava/lang/String;"⟩ : MethodName)) (wT 56 rfl) (wT 57 rfl) (fun s' hZ => notFace_of_selects (args := #[]) (mv hZ (wT 59 rfl))) (wT 59 rfl) (wT 58 rfl) (by decide) (W := 0) (a := a_43) (argsL := [(.ref a_4)]) (rest := []) (Pays.of_met (rm_ets3 l Z a0 G1 G3 e0 tb kt hX hY n0 h_38 O_40 a_43 a_4 k_6 za zb zc F_45 F_46 F_47 F_48 F_49 F_56 b_za b_zb b_zc []) (wT 60 rfl) (wT 35 rfl) (by decide) (by decide)) F_45 rfl (by rw [hml]; rfl) (lenOf pd__28__5b_B_29_Ljava_2f_lang_2f_String_3b_ rfl) rfl (by show 2 * 0 + _ ≤ _; exact Nat.le_of_eq rfl) (hb hby d532) (by decide) (by decide) ?_
  intro v_57 h_58 bk_59 O_60 z_61 Q_62
  obtain ⟨a_63, a_64, k_65, rfl, rfl, K_66, F_67⟩ := Q_62
  have lt_68 : @LT.lt Nat _ a_63 (Array.size h_58) := F_67.lt1
  have lt_69 : @LT.lt Nat _ a_64 (Array.size h_58) := F_67.lt2
  show Run p l e _ s m _ below meth c Z EL1 _ n0 NoB h_58 5 24 (mkF m 39 #[.val (.ref x), .val (.ref a_4)] [(.ref a_63)]) _
  exact k_retA hx hlk hret rfl rfl rfl (hb hby d533) (by decide) (by decide) ⟨a_63, a_64, k_65, rfl, rfl, ((((((Keep.refl _ _).ext E_9).wr W_17 (Or.inr (by omega))).trans K_26 (kkS (Or.inr (by omega)) kk0)).trans K_44 kk0).trans K_66 kk0), F_67⟩
def Q_law (Z : State) (G1 : Int32) (G3 : Value) (e0 tb : Addr) (kt : ClassId) (sl : Int32) (xa : Int32) (xb : Int32) (xc : Int32) (h0 : Heap) (n0 : Nat) (bk : Addr → Prop) (v : Option Value) (h : Heap) (bk' : Addr → Prop) : Prop := v = some (.int (1 : Int32)) ∧ NoB = bk' ∧ Keep h0 h []
theorem pd__28__5b_B_29_V : parseMethodDescriptor "([B)V" = some ⟨[(.array .byte)], none⟩ := by decide +kernel
theorem pd__28__29_Ljava_2f_lang_2f_String_3b_ : parseMethodDescriptor "()Ljava/lang/String;" = some ⟨[], some (.object "java/lang/String")⟩ := by decide +kernel
theorem pd__28_I_29_C : parseMethodDescriptor "(I)C" = some ⟨[.int], some .char⟩ := by decide +kernel
theorem pd__28__29_I : parseMethodDescriptor "()I" = some ⟨[], some .int⟩ := by decide +kernel
theorem ef_law (m : MethodId) (x0 : Int32) (x1 : Int32) (x2 : Int32) (x3 : Int32) : entryFrame m #[(.int x0), (.int x1), (.int x2), (.int x3)] maxLocals = mkF m 0 #[.val (.int x0), .val (.int x1), .val (.int x2), .val (.int x3), .unset, .unset, .unset, .unset, .unset, .unset, .unset, .unset, .unset, .unset, .unset, .unset, .unset, .unset, .unset] [] := by first | (simp [entryFrame, mkF, argsToLocals, Value.category, maxLocals]; done) | rfl
set_option maxRecDepth 65536 in
set_option maxHeartbeats 40000000 in
theorem rm_law (l : Launch) (Z : State) (a0 : Array Value) (G1 : Int32) (G3 : Value) (e0 tb : Addr) (kt : ClassId) (hX : Ctx Z a0 G1 G3) (hY : More Z e0 tb kt) (n0 : Nat) (h0 : Heap) (O0 : Old Z n0 h0) (sl : Int32) (xa : Int32) (xb : Int32) (xc : Int32)  (ws : List Jvm.Cond) : Met l Z EL1 n0 NoB Jvm.Pilot.@@N@@.x code maxLocals ret room_1 #[(.int sl), (.int xa), (.int xb), (.int xc)] h0 (Q_law Z G1 G3 e0 tb kt sl xa xb xc h0 n0 NoB) ws := by
  have hX' := hX
  obtain ⟨hw, hE, S1, P1, S3, P3⟩ := hX'
  have hY' := hY
  obtain ⟨s_e, x_e, f_u, f_n, f_l, f_p, s_t, a_t⟩ := hY'
  have wT : ∀ (i : Nat) {d : Jvm.Cond}, tables_1[i]? = some d → d.before a0 Z = true := fun i d h => hw d (List.mem_of_getElem? h)
  have z0 : n0 ≤ h0.size := by rw [← O0.1]; exact O0.2.1
  refine Met.of (by decide +kernel) O0 hE ?_
  intro p e s m below meth c hx hby hml hret hlk hnm
  refine k_cast (ef_law m sl xa xb xc) ?_
  refine k_pure (g' := (mkF m 5 #[.val (.int sl), .val (.int xa), .val (.int xb), .val (.int xc), .val (.int (sl &&& (3 : Int32))), .unset, .unset, .unset, .unset, .unset, .unset, .unset, .unset, .unset, .unset, .unset, .unset, .unset, .unset] [])) (fun TT HH tt kk => XS.iloadN HH hx rfl (hb hby at_0) rfl (XS.iconst HH hx rfl (hb hby at_1) (XS.iand HH hx rfl (hb hby at_2) rfl (XS.istore HH hx rfl (hb hby at_3) rfl (l' := #[.val (.int sl), .val (.int xa), .val (.int xb), .val (.int xc), .val (.int (sl &&& (3 : Int32))), .unset, .unset, .unset, .unset, .unset, .unset, .unset, .unset, .unset, .unset, .unset, .unset, .unset, .unset]) rfl kk)))) ?_
  refine k_pure (g' := (mkF m 12 #[.val (.int sl), .val (.int xa), .val (.int xb), .val (.int xc), .val (.int (sl &&& (3 : Int32))), .val (.int (xa &&& (255 : Int32))), .unset, .unset, .unset, .unset, .unset, .unset, .unset, .unset, .unset, .unset, .unset, .unset, .unset] [])) (fun TT HH tt kk => XS.iloadN HH hx rfl (hb hby at_5) rfl (XS.sipush HH hx rfl (hb hby at_6) (XS.iand HH hx rfl (hb hby at_9) rfl (XS.istore HH hx rfl (hb hby at_10) rfl (l' := #[.val (.int sl), .val (.int xa), .val (.int xb), .val (.int xc), .val (.int (sl &&& (3 : Int32))), .val (.int (xa &&& (255 : Int32))), .unset, .unset, .unset, .unset, .unset, .unset, .unset, .unset, .unset, .unset, .unset, .unset, .unset]) rfl kk)))) ?_
  refine k_pure (g' := (mkF m 19 #[.val (.int sl), .val (.int xa), .val (.int xb), .val (.int xc), .val (.int (sl &&& (3 : Int32))), .val (.int (xa &&& (255 : Int32))), .val (.int (xb &&& (255 : Int32))), .unset, .unset, .unset, .unset, .unset, .unset, .unset, .unset, .unset, .unset, .unset, .unset] [])) (fun TT HH tt kk => XS.iloadN HH hx rfl (hb hby at_12) rfl (XS.sipush HH hx rfl (hb hby at_13) (XS.iand HH hx rfl (hb hby at_16) rfl (XS.istore HH hx rfl (hb hby at_17) rfl (l' := #[.val (.int sl), .val (.int xa), .val (.int xb), .val (.int xc), .val (.int (sl &&& (3 : Int32))), .val (.int (xa &&& (255 : Int32))), .val (.int (xb &&& (255 : Int32))), .unset, .unset, .unset, .unset, .unset, .unset, .unset, .unset, .unset, .unset, .unset, .unset]) rfl kk)))) ?_
  refine k_pure (g' := (mkF m 26 #[.val (.int sl), .val (.int xa), .val (.int xb), .val (.int xc), .val (.int (sl &&& (3 : Int32))), .val (.int (xa &&& (255 : Int32))), .val (.int (xb &&& (255 : Int32))), .val (.int (xc &&& (255 : Int32))), .unset, .unset, .unset, .unset, .unset, .unset, .unset, .unset, .unset, .unset, .unset] [])) (fun TT HH tt kk => XS.iloadN HH hx rfl (hb hby at_19) rfl (XS.sipush HH hx rfl (hb hby at_20) (XS.iand HH hx rfl (hb hby at_23) rfl (XS.istore HH hx rfl (hb hby at_24) rfl (l' := #[.val (.int sl), .val (.int xa), .val (.int xb), .val (.int xc), .val (.int (sl &&& (3 : Int32))), .val (.int (xa &&& (255 : Int32))), .val (.int (xb &&& (255 : Int32))), .val (.int (xc &&& (255 : Int32))), .unset, .unset, .unset, .unset, .unset, .unset, .unset, .unset, .unset, .unset, .unset]) rfl kk)))) ?_
  have b_za : 0 ≤ ((xa &&& (255 : Int32))).toInt ∧ ((xa &&& (255 : Int32))).toInt ≤ 255 := (by have r0 := rng32 xa; have r1 : (xa &&& (255 : Int32)).toInt = xa.toInt % 256 := (c_mask xa (255 : Int32) 8 (by decide) (by decide)); have r2 := rng32 (xa &&& (255 : Int32)); omega)
  generalize (xa &&& (255 : Int32)) = za at b_za ⊢
  have b_zb : 0 ≤ ((xb &&& (255 : Int32))).toInt ∧ ((xb &&& (255 : Int32))).toInt ≤ 255 := (by have r0 := rng32 xb; have r1 : (xb &&& (255 : Int32)).toInt = xb.toInt % 256 := (c_mask xb (255 : Int32) 8 (by decide) (by decide)); have r2 := rng32 (xb &&& (255 : Int32)); omega)
  generalize (xb &&& (255 : Int32)) = zb at b_zb ⊢
  have b_zc : 0 ≤ ((xc &&& (255 : Int32))).toInt ∧ ((xc &&& (255 : Int32))).toInt ≤ 255 := (by have r0 := rng32 xc; have r1 : (xc &&& (255 : Int32)).toInt = xc.toInt % 256 := (c_mask xc (255 : Int32) 8 (by decide) (by decide)); have r2 := rng32 (xc &&& (255 : Int32)); omega)
  generalize (xc &&& (255 : Int32)) = zc at b_zc ⊢
  have hl : (sl &&& (3 : Int32)) = 0 ∨ (sl &&& (3 : Int32)) = 1 ∨ (sl &&& (3 : Int32)) = 2 ∨ (sl &&& (3 : Int32)) = 3 := (by have r0 := rng32 sl; have r1 : (sl &&& (3 : Int32)).toInt = sl.toInt % 4 := (c_mask sl (3 : Int32) 2 (by decide) (by decide)); have r2 := rng32 (sl &&& (3 : Int32)); exact four (by omega) (by omega))
  generalize (sl &&& (3 : Int32)) = ln at hl ⊢
  rcases hl with rfl | rfl | rfl | rfl
  · show Run p l e _ s m _ below meth c Z EL1 _ n0 NoB h0 0 0 (mkF m 26 #[.val (.int sl), .val (.int xa), .val (.int xb), .val (.int xc), .val (.int (0 : Int32)), .val (.int za), .val (.int zb), .val (.int zc), .unset, .unset, .unset, .unset, .unset, .unset, .unset, .unset, .unset, .unset, .unset] []) _
    refine k_pure (g' := (mkF m 32 #[.val (.int sl), .val (.int xa), .val (.int xb), .val (.int xc), .val (.int (0 : Int32)), .val (.int za), .val (.int zb), .val (.int zc), .unset, .unset, .unset, .unset, .unset, .unset, .unset, .unset, .unset, .unset, .unset] [(.int (0 : Int32))])) (fun TT HH tt kk => XS.iload HH hx rfl (hb hby at_26) rfl (XS.ifNo HH hx rfl (hb hby at_28) rfl ((if0 _ _).trans (teq (by decide : ((0 : Int32) = (0 : Int32)))).2) (XS.iconst HH hx rfl (hb hby at_31) kk))) ?_
    refine k_newP hx (wT 0 rfl) rfl (hb hby at_32) rfl (by decide) (cap := 0) (by decide) (by decide) (by decide) (by decide) "[B" (by decide +kernel) ?_
    intro h_2 a_1 k_3 g_4 O_5 E_6 A_7 X_8
    have z_9 := E_6.1
    have lt_10 : @LT.lt Nat _ a_1 (Array.size h_2) := A_7.lt
    have V_11 : Arv Z h_2 a_1 k_3 .byte (0 : Int32) [] (.int (0 : Int32)) := Arv.pad A_7 (pad_rep [] (.int (0 : Int32)) 0)
    refine k_pure (g' := (mkF m 108 #[.val (.int sl), .val (.int xa), .val (.int xb), .val (.int xc), .val (.int (0 : Int32)), .val (.int za), .val (.int zb), .val (.int zc), .val (.ref a_1), .unset, .unset, .unset, .unset, .unset, .unset, .unset, .unset, .unset, .unset] [])) (fun TT HH tt kk => XS.astore HH hx rfl (hb hby at_34) rfl rfl (l' := #[.val (.int sl), .val (.int xa), .val (.int xb), .val (.int xc), .val (.int (0 : Int32)), .val (.int za), .val (.int zb), .val (.int zc), .val (.ref a_1), .unset, .unset, .unset, .unset, .unset, .unset, .unset, .unset, .unset, .unset]) rfl (XS.goto HH hx rfl (pc0 := 36) (pc' := 108) rfl (hb hby at_36) (by decide) (by decide) kk)) ?_
    refine k_newO hx (wT 1 rfl) (wT 2 rfl) (wT 3 rfl) rfl (hb hby at_108) (by decide) (by decide) ?_
    intro h_13 a_12 g_19 O_14 E_15 A_16 D_17 U_18
    have z_20 := E_15.1
    have lt_21 : @LT.lt Nat _ a_12 (Array.size h_13) := A_16.lt
    refine k_pure (g' := (mkF m 114 #[.val (.int sl), .val (.int xa), .val (.int xb), .val (.int xc), .val (.int (0 : Int32)), .val (.int za), .val (.int zb), .val (.int zc), .val (.ref a_1), .unset, .unset, .unset, .unset, .unset, .unset, .unset, .unset, .unset, .unset] [(.ref a_1), (.ref a_12), (.ref a_12)])) (fun TT HH tt kk => XS.dup HH hx rfl (hb hby at_111) rfl rfl (XS.aload HH hx rfl (hb hby at_112) rfl rfl kk)) ?_
    have F_22 : Exa Z h_13 a_1 "[B" := (X_8.ext E_15)
    have F_23 : Arv Z h_13 a_1 k_3 .byte (0 : Int32) [] (.int (0 : Int32)) := (V_11.ext E_15)
    refine k_callI hx (y := (⟨"com/example/lean_entities/leanentities/session/Cursor", "<init>", "([B)V"⟩ : MethodName)) rfl (wT 4 rfl) (wT 5 rfl) (wT 6 rfl) (by decide) (W := 1) (a := a_12) (argsL := [(.ref a_1)]) (rest := [(.ref a_12)]) (Pays.of_met (rm_cin0 l Z a0 G1 G3 e0 tb kt hX hY n0 h_13 O_14 a_12 a_1 k_3 A_16 (D_17 (Or.inr (wT 20 rfl)) (ty := (.array .byte)) (by decide)) F_22 F_23 (by omega) []) (wT 6 rfl) (wT 3 rfl) (by decide) (by decide)) rfl (by rw [hml]; rfl) (lenOf pd__28__5b_B_29_V rfl) rfl (by show 2 * 0 + _ ≤ _; exact Nat.le_of_eq rfl) (hb hby at_114) (by decide) (by decide) ?_
    intro v_24 h_25 bk_26 O_27 z_28 Q_29
    obtain ⟨a_30, k_31, rfl, rfl, K_32, F_33, F_34, F_35, P_36⟩ := Q_29
    have lt_37 : @LT.lt Nat _ a_12 (Array.size h_25) := F_33.lt
    have lt_38 : @LT.lt Nat _ a_12 (Array.size h_25) := F_34.lt
    have lt_39 : @LT.lt Nat _ a_30 (Array.size h_25) := F_35.lt
    refine k_pure (g' := (mkF m 121 #[.val (.int sl), .val (.int xa), .val (.int xb), .val (.int xc), .val (.int (0 : Int32)), .val (.int za), .val (.int zb), .val (.int zc), .val (.ref a_1), .val (.ref a_12), .unset, .unset, .unset, .unset, .unset, .unset, .unset, .unset, .unset] [(.ref a_12)])) (fun TT HH tt kk => XS.astore HH hx rfl (hb hby at_117) rfl rfl (l' := #[.val (.int sl), .val (.int xa), .val (.int xb), .val (.int xc), .val (.int (0 : Int32)), .val (.int za), .val (.int zb), .val (.int zc), .val (.ref a_1), .val (.ref a_12), .unset, .unset, .unset, .unset, .unset, .unset, .unset, .unset, .unset]) rfl (XS.aload HH hx rfl (hb hby at_119) rfl rfl kk)) ?_
    refine k_callV hx (y := (⟨"com/example/lean_entities/leanentities/session/Cursor", "toWebSafeString", "()Ljava/lang/String;"⟩ : MethodName)) (z := (⟨"com/example/lean_entities/leanentities/session/Cursor", "toWebSafeString", "()Ljava/lang/String;"⟩ : MethodName)) (wT 21 rfl) (wT 22 rfl) (fun s' hZ => notFace_of_selects (args := #[]) (mv hZ (wT 24 rfl))) (wT 24 rfl) (wT 23 rfl) (by decide) (W := 0) (a := a_12) (argsL := []) (rest := []) (Pays.of_met (rm_tow0 l Z a0 G1 G3 e0 tb kt hX hY n0 h_25 O_27 a_12 a_30 k_31 F_33 F_34 F_35 []) (wT 25 rfl) (wT 3 rfl) (by decide) (by decide)) F_33 rfl (by rw [hml]; rfl) (lenOf pd__28__29_Ljava_2f_lang_2f_String_3b_ rfl) rfl (by show 2 * 0 + _ ≤ _; exact Nat.le_of_eq rfl) (hb hby at_121) (by decide) (by decide) ?_
    intro v_40 h_41 bk_42 O_43 z_44 Q_45
    obtain ⟨a_46, a_47, k_48, rfl, rfl, K_49, F_50⟩ := Q_45
    have lt_51 : @LT.lt Nat _ a_46 (Array.size h_41) := F_50.lt1
    have lt_52 : @LT.lt Nat _ a_47 (Array.size h_41) := F_50.lt2
    refine k_pure (g' := (mkF m 132 #[.val (.int sl), .val (.int xa), .val (.int xb), .val (.int xc), .val (.int (0 : Int32)), .val (.int za), .val (.int zb), .val (.int zc), .val (.ref a_1), .val (.ref a_12), .val (.ref a_46), .unset, .unset, .unset, .unset, .unset, .unset, .unset, .unset] [(.int (2 : Int32))])) (fun TT HH tt kk => XS.astore HH hx rfl (hb hby at_124) rfl rfl (l' := #[.val (.int sl), .val (.int xa), .val (.int xb), .val (.int xc), .val (.int (0 : Int32)), .val (.int za), .val (.int zb), .val (.int zc), .val (.ref a_1), .val (.ref a_12), .val (.ref a_46), .unset, .unset, .unset, .unset, .unset, .unset, .unset, .unset]) rfl (XS.iload HH hx rfl (hb hby at_126) rfl (XS.ifNo HH hx rfl (hb hby at_128) rfl ((if0 _ _).trans (teq (by decide : ((0 : Int32) = (0 : Int32)))).2) (XS.iconst HH hx rfl (hb hby at_131) kk)))) ?_
    refine k_pure (g' := (mkF m 166 #[.val (.int sl), .val (.int xa), .val (.int xb), .val (.int xc), .val (.int (0 : Int32)), .val (.int za), .val (.int zb), .val (.int zc), .val (.ref a_1), .val (.ref a_12), .val (.ref a_46), .val (.int (2 : Int32)), .unset, .unset, .unset, .unset, .unset, .unset, .unset] [(.int (0 : Int32))])) (fun TT HH tt kk => XS.istore HH hx rfl (hb hby at_132) rfl (l' := #[.val (.int sl), .val (.int xa), .val (.int xb), .val (.int xc), .val (.int (0 : Int32)), .val (.int za), .val (.int zb), .val (.int zc), .val (.ref a_1), .val (.ref a_12), .val (.ref a_46), .val (.int (2 : Int32)), .unset, .unset, .unset, .unset, .unset, .unset, .unset]) rfl (XS.goto HH hx rfl (pc0 := 134) (pc' := 165) rfl (hb hby at_134) (by decide) (by decide) (XS.iconst HH hx rfl (hb hby at_165) kk))) ?_
    refine k_callS hx (y := (⟨"com/example/lean_entities/leanentities/session/CursorToWebSafeStringPinLaw", "enc", "(I)C"⟩ : MethodName)) (wT 111 rfl) (wT 112 rfl) (wT 113 rfl) (wT 114 rfl) (by decide) (W := 0) (argsL := [(.int (0 : Int32))]) (rest := []) (Pays.of_met (rm_enc l Z a0 G1 G3 e0 tb kt hX hY n0 h_41 O_43 (0 : Int32) (by decide) []) (wT 114 rfl) (wT 113 rfl) (by decide) (by decide)) rfl (by rw [hml]; rfl) (lenOf pd__28_I_29_C rfl) rfl (by show 2 * 0 + _ ≤ _; exact Nat.le_of_eq rfl) (hb hby at_166) (by decide) (by decide) ?_
    intro v_53 h_54 bk_55 O_56 z_57 Q_58
    obtain ⟨rfl, rfl, rfl⟩ := Q_58
    refine k_pure (g' := (mkF m 176 #[.val (.int sl), .val (.int xa), .val (.int xb), .val (.int xc), .val (.int (0 : Int32)), .val (.int za), .val (.int zb), .val (.int zc), .val (.ref a_1), .val (.ref a_12), .val (.ref a_46), .val (.int (2 : Int32)), .val (.int (en (0 : Int32))), .unset, .unset, .unset, .unset, .unset, .unset] [(.int (1 : Int32)), (.int (0 : Int32)), (.int (16 : Int32))])) (fun TT HH tt kk => XS.istore HH hx rfl (hb hby at_169) rfl (l' := #[.val (.int sl), .val (.int xa), .val (.int xb), .val (.int xc), .val (.int (0 : Int32)), .val (.int za), .val (.int zb), .val (.int zc), .val (.ref a_1), .val (.ref a_12), .val (.ref a_46), .val (.int (2 : Int32)), .val (.int (en (0 : Int32))), .unset, .unset, .unset, .unset, .unset, .unset]) rfl (XS.bipush HH hx rfl (hb hby at_171) (XS.iload HH hx rfl (hb hby at_173) rfl (XS.iconst HH hx rfl (hb hby at_175) kk)))) ?_
    refine k_pure (g' := (mkF m 188 #[.val (.int sl), .val (.int xa), .val (.int xb), .val (.int xc), .val (.int (0 : Int32)), .val (.int za), .val (.int zb), .val (.int zc), .val (.ref a_1), .val (.ref a_12), .val (.ref a_46), .val (.int (2 : Int32)), .val (.int (en (0 : Int32))), .unset, .unset, .unset, .unset, .unset, .unset] [(.int (16 : Int32))])) (fun TT HH tt kk => XS.icmpYes HH hx rfl (pc0 := 176) (pc' := 186) rfl (hb hby at_176) rfl (tlt (by decide : ((0 : Int32) < (1 : Int32)))).1 (by decide) (by decide) (XS.iconst HH hx rfl (hb hby at_186) (XS.ior HH hx rfl (hb hby at_187) rfl kk))) ?_
    refine k_callS hx (y := (⟨"com/example/lean_entities/leanentities/session/CursorToWebSafeStringPinLaw", "enc", "(I)C"⟩ : MethodName)) (wT 111 rfl) (wT 112 rfl) (wT 113 rfl) (wT 114 rfl) (by decide) (W := 0) (argsL := [(.int (16 : Int32))]) (rest := []) (Pays.of_met (rm_enc l Z a0 G1 G3 e0 tb kt hX hY n0 h_41 O_43 (16 : Int32) (by decide) []) (wT 114 rfl) (wT 113 rfl) (by decide) (by decide)) rfl (by rw [hml]; rfl) (lenOf pd__28_I_29_C rfl) rfl (by show 2 * 0 + _ ≤ _; exact Nat.le_of_eq rfl) (hb hby at_188) (by decide) (by decide) ?_
    intro v_59 h_60 bk_61 O_62 z_63 Q_64
    obtain ⟨rfl, rfl, rfl⟩ := Q_64
    refine k_pure (g' := (mkF m 198 #[.val (.int sl), .val (.int xa), .val (.int xb), .val (.int xc), .val (.int (0 : Int32)), .val (.int za), .val (.int zb), .val (.int zc), .val (.ref a_1), .val (.ref a_12), .val (.ref a_46), .val (.int (2 : Int32)), .val (.int (en (0 : Int32))), .val (.int (en (16 : Int32))), .unset, .unset, .unset, .unset, .unset] [(.int (za &&& (15 : Int32)))])) (fun TT HH tt kk => XS.istore HH hx rfl (hb hby at_191) rfl (l' := #[.val (.int sl), .val (.int xa), .val (.int xb), .val (.int xc), .val (.int (0 : Int32)), .val (.int za), .val (.int zb), .val (.int zc), .val (.ref a_1), .val (.ref a_12), .val (.ref a_46), .val (.int (2 : Int32)), .val (.int (en (0 : Int32))), .val (.int (en (16 : Int32))), .unset, .unset, .unset, .unset, .unset]) rfl (XS.iload HH hx rfl (hb hby at_193) rfl (XS.bipush HH hx rfl (hb hby at_195) (XS.iand HH hx rfl (hb hby at_197) rfl kk)))) ?_
    refine k_pure (g' := (mkF m 203 #[.val (.int sl), .val (.int xa), .val (.int xb), .val (.int xc), .val (.int (0 : Int32)), .val (.int za), .val (.int zb), .val (.int zc), .val (.ref a_1), .val (.ref a_12), .val (.ref a_46), .val (.int (2 : Int32)), .val (.int (en (0 : Int32))), .val (.int (en (16 : Int32))), .unset, .unset, .unset, .unset, .unset] [(.int (2 : Int32)), (.int (0 : Int32)), (.int ((za &&& (15 : Int32)) <<< ((2 : Int32) &&& 31)))])) (fun TT HH tt kk => XS.iconst HH hx rfl (hb hby at_198) (XS.ishl HH hx rfl (hb hby at_199) rfl (XS.iload HH hx rfl (hb hby at_200) rfl (XS.iconst HH hx rfl (hb hby at_202) kk)))) ?_
    refine k_pure (g' := (mkF m 216 #[.val (.int sl), .val (.int xa), .val (.int xb), .val (.int xc), .val (.int (0 : Int32)), .val (.int za), .val (.int zb), .val (.int zc), .val (.ref a_1), .val (.ref a_12), .val (.ref a_46), .val (.int (2 : Int32)), .val (.int (en (0 : Int32))), .val (.int (en (16 : Int32))), .unset, .unset, .unset, .unset, .unset] [(.int (((za &&& (15 : Int32)) <<< ((2 : Int32) &&& 31)) ||| (0 : Int32)))])) (fun TT HH tt kk => XS.icmpYes HH hx rfl (pc0 := 203) (pc' := 214) rfl (hb hby at_203) rfl (tlt (by decide : ((0 : Int32) < (2 : Int32)))).1 (by decide) (by decide) (XS.iconst HH hx rfl (hb hby at_214) (XS.ior HH hx rfl (hb hby at_215) rfl kk))) ?_
    refine k_callS hx (y := (⟨"com/example/lean_entities/leanentities/session/CursorToWebSafeStringPinLaw", "enc", "(I)C"⟩ : MethodName)) (wT 111 rfl) (wT 112 rfl) (wT 113 rfl) (wT 114 rfl) (by decide) (W := 0) (argsL := [(.int (((za &&& (15 : Int32)) <<< ((2 : Int32) &&& 31)) ||| (0 : Int32)))]) (rest := []) (Pays.of_met (rm_enc l Z a0 G1 G3 e0 tb kt hX hY n0 h_41 O_43 (((za &&& (15 : Int32)) <<< ((2 : Int32) &&& 31)) ||| (0 : Int32)) (by have r0 := rng32 za; have r1 : (za &&& (15 : Int32)).toInt = za.toInt % 16 := (c_mask za (15 : Int32) 4 (by decide) (by decide)); have r2 := rng32 (za &&& (15 : Int32)); have r3 : (((za &&& (15 : Int32)) <<< ((2 : Int32) &&& 31)).toInt - (za &&& (15 : Int32)).toInt * 4) % 4294967296 = 0 := (c_ishl (za &&& (15 : Int32)) (2 : Int32) 2 (by decide)); have r4 := rng32 ((za &&& (15 : Int32)) <<< ((2 : Int32) &&& 31)); have r5 : (0 : Int32).toInt = 0 := (by decide); have r6 := rng32 (((za &&& (15 : Int32)) <<< ((2 : Int32) &&& 31)) ||| (0 : Int32)); have r7 := t2z b_za; have r8 := b_za; have r9 := b_zb; omega) []) (wT 114 rfl) (wT 113 rfl) (by decide) (by decide)) rfl (by rw [hml]; rfl) (lenOf pd__28_I_29_C rfl) rfl (by show 2 * 0 + _ ≤ _; exact Nat.le_of_eq rfl) (hb hby at_216) (by decide) (by decide) ?_
    intro v_65 h_66 bk_67 O_68 z_69 Q_70
    obtain ⟨rfl, rfl, rfl⟩ := Q_70
    refine k_pure (g' := (mkF m 226 #[.val (.int sl), .val (.int xa), .val (.int xb), .val (.int xc), .val (.int (0 : Int32)), .val (.int za), .val (.int zb), .val (.int zc), .val (.ref a_1), .val (.ref a_12), .val (.ref a_46), .val (.int (2 : Int32)), .val (.int (en (0 : Int32))), .val (.int (en (16 : Int32))), .val (.int (en (((za &&& (15 : Int32)) <<< ((2 : Int32) &&& 31)) ||| (0 : Int32)))), .unset, .unset, .unset, .unset] [(.int (zb &&& (63 : Int32)))])) (fun TT HH tt kk => XS.istore HH hx rfl (hb hby at_219) rfl (l' := #[.val (.int sl), .val (.int xa), .val (.int xb), .val (.int xc), .val (.int (0 : Int32)), .val (.int za), .val (.int zb), .val (.int zc), .val (.ref a_1), .val (.ref a_12), .val (.ref a_46), .val (.int (2 : Int32)), .val (.int (en (0 : Int32))), .val (.int (en (16 : Int32))), .val (.int (en (((za &&& (15 : Int32)) <<< ((2 : Int32) &&& 31)) ||| (0 : Int32)))), .unset, .unset, .unset, .unset]) rfl (XS.iload HH hx rfl (hb hby at_221) rfl (XS.bipush HH hx rfl (hb hby at_223) (XS.iand HH hx rfl (hb hby at_225) rfl kk)))) ?_
    refine k_callS hx (y := (⟨"com/example/lean_entities/leanentities/session/CursorToWebSafeStringPinLaw", "enc", "(I)C"⟩ : MethodName)) (wT 111 rfl) (wT 112 rfl) (wT 113 rfl) (wT 114 rfl) (by decide) (W := 0) (argsL := [(.int (zb &&& (63 : Int32)))]) (rest := []) (Pays.of_met (rm_enc l Z a0 G1 G3 e0 tb kt hX hY n0 h_41 O_43 (zb &&& (63 : Int32)) (by have r0 := rng32 zb; have r1 : (zb &&& (63 : Int32)).toInt = zb.toInt % 64 := (c_mask zb (63 : Int32) 6 (by decide) (by decide)); have r2 := rng32 (zb &&& (63 : Int32)); have r3 := b_zb; omega) []) (wT 114 rfl) (wT 113 rfl) (by decide) (by decide)) rfl (by rw [hml]; rfl) (lenOf pd__28_I_29_C rfl) rfl (by show 2 * 0 + _ ≤ _; exact Nat.le_of_eq rfl) (hb hby at_226) (by decide) (by decide) ?_
    intro v_71 h_72 bk_73 O_74 z_75 Q_76
    obtain ⟨rfl, rfl, rfl⟩ := Q_76
    refine k_pure (g' := (mkF m 235 #[.val (.int sl), .val (.int xa), .val (.int xb), .val (.int xc), .val (.int (0 : Int32)), .val (.int za), .val (.int zb), .val (.int zc), .val (.ref a_1), .val (.ref a_12), .val (.ref a_46), .val (.int (2 : Int32)), .val (.int (en (0 : Int32))), .val (.int (en (16 : Int32))), .val (.int (en (((za &&& (15 : Int32)) <<< ((2 : Int32) &&& 31)) ||| (0 : Int32)))), .val (.int (en (zb &&& (63 : Int32)))), .unset, .unset, .unset] [(.int (zc >>> ((2 : Int32) &&& 31)))])) (fun TT HH tt kk => XS.istore HH hx rfl (hb hby at_229) rfl (l' := #[.val (.int sl), .val (.int xa), .val (.int xb), .val (.int xc), .val (.int (0 : Int32)), .val (.int za), .val (.int zb), .val (.int zc), .val (.ref a_1), .val (.ref a_12), .val (.ref a_46), .val (.int (2 : Int32)), .val (.int (en (0 : Int32))), .val (.int (en (16 : Int32))), .val (.int (en (((za &&& (15 : Int32)) <<< ((2 : Int32) &&& 31)) ||| (0 : Int32)))), .val (.int (en (zb &&& (63 : Int32)))), .unset, .unset, .unset]) rfl (XS.iload HH hx rfl (hb hby at_231) rfl (XS.iconst HH hx rfl (hb hby at_233) (XS.ishr HH hx rfl (hb hby at_234) rfl kk)))) ?_
    refine k_callS hx (y := (⟨"com/example/lean_entities/leanentities/session/CursorToWebSafeStringPinLaw", "enc", "(I)C"⟩ : MethodName)) (wT 111 rfl) (wT 112 rfl) (wT 113 rfl) (wT 114 rfl) (by decide) (W := 0) (argsL := [(.int (zc >>> ((2 : Int32) &&& 31)))]) (rest := []) (Pays.of_met (rm_enc l Z a0 G1 G3 e0 tb kt hX hY n0 h_41 O_43 (zc >>> ((2 : Int32) &&& 31)) (by have r0 := rng32 zc; have r1 : (zc >>> ((2 : Int32) &&& 31)).toInt = zc.toInt / 4 := (c_ishr zc (2 : Int32) 2 (by decide)); have r2 := rng32 (zc >>> ((2 : Int32) &&& 31)); have r3 := b_zc; omega) []) (wT 114 rfl) (wT 113 rfl) (by decide) (by decide)) rfl (by rw [hml]; rfl) (lenOf pd__28_I_29_C rfl) rfl (by show 2 * 0 + _ ≤ _; exact Nat.le_of_eq rfl) (hb hby at_235) (by decide) (by decide) ?_
    intro v_77 h_78 bk_79 O_80 z_81 Q_82
    obtain ⟨rfl, rfl, rfl⟩ := Q_82
    refine k_pure (g' := (mkF m 244 #[.val (.int sl), .val (.int xa), .val (.int xb), .val (.int xc), .val (.int (0 : Int32)), .val (.int za), .val (.int zb), .val (.int zc), .val (.ref a_1), .val (.ref a_12), .val (.ref a_46), .val (.int (2 : Int32)), .val (.int (en (0 : Int32))), .val (.int (en (16 : Int32))), .val (.int (en (((za &&& (15 : Int32)) <<< ((2 : Int32) &&& 31)) ||| (0 : Int32)))), .val (.int (en (zb &&& (63 : Int32)))), .val (.int (en (zc >>> ((2 : Int32) &&& 31)))), .unset, .unset] [(.int (zc &&& (3 : Int32)))])) (fun TT HH tt kk => XS.istore HH hx rfl (hb hby at_238) rfl (l' := #[.val (.int sl), .val (.int xa), .val (.int xb), .val (.int xc), .val (.int (0 : Int32)), .val (.int za), .val (.int zb), .val (.int zc), .val (.ref a_1), .val (.ref a_12), .val (.ref a_46), .val (.int (2 : Int32)), .val (.int (en (0 : Int32))), .val (.int (en (16 : Int32))), .val (.int (en (((za &&& (15 : Int32)) <<< ((2 : Int32) &&& 31)) ||| (0 : Int32)))), .val (.int (en (zb &&& (63 : Int32)))), .val (.int (en (zc >>> ((2 : Int32) &&& 31)))), .unset, .unset]) rfl (XS.iload HH hx rfl (hb hby at_240) rfl (XS.iconst HH hx rfl (hb hby at_242) (XS.iand HH hx rfl (hb hby at_243) rfl kk)))) ?_
    refine k_pure (g' := (mkF m 246 #[.val (.int sl), .val (.int xa), .val (.int xb), .val (.int xc), .val (.int (0 : Int32)), .val (.int za), .val (.int zb), .val (.int zc), .val (.ref a_1), .val (.ref a_12), .val (.ref a_46), .val (.int (2 : Int32)), .val (.int (en (0 : Int32))), .val (.int (en (16 : Int32))), .val (.int (en (((za &&& (15 : Int32)) <<< ((2 : Int32) &&& 31)) ||| (0 : Int32)))), .val (.int (en (zb &&& (63 : Int32)))), .val (.int (en (zc >>> ((2 : Int32) &&& 31)))), .unset, .unset] [(.int ((zc &&& (3 : Int32)) <<< ((4 : Int32) &&& 31)))])) (fun TT HH tt kk => XS.iconst HH hx rfl (hb hby at_244) (XS.ishl HH hx rfl (hb hby at_245) rfl kk)) ?_
    refine k_callS hx (y := (⟨"com/example/lean_entities/leanentities/session/CursorToWebSafeStringPinLaw", "enc", "(I)C"⟩ : MethodName)) (wT 111 rfl) (wT 112 rfl) (wT 113 rfl) (wT 114 rfl) (by decide) (W := 0) (argsL := [(.int ((zc &&& (3 : Int32)) <<< ((4 : Int32) &&& 31)))]) (rest := []) (Pays.of_met (rm_enc l Z a0 G1 G3 e0 tb kt hX hY n0 h_41 O_43 ((zc &&& (3 : Int32)) <<< ((4 : Int32) &&& 31)) (by have r0 := rng32 zc; have r1 : (zc &&& (3 : Int32)).toInt = zc.toInt % 4 := (c_mask zc (3 : Int32) 2 (by decide) (by decide)); have r2 := rng32 (zc &&& (3 : Int32)); have r3 : (((zc &&& (3 : Int32)) <<< ((4 : Int32) &&& 31)).toInt - (zc &&& (3 : Int32)).toInt * 16) % 4294967296 = 0 := (c_ishl (zc &&& (3 : Int32)) (4 : Int32) 4 (by decide)); have r4 := rng32 ((zc &&& (3 : Int32)) <<< ((4 : Int32) &&& 31)); have r5 := t5 b_zc; have r6 := b_zc; omega) []) (wT 114 rfl) (wT 113 rfl) (by decide) (by decide)) rfl (by rw [hml]; rfl) (lenOf pd__28_I_29_C rfl) rfl (by show 2 * 0 + _ ≤ _; exact Nat.le_of_eq rfl) (hb hby at_246) (by decide) (by decide) ?_
    intro v_83 h_84 bk_85 O_86 z_87 Q_88
    obtain ⟨rfl, rfl, rfl⟩ := Q_88
    refine k_pure (g' := (mkF m 253 #[.val (.int sl), .val (.int xa), .val (.int xb), .val (.int xc), .val (.int (0 : Int32)), .val (.int za), .val (.int zb), .val (.int zc), .val (.ref a_1), .val (.ref a_12), .val (.ref a_46), .val (.int (2 : Int32)), .val (.int (en (0 : Int32))), .val (.int (en (16 : Int32))), .val (.int (en (((za &&& (15 : Int32)) <<< ((2 : Int32) &&& 31)) ||| (0 : Int32)))), .val (.int (en (zb &&& (63 : Int32)))), .val (.int (en (zc >>> ((2 : Int32) &&& 31)))), .val (.int (en ((zc &&& (3 : Int32)) <<< ((4 : Int32) &&& 31)))), .unset] [(.ref a_46)])) (fun TT HH tt kk => XS.istore HH hx rfl (hb hby at_249) rfl (l' := #[.val (.int sl), .val (.int xa), .val (.int xb), .val (.int xc), .val (.int (0 : Int32)), .val (.int za), .val (.int zb), .val (.int zc), .val (.ref a_1), .val (.ref a_12), .val (.ref a_46), .val (.int (2 : Int32)), .val (.int (en (0 : Int32))), .val (.int (en (16 : Int32))), .val (.int (en (((za &&& (15 : Int32)) <<< ((2 : Int32) &&& 31)) ||| (0 : Int32)))), .val (.int (en (zb &&& (63 : Int32)))), .val (.int (en (zc >>> ((2 : Int32) &&& 31)))), .val (.int (en ((zc &&& (3 : Int32)) <<< ((4 : Int32) &&& 31)))), .unset]) rfl (XS.aload HH hx rfl (hb hby at_251) rfl rfl kk)) ?_
    refine k_callV hx (y := (⟨"java/lang/String", "length", "()I"⟩ : MethodName)) (z := (⟨"java/lang/String", "length", "()I"⟩ : MethodName)) (wT 115 rfl) (wT 116 rfl) (fun s' hZ => notFace_of_selects (args := #[]) (mv hZ (wT 118 rfl))) (wT 118 rfl) (wT 117 rfl) (by decide) (W := 0) (a := a_46) (argsL := []) (rest := []) (Pays.of_met (rm_sle l Z a0 G1 G3 e0 tb kt hX hY n0 h_41 O_43 a_46 a_47 k_48 [en (0 : Int32), en (16 : Int32)] F_50 []) (wT 119 rfl) (wT 86 rfl) (by decide) (by decide)) F_50.1 rfl (by rw [hml]; rfl) (lenOf pd__28__29_I rfl) rfl (by show 2 * 0 + _ ≤ _; exact Nat.le_of_eq rfl) (hb hby at_253) (by decide) (by decide) ?_
    intro v_89 h_90 bk_91 O_92 z_93 Q_94
    obtain ⟨rfl, rfl, rfl⟩ := Q_94
    refine k_pure (g' := (mkF m 266 #[.val (.int sl), .val (.int xa), .val (.int xb), .val (.int xc), .val (.int (0 : Int32)), .val (.int za), .val (.int zb), .val (.int zc), .val (.ref a_1), .val (.ref a_12), .val (.ref a_46), .val (.int (2 : Int32)), .val (.int (en (0 : Int32))), .val (.int (en (16 : Int32))), .val (.int (en (((za &&& (15 : Int32)) <<< ((2 : Int32) &&& 31)) ||| (0 : Int32)))), .val (.int (en (zb &&& (63 : Int32)))), .val (.int (en (zc >>> ((2 : Int32) &&& 31)))), .val (.int (en ((zc &&& (3 : Int32)) <<< ((4 : Int32) &&& 31)))), .unset] [(.int (0 : Int32)), (.ref a_46)])) (fun TT HH tt kk => XS.iload HH hx rfl (hb hby at_256) rfl (XS.icmpYes HH hx rfl (pc0 := 258) (pc' := 263) rfl (hb hby at_258) rfl (teq rfl).1 (by decide) (by decide) (XS.aload HH hx rfl (hb hby at_263) rfl rfl (XS.iconst HH hx rfl (hb hby at_265) kk)))) ?_
    refine k_callV hx (y := (⟨"java/lang/String", "charAt", "(I)C"⟩ : MethodName)) (z := (⟨"java/lang/String", "charAt", "(I)C"⟩ : MethodName)) (wT 125 rfl) (wT 126 rfl) (fun s' hZ => notFace_of_selects (args := #[]) (mv hZ (wT 128 rfl))) (wT 128 rfl) (wT 127 rfl) (by decide) (W := 0) (a := a_46) (argsL := [(.int (0 : Int32))]) (rest := []) (Pays.of_met (rm_chL l Z a0 G1 G3 e0 tb kt hX hY n0 h_41 O_43 a_46 a_47 k_48 [en (0 : Int32), en (16 : Int32)] 0 F_50 (by simp) []) (wT 129 rfl) (wT 86 rfl) (by decide) (by decide)) F_50.1 rfl (by rw [hml]; rfl) (lenOf pd__28_I_29_C rfl) rfl (by show 2 * 0 + _ ≤ _; exact Nat.le_of_eq rfl) (hb hby at_266) (by decide) (by decide) ?_
    intro v_95 h_96 bk_97 O_98 z_99 Q_100
    obtain ⟨rfl, rfl, rfl⟩ := Q_100
    refine k_pure (g' := (mkF m 277 #[.val (.int sl), .val (.int xa), .val (.int xb), .val (.int xc), .val (.int (0 : Int32)), .val (.int za), .val (.int zb), .val (.int zc), .val (.ref a_1), .val (.ref a_12), .val (.ref a_46), .val (.int (2 : Int32)), .val (.int (en (0 : Int32))), .val (.int (en (16 : Int32))), .val (.int (en (((za &&& (15 : Int32)) <<< ((2 : Int32) &&& 31)) ||| (0 : Int32)))), .val (.int (en (zb &&& (63 : Int32)))), .val (.int (en (zc >>> ((2 : Int32) &&& 31)))), .val (.int (en ((zc &&& (3 : Int32)) <<< ((4 : Int32) &&& 31)))), .unset] [(.int (1 : Int32)), (.ref a_46)])) (fun TT HH tt kk => XS.iload HH hx rfl (hb hby at_269) rfl (XS.icmpNo HH hx rfl (hb hby at_271) rfl (teq rfl).2 (XS.aload HH hx rfl (hb hby at_274) rfl rfl (XS.iconst HH hx rfl (hb hby at_276) kk)))) ?_
    refine k_callV hx (y := (⟨"java/lang/String", "charAt", "(I)C"⟩ : MethodName)) (z := (⟨"java/lang/String", "charAt", "(I)C"⟩ : MethodName)) (wT 125 rfl) (wT 126 rfl) (fun s' hZ => notFace_of_selects (args := #[]) (mv hZ (wT 128 rfl))) (wT 128 rfl) (wT 127 rfl) (by decide) (W := 0) (a := a_46) (argsL := [(.int (1 : Int32))]) (rest := []) (Pays.of_met (rm_chL l Z a0 G1 G3 e0 tb kt hX hY n0 h_41 O_43 a_46 a_47 k_48 [en (0 : Int32), en (16 : Int32)] 1 F_50 (by simp) []) (wT 129 rfl) (wT 86 rfl) (by decide) (by decide)) F_50.1 rfl (by rw [hml]; rfl) (lenOf pd__28_I_29_C rfl) rfl (by show 2 * 0 + _ ≤ _; exact Nat.le_of_eq rfl) (hb hby at_277) (by decide) (by decide) ?_
    intro v_101 h_102 bk_103 O_104 z_105 Q_106
    obtain ⟨rfl, rfl, rfl⟩ := Q_106
    refine k_pure (g' := (mkF m 290 #[.val (.int sl), .val (.int xa), .val (.int xb), .val (.int xc), .val (.int (0 : Int32)), .val (.int za), .val (.int zb), .val (.int zc), .val (.ref a_1), .val (.ref a_12), .val (.ref a_46), .val (.int (2 : Int32)), .val (.int (en (0 : Int32))), .val (.int (en (16 : Int32))), .val (.int (en (((za &&& (15 : Int32)) <<< ((2 : Int32) &&& 31)) ||| (0 : Int32)))), .val (.int (en (zb &&& (63 : Int32)))), .val (.int (en (zc >>> ((2 : Int32) &&& 31)))), .val (.int (en ((zc &&& (3 : Int32)) <<< ((4 : Int32) &&& 31)))), .unset] [(.int (1 : Int32))])) (fun TT HH tt kk => XS.iload HH hx rfl (hb hby at_280) rfl (XS.icmpNo HH hx rfl (hb hby at_282) rfl (teq rfl).2 (XS.iconst HH hx rfl (hb hby at_285) (XS.goto HH hx rfl (pc0 := 286) (pc' := 290) rfl (hb hby at_286) (by decide) (by decide) kk)))) ?_
    refine k_pure (g' := (mkF m 299 #[.val (.int sl), .val (.int xa), .val (.int xb), .val (.int xc), .val (.int (0 : Int32)), .val (.int za), .val (.int zb), .val (.int zc), .val (.ref a_1), .val (.ref a_12), .val (.ref a_46), .val (.int (2 : Int32)), .val (.int (en (0 : Int32))), .val (.int (en (16 : Int32))), .val (.int (en (((za &&& (15 : Int32)) <<< ((2 : Int32) &&& 31)) ||| (0 : Int32)))), .val (.int (en (zb &&& (63 : Int32)))), .val (.int (en (zc >>> ((2 : Int32) &&& 31)))), .val (.int (en ((zc &&& (3 : Int32)) <<< ((4 : Int32) &&& 31)))), .val (.int (1 : Int32))] [(.int (2 : Int32))])) (fun TT HH tt kk => XS.istore HH hx rfl (hb hby at_290) rfl (l' := #[.val (.int sl), .val (.int xa), .val (.int xb), .val (.int xc), .val (.int (0 : Int32)), .val (.int za), .val (.int zb), .val (.int zc), .val (.ref a_1), .val (.ref a_12), .val (.ref a_46), .val (.int (2 : Int32)), .val (.int (en (0 : Int32))), .val (.int (en (16 : Int32))), .val (.int (en (((za &&& (15 : Int32)) <<< ((2 : Int32) &&& 31)) ||| (0 : Int32)))), .val (.int (en (zb &&& (63 : Int32)))), .val (.int (en (zc >>> ((2 : Int32) &&& 31)))), .val (.int (en ((zc &&& (3 : Int32)) <<< ((4 : Int32) &&& 31)))), .val (.int (1 : Int32))]) rfl (XS.iload HH hx rfl (hb hby at_292) rfl (XS.ifNo HH hx rfl (hb hby at_294) rfl ((if0 _ _).trans (feq (by decide : ¬ ((1 : Int32) = (0 : Int32)))).1) (XS.iload HH hx rfl (hb hby at_297) rfl kk)))) ?_
    refine k_pure (g' := (mkF m 326 #[.val (.int sl), .val (.int xa), .val (.int xb), .val (.int xc), .val (.int (0 : Int32)), .val (.int za), .val (.int zb), .val (.int zc), .val (.ref a_1), .val (.ref a_12), .val (.ref a_46), .val (.int (2 : Int32)), .val (.int (en (0 : Int32))), .val (.int (en (16 : Int32))), .val (.int (en (((za &&& (15 : Int32)) <<< ((2 : Int32) &&& 31)) ||| (0 : Int32)))), .val (.int (en (zb &&& (63 : Int32)))), .val (.int (en (zc >>> ((2 : Int32) &&& 31)))), .val (.int (en ((zc &&& (3 : Int32)) <<< ((4 : Int32) &&& 31)))), .val (.int (1 : Int32))] [])) (fun TT HH tt kk => XS.iconst HH hx rfl (hb hby at_299) (XS.icmpYes HH hx rfl (pc0 := 300) (pc' := 321) rfl (hb hby at_300) rfl (tlt (by decide : ((2 : Int32) < (3 : Int32)))).1 (by decide) (by decide) (XS.iload HH hx rfl (hb hby at_321) rfl (XS.ifNo HH hx rfl (hb hby at_323) rfl ((if0 _ _).trans (feq (by decide : ¬ ((1 : Int32) = (0 : Int32)))).1) kk)))) ?_
    refine k_pure (g' := (mkF m 352 #[.val (.int sl), .val (.int xa), .val (.int xb), .val (.int xc), .val (.int (0 : Int32)), .val (.int za), .val (.int zb), .val (.int zc), .val (.ref a_1), .val (.ref a_12), .val (.ref a_46), .val (.int (2 : Int32)), .val (.int (en (0 : Int32))), .val (.int (en (16 : Int32))), .val (.int (en (((za &&& (15 : Int32)) <<< ((2 : Int32) &&& 31)) ||| (0 : Int32)))), .val (.int (en (zb &&& (63 : Int32)))), .val (.int (en (zc >>> ((2 : Int32) &&& 31)))), .val (.int (en ((zc &&& (3 : Int32)) <<< ((4 : Int32) &&& 31)))), .val (.int (1 : Int32))] [(.int (1 : Int32))])) (fun TT HH tt kk => XS.iload HH hx rfl (hb hby at_326) rfl (XS.iconst HH hx rfl (hb hby at_328) (XS.icmpYes HH hx rfl (pc0 := 329) (pc' := 350) rfl (hb hby at_329) rfl (tlt (by decide : ((2 : Int32) < (4 : Int32)))).1 (by decide) (by decide) (XS.iload HH hx rfl (hb hby at_350) rfl kk)))) ?_
    refine k_pure (g' := (mkF m 391 #[.val (.int sl), .val (.int xa), .val (.int xb), .val (.int xc), .val (.int (0 : Int32)), .val (.int za), .val (.int zb), .val (.int zc), .val (.ref a_1), .val (.ref a_12), .val (.ref a_46), .val (.int (2 : Int32)), .val (.int (en (0 : Int32))), .val (.int (en (16 : Int32))), .val (.int (en (((za &&& (15 : Int32)) <<< ((2 : Int32) &&& 31)) ||| (0 : Int32)))), .val (.int (en (zb &&& (63 : Int32)))), .val (.int (en (zc >>> ((2 : Int32) &&& 31)))), .val (.int (en ((zc &&& (3 : Int32)) <<< ((4 : Int32) &&& 31)))), .val (.int (1 : Int32))] [])) (fun TT HH tt kk => XS.ifNo HH hx rfl (hb hby at_352) rfl ((if0 _ _).trans (feq (by decide : ¬ ((1 : Int32) = (0 : Int32)))).1) (XS.iload HH hx rfl (hb hby at_355) rfl (XS.bipush HH hx rfl (hb hby at_357) (XS.icmpYes HH hx rfl (pc0 := 359) (pc' := 391) rfl (hb hby at_359) rfl (tlt (by decide : ((2 : Int32) < (6 : Int32)))).1 (by decide) (by decide) kk)))) ?_
    refine k_pure (g' := (mkF m 393 #[.val (.int sl), .val (.int xa), .val (.int xb), .val (.int xc), .val (.int (0 : Int32)), .val (.int za), .val (.int zb), .val (.int zc), .val (.ref a_1), .val (.ref a_12), .val (.ref a_46), .val (.int (2 : Int32)), .val (.int (en (0 : Int32))), .val (.int (en (16 : Int32))), .val (.int (en (((za &&& (15 : Int32)) <<< ((2 : Int32) &&& 31)) ||| (0 : Int32)))), .val (.int (en (zb &&& (63 : Int32)))), .val (.int (en (zc >>> ((2 : Int32) &&& 31)))), .val (.int (en ((zc &&& (3 : Int32)) <<< ((4 : Int32) &&& 31)))), .val (.int (1 : Int32))] [(.int (1 : Int32))])) (fun _ J _ j => XS.iload J hx rfl (hb hby at_391) rfl j) ?_
    exact k_retN hx hlk hret (by simp) (hb hby at_393) (by decide) (by decide) ⟨rfl, rfl, (((((Keep.refl _ _).ext E_6).ext E_15).trans K_32 (kkS (Or.inr (by omega)) kk0)).trans K_49 kk0)⟩
  · show Run p l e _ s m _ below meth c Z EL1 _ n0 NoB h0 0 0 (mkF m 26 #[.val (.int sl), .val (.int xa), .val (.int xb), .val (.int xc), .val (.int (1 : Int32)), .val (.int za), .val (.int zb), .val (.int zc), .unset, .unset, .unset, .unset, .unset, .unset, .unset, .unset, .unset, .unset, .unset] []) _
    refine k_pure (g' := (mkF m 42 #[.val (.int sl), .val (.int xa), .val (.int xb), .val (.int xc), .val (.int (1 : Int32)), .val (.int za), .val (.int zb), .val (.int zc), .unset, .unset, .unset, .unset, .unset, .unset, .unset, .unset, .unset, .unset, .unset] [(.int (1 : Int32)), (.int (1 : Int32))])) (fun TT HH tt kk => XS.iload HH hx rfl (hb hby at_26) rfl (XS.ifYes HH hx rfl (pc0 := 28) (pc' := 39) rfl (hb hby at_28) rfl ((if0 _ _).trans (feq (by decide : ¬ ((1 : Int32) = (0 : Int32)))).2) (by decide) (by decide) (XS.iload HH hx rfl (hb hby at_39) rfl (XS.iconst HH hx rfl (hb hby at_41) kk)))) ?_
    refine k_pure (g' := (mkF m 46 #[.val (.int sl), .val (.int xa), .val (.int xb), .val (.int xc), .val (.int (1 : Int32)), .val (.int za), .val (.int zb), .val (.int zc), .unset, .unset, .unset, .unset, .unset, .unset, .unset, .unset, .unset, .unset, .unset] [(.int (1 : Int32))])) (fun TT HH tt kk => XS.icmpNo HH hx rfl (hb hby at_42) rfl (teq (by decide : ((1 : Int32) = (1 : Int32)))).2 (XS.iconst HH hx rfl (hb hby at_45) kk)) ?_
    refine k_newP hx (wT 0 rfl) rfl (hb hby at_46) rfl (by decide) (cap := 1) (by decide) (by decide) (by decide) (by decide) "[B" (by decide +kernel) ?_
    intro h_108 a_107 k_109 g_110 O_111 E_112 A_113 X_114
    have z_115 := E_112.1
    have lt_116 : @LT.lt Nat _ a_107 (Array.size h_108) := A_113.lt
    have V_117 : Arv Z h_108 a_107 k_109 .byte (1 : Int32) [(.int (0 : Int32))] (.int (0 : Int32)) := Arv.pad A_113 (pad_rep [] (.int (0 : Int32)) 1)
    refine k_pure (g' := (mkF m 53 #[.val (.int sl), .val (.int xa), .val (.int xb), .val (.int xc), .val (.int (1 : Int32)), .val (.int za), .val (.int zb), .val (.int zc), .unset, .unset, .unset, .unset, .unset, .unset, .unset, .unset, .unset, .unset, .unset] [(.int (za.toInt8.toInt32)), (.int (0 : Int32)), (.ref a_107), (.ref a_107)])) (fun TT HH tt kk => XS.dup HH hx rfl (hb hby at_48) rfl rfl (XS.iconst HH hx rfl (hb hby at_49) (XS.iload HH hx rfl (hb hby at_50) rfl (XS.i2b HH hx rfl (hb hby at_52) rfl kk)))) ?_
    refine k_stB hx V_117 ⟨by decide, by decide⟩ 0 (by decide) (Nat.le_of_ble_eq_true rfl) (by omega) (fun q => q) rfl rfl (hb hby at_53) ?_
    intro h_118 O_119 W_120 A_121
    have z_122 := W_120.size
    have V_123 : Arv Z h_118 a_107 k_109 .byte (1 : Int32) [(.int (za.toInt8.toInt32))] (.int (0 : Int32)) := by rw [u_narb] at A_121; exact A_121
    refine k_pure (g' := (mkF m 108 #[.val (.int sl), .val (.int xa), .val (.int xb), .val (.int xc), .val (.int (1 : Int32)), .val (.int za), .val (.int zb), .val (.int zc), .val (.ref a_107), .unset, .unset, .unset, .unset, .unset, .unset, .unset, .unset, .unset, .unset] [])) (fun TT HH tt kk => XS.astore HH hx rfl (hb hby at_54) rfl rfl (l' := #[.val (.int sl), .val (.int xa), .val (.int xb), .val (.int xc), .val (.int (1 : Int32)), .val (.int za), .val (.int zb), .val (.int zc), .val (.ref a_107), .unset, .unset, .unset, .unset, .unset, .unset, .unset, .unset, .unset, .unset]) rfl (XS.goto HH hx rfl (pc0 := 56) (pc' := 108) rfl (hb hby at_56) (by decide) (by decide) kk)) ?_
    refine k_newO hx (wT 1 rfl) (wT 2 rfl) (wT 3 rfl) rfl (hb hby at_108) (by decide) (by decide) ?_
    intro h_125 a_124 g_131 O_126 E_127 A_128 D_129 U_130
    have z_132 := E_127.1
    have lt_133 : @LT.lt Nat _ a_124 (Array.size h_125) := A_128.lt
    refine k_pure (g' := (mkF m 114 #[.val (.int sl), .val (.int xa), .val (.int xb), .val (.int xc), .val (.int (1 : Int32)), .val (.int za), .val (.int zb), .val (.int zc), .val (.ref a_107), .unset, .unset, .unset, .unset, .unset, .unset, .unset, .unset, .unset, .unset] [(.ref a_107), (.ref a_124), (.ref a_124)])) (fun TT HH tt kk => XS.dup HH hx rfl (hb hby at_111) rfl rfl (XS.aload HH hx rfl (hb hby at_112) rfl rfl kk)) ?_
    have F_134 : Exa Z h_125 a_107 "[B" := ((X_114.wr W_120).ext E_127)
    have F_135 : Arv Z h_125 a_107 k_109 .byte (1 : Int32) [(.int (za.toInt8.toInt32))] (.int (0 : Int32)) := (V_123.ext E_127)
    refine k_callI hx (y := (⟨"com/example/lean_entities/leanentities/session/Cursor", "<init>", "([B)V"⟩ : MethodName)) rfl (wT 4 rfl) (wT 5 rfl) (wT 6 rfl) (by decide) (W := 1) (a := a_124) (argsL := [(.ref a_107)]) (rest := [(.ref a_124)]) (Pays.of_met (rm_cin1 l Z a0 G1 G3 e0 tb kt hX hY n0 h_125 O_126 a_124 a_107 k_109 za A_128 (D_129 (Or.inr (wT 20 rfl)) (ty := (.array .byte)) (by decide)) F_134 F_135 (by omega) []) (wT 6 rfl) (wT 3 rfl) (by decide) (by decide)) rfl (by rw [hml]; rfl) (lenOf pd__28__5b_B_29_V rfl) rfl (by show 2 * 0 + _ ≤ _; exact Nat.le_of_eq rfl) (hb hby at_114) (by decide) (by decide) ?_
    intro v_136 h_137 bk_138 O_139 z_140 Q_141
    obtain ⟨a_142, k_143, rfl, rfl, K_144, F_145, F_146, F_147, P_148⟩ := Q_141
    have lt_149 : @LT.lt Nat _ a_124 (Array.size h_137) := F_145.lt
    have lt_150 : @LT.lt Nat _ a_124 (Array.size h_137) := F_146.lt
    have lt_151 : @LT.lt Nat _ a_142 (Array.size h_137) := F_147.lt
    refine k_pure (g' := (mkF m 121 #[.val (.int sl), .val (.int xa), .val (.int xb), .val (.int xc), .val (.int (1 : Int32)), .val (.int za), .val (.int zb), .val (.int zc), .val (.ref a_107), .val (.ref a_124), .unset, .unset, .unset, .unset, .unset, .unset, .unset, .unset, .unset] [(.ref a_124)])) (fun TT HH tt kk => XS.astore HH hx rfl (hb hby at_117) rfl rfl (l' := #[.val (.int sl), .val (.int xa), .val (.int xb), .val (.int xc), .val (.int (1 : Int32)), .val (.int za), .val (.int zb), .val (.int zc), .val (.ref a_107), .val (.ref a_124), .unset, .unset, .unset, .unset, .unset, .unset, .unset, .unset, .unset]) rfl (XS.aload HH hx rfl (hb hby at_119) rfl rfl kk)) ?_
    refine k_callV hx (y := (⟨"com/example/lean_entities/leanentities/session/Cursor", "toWebSafeString", "()Ljava/lang/String;"⟩ : MethodName)) (z := (⟨"com/example/lean_entities/leanentities/session/Cursor", "toWebSafeString", "()Ljava/lang/String;"⟩ : MethodName)) (wT 21 rfl) (wT 22 rfl) (fun s' hZ => notFace_of_selects (args := #[]) (mv hZ (wT 24 rfl))) (wT 24 rfl) (wT 23 rfl) (by decide) (W := 0) (a := a_124) (argsL := []) (rest := []) (Pays.of_met (rm_tow1 l Z a0 G1 G3 e0 tb kt hX hY n0 h_137 O_139 a_124 a_142 k_143 za F_145 F_146 F_147 b_za []) (wT 25 rfl) (wT 3 rfl) (by decide) (by decide)) F_145 rfl (by rw [hml]; rfl) (lenOf pd__28__29_Ljava_2f_lang_2f_String_3b_ rfl) rfl (by show 2 * 0 + _ ≤ _; exact Nat.le_of_eq rfl) (hb hby at_121) (by decide) (by decide) ?_
    intro v_152 h_153 bk_154 O_155 z_156 Q_157
    obtain ⟨a_158, a_159, k_160, rfl, rfl, K_161, F_162⟩ := Q_157
    have lt_163 : @LT.lt Nat _ a_158 (Array.size h_153) := F_162.lt1
    have lt_164 : @LT.lt Nat _ a_159 (Array.size h_153) := F_162.lt2
    refine k_pure (g' := (mkF m 139 #[.val (.int sl), .val (.int xa), .val (.int xb), .val (.int xc), .val (.int (1 : Int32)), .val (.int za), .val (.int zb), .val (.int zc), .val (.ref a_107), .val (.ref a_124), .val (.ref a_158), .unset, .unset, .unset, .unset, .unset, .unset, .unset, .unset] [(.int (1 : Int32))])) (fun TT HH tt kk => XS.astore HH hx rfl (hb hby at_124) rfl rfl (l' := #[.val (.int sl), .val (.int xa), .val (.int xb), .val (.int xc), .val (.int (1 : Int32)), .val (.int za), .val (.int zb), .val (.int zc), .val (.ref a_107), .val (.ref a_124), .val (.ref a_158), .unset, .unset, .unset, .unset, .unset, .unset, .unset, .unset]) rfl (XS.iload HH hx rfl (hb hby at_126) rfl (XS.ifYes HH hx rfl (pc0 := 128) (pc' := 137) rfl (hb hby at_128) rfl ((if0 _ _).trans (feq (by decide : ¬ ((1 : Int32) = (0 : Int32)))).2) (by decide) (by decide) (XS.iload HH hx rfl (hb hby at_137) rfl kk)))) ?_
    refine k_pure (g' := (mkF m 146 #[.val (.int sl), .val (.int xa), .val (.int xb), .val (.int xc), .val (.int (1 : Int32)), .val (.int za), .val (.int zb), .val (.int zc), .val (.ref a_107), .val (.ref a_124), .val (.ref a_158), .val (.int (3 : Int32)), .unset, .unset, .unset, .unset, .unset, .unset, .unset] [])) (fun TT HH tt kk => XS.iconst HH hx rfl (hb hby at_139) (XS.icmpNo HH hx rfl (hb hby at_140) rfl (teq (by decide : ((1 : Int32) = (1 : Int32)))).2 (XS.iconst HH hx rfl (hb hby at_143) (XS.istore HH hx rfl (hb hby at_144) rfl (l' := #[.val (.int sl), .val (.int xa), .val (.int xb), .val (.int xc), .val (.int (1 : Int32)), .val (.int za), .val (.int zb), .val (.int zc), .val (.ref a_107), .val (.ref a_124), .val (.ref a_158), .val (.int (3 : Int32)), .unset, .unset, .unset, .unset, .unset, .unset, .unset]) rfl kk)))) ?_
    refine k_pure (g' := (mkF m 166 #[.val (.int sl), .val (.int xa), .val (.int xb), .val (.int xc), .val (.int (1 : Int32)), .val (.int za), .val (.int zb), .val (.int zc), .val (.ref a_107), .val (.ref a_124), .val (.ref a_158), .val (.int (3 : Int32)), .unset, .unset, .unset, .unset, .unset, .unset, .unset] [(.int (0 : Int32))])) (fun TT HH tt kk => XS.goto HH hx rfl (pc0 := 146) (pc' := 165) rfl (hb hby at_146) (by decide) (by decide) (XS.iconst HH hx rfl (hb hby at_165) kk)) ?_
    refine k_callS hx (y := (⟨"com/example/lean_entities/leanentities/session/CursorToWebSafeStringPinLaw", "enc", "(I)C"⟩ : MethodName)) (wT 111 rfl) (wT 112 rfl) (wT 113 rfl) (wT 114 rfl) (by decide) (W := 0) (argsL := [(.int (0 : Int32))]) (rest := []) (Pays.of_met (rm_enc l Z a0 G1 G3 e0 tb kt hX hY n0 h_153 O_155 (0 : Int32) (by decide) []) (wT 114 rfl) (wT 113 rfl) (by decide) (by decide)) rfl (by rw [hml]; rfl) (lenOf pd__28_I_29_C rfl) rfl (by show 2 * 0 + _ ≤ _; exact Nat.le_of_eq rfl) (hb hby at_166) (by decide) (by decide) ?_
    intro v_165 h_166 bk_167 O_168 z_169 Q_170
    obtain ⟨rfl, rfl, rfl⟩ := Q_170
    refine k_pure (g' := (mkF m 176 #[.val (.int sl), .val (.int xa), .val (.int xb), .val (.int xc), .val (.int (1 : Int32)), .val (.int za), .val (.int zb), .val (.int zc), .val (.ref a_107), .val (.ref a_124), .val (.ref a_158), .val (.int (3 : Int32)), .val (.int (en (0 : Int32))), .unset, .unset, .unset, .unset, .unset, .unset] [(.int (1 : Int32)), (.int (1 : Int32)), (.int (16 : Int32))])) (fun TT HH tt kk => XS.istore HH hx rfl (hb hby at_169) rfl (l' := #[.val (.int sl), .val (.int xa), .val (.int xb), .val (.int xc), .val (.int (1 : Int32)), .val (.int za), .val (.int zb), .val (.int zc), .val (.ref a_107), .val (.ref a_124), .val (.ref a_158), .val (.int (3 : Int32)), .val (.int (en (0 : Int32))), .unset, .unset, .unset, .unset, .unset, .unset]) rfl (XS.bipush HH hx rfl (hb hby at_171) (XS.iload HH hx rfl (hb hby at_173) rfl (XS.iconst HH hx rfl (hb hby at_175) kk)))) ?_
    refine k_pure (g' := (mkF m 183 #[.val (.int sl), .val (.int xa), .val (.int xb), .val (.int xc), .val (.int (1 : Int32)), .val (.int za), .val (.int zb), .val (.int zc), .val (.ref a_107), .val (.ref a_124), .val (.ref a_158), .val (.int (3 : Int32)), .val (.int (en (0 : Int32))), .unset, .unset, .unset, .unset, .unset, .unset] [(.int (za >>> ((4 : Int32) &&& 31))), (.int (16 : Int32))])) (fun TT HH tt kk => XS.icmpNo HH hx rfl (hb hby at_176) rfl (flt (by decide : ¬ ((1 : Int32) < (1 : Int32)))).1 (XS.iload HH hx rfl (hb hby at_179) rfl (XS.iconst HH hx rfl (hb hby at_181) (XS.ishr HH hx rfl (hb hby at_182) rfl kk)))) ?_
    refine k_pure (g' := (mkF m 188 #[.val (.int sl), .val (.int xa), .val (.int xb), .val (.int xc), .val (.int (1 : Int32)), .val (.int za), .val (.int zb), .val (.int zc), .val (.ref a_107), .val (.ref a_124), .val (.ref a_158), .val (.int (3 : Int32)), .val (.int (en (0 : Int32))), .unset, .unset, .unset, .unset, .unset, .unset] [(.int ((16 : Int32) ||| (za >>> ((4 : Int32) &&& 31))))])) (fun TT HH tt kk => XS.goto HH hx rfl (pc0 := 183) (pc' := 187) rfl (hb hby at_183) (by decide) (by decide) (XS.ior HH hx rfl (hb hby at_187) rfl kk)) ?_
    refine k_callS hx (y := (⟨"com/example/lean_entities/leanentities/session/CursorToWebSafeStringPinLaw", "enc", "(I)C"⟩ : MethodName)) (wT 111 rfl) (wT 112 rfl) (wT 113 rfl) (wT 114 rfl) (by decide) (W := 0) (argsL := [(.int ((16 : Int32) ||| (za >>> ((4 : Int32) &&& 31))))]) (rest := []) (Pays.of_met (rm_enc l Z a0 G1 G3 e0 tb kt hX hY n0 h_153 O_155 ((16 : Int32) ||| (za >>> ((4 : Int32) &&& 31))) (by have r0 : (16 : Int32).toInt = 16 := (by decide); have r1 := rng32 za; have r2 : (za >>> ((4 : Int32) &&& 31)).toInt = za.toInt / 16 := (c_ishr za (4 : Int32) 4 (by decide)); have r3 := rng32 (za >>> ((4 : Int32) &&& 31)); have r4 := rng32 ((16 : Int32) ||| (za >>> ((4 : Int32) &&& 31))); have r5 := t1 b_za; have r6 := b_za; omega) []) (wT 114 rfl) (wT 113 rfl) (by decide) (by decide)) rfl (by rw [hml]; rfl) (lenOf pd__28_I_29_C rfl) rfl (by show 2 * 0 + _ ≤ _; exact Nat.le_of_eq rfl) (hb hby at_188) (by decide) (by decide) ?_
    intro v_171 h_172 bk_173 O_174 z_175 Q_176
    obtain ⟨rfl, rfl, rfl⟩ := Q_176
    refine k_pure (g' := (mkF m 198 #[.val (.int sl), .val (.int xa), .val (.int xb), .val (.int xc), .val (.int (1 : Int32)), .val (.int za), .val (.int zb), .val (.int zc), .val (.ref a_107), .val (.ref a_124), .val (.ref a_158), .val (.int (3 : Int32)), .val (.int (en (0 : Int32))), .val (.int (en ((16 : Int32) ||| (za >>> ((4 : Int32) &&& 31))))), .unset, .unset, .unset, .unset, .unset] [(.int (za &&& (15 : Int32)))])) (fun TT HH tt kk => XS.istore HH hx rfl (hb hby at_191) rfl (l' := #[.val (.int sl), .val (.int xa), .val (.int xb), .val (.int xc), .val (.int (1 : Int32)), .val (.int za), .val (.int zb), .val (.int zc), .val (.ref a_107), .val (.ref a_124), .val (.ref a_158), .val (.int (3 : Int32)), .val (.int (en (0 : Int32))), .val (.int (en ((16 : Int32) ||| (za >>> ((4 : Int32) &&& 31))))), .unset, .unset, .unset, .unset, .unset]) rfl (XS.iload HH hx rfl (hb hby at_193) rfl (XS.bipush HH hx rfl (hb hby at_195) (XS.iand HH hx rfl (hb hby at_197) rfl kk)))) ?_
    refine k_pure (g' := (mkF m 203 #[.val (.int sl), .val (.int xa), .val (.int xb), .val (.int xc), .val (.int (1 : Int32)), .val (.int za), .val (.int zb), .val (.int zc), .val (.ref a_107), .val (.ref a_124), .val (.ref a_158), .val (.int (3 : Int32)), .val (.int (en (0 : Int32))), .val (.int (en ((16 : Int32) ||| (za >>> ((4 : Int32) &&& 31))))), .unset, .unset, .unset, .unset, .unset] [(.int (2 : Int32)), (.int (1 : Int32)), (.int ((za &&& (15 : Int32)) <<< ((2 : Int32) &&& 31)))])) (fun TT HH tt kk => XS.iconst HH hx rfl (hb hby at_198) (XS.ishl HH hx rfl (hb hby at_199) rfl (XS.iload HH hx rfl (hb hby at_200) rfl (XS.iconst HH hx rfl (hb hby at_202) kk)))) ?_
    refine k_pure (g' := (mkF m 216 #[.val (.int sl), .val (.int xa), .val (.int xb), .val (.int xc), .val (.int (1 : Int32)), .val (.int za), .val (.int zb), .val (.int zc), .val (.ref a_107), .val (.ref a_124), .val (.ref a_158), .val (.int (3 : Int32)), .val (.int (en (0 : Int32))), .val (.int (en ((16 : Int32) ||| (za >>> ((4 : Int32) &&& 31))))), .unset, .unset, .unset, .unset, .unset] [(.int (((za &&& (15 : Int32)) <<< ((2 : Int32) &&& 31)) ||| (0 : Int32)))])) (fun TT HH tt kk => XS.icmpYes HH hx rfl (pc0 := 203) (pc' := 214) rfl (hb hby at_203) rfl (tlt (by decide : ((1 : Int32) < (2 : Int32)))).1 (by decide) (by decide) (XS.iconst HH hx rfl (hb hby at_214) (XS.ior HH hx rfl (hb hby at_215) rfl kk))) ?_
    refine k_callS hx (y := (⟨"com/example/lean_entities/leanentities/session/CursorToWebSafeStringPinLaw", "enc", "(I)C"⟩ : MethodName)) (wT 111 rfl) (wT 112 rfl) (wT 113 rfl) (wT 114 rfl) (by decide) (W := 0) (argsL := [(.int (((za &&& (15 : Int32)) <<< ((2 : Int32) &&& 31)) ||| (0 : Int32)))]) (rest := []) (Pays.of_met (rm_enc l Z a0 G1 G3 e0 tb kt hX hY n0 h_153 O_155 (((za &&& (15 : Int32)) <<< ((2 : Int32) &&& 31)) ||| (0 : Int32)) (by have r0 := rng32 za; have r1 : (za &&& (15 : Int32)).toInt = za.toInt % 16 := (c_mask za (15 : Int32) 4 (by decide) (by decide)); have r2 := rng32 (za &&& (15 : Int32)); have r3 : (((za &&& (15 : Int32)) <<< ((2 : Int32) &&& 31)).toInt - (za &&& (15 : Int32)).toInt * 4) % 4294967296 = 0 := (c_ishl (za &&& (15 : Int32)) (2 : Int32) 2 (by decide)); have r4 := rng32 ((za &&& (15 : Int32)) <<< ((2 : Int32) &&& 31)); have r5 : (0 : Int32).toInt = 0 := (by decide); have r6 := rng32 (((za &&& (15 : Int32)) <<< ((2 : Int32) &&& 31)) ||| (0 : Int32)); have r7 := t2z b_za; have r8 := b_za; have r9 := b_zb; omega) []) (wT 114 rfl) (wT 113 rfl) (by decide) (by decide)) rfl (by rw [hml]; rfl) (lenOf pd__28_I_29_C rfl) rfl (by show 2 * 0 + _ ≤ _; exact Nat.le_of_eq rfl) (hb hby at_216) (by decide) (by decide) ?_
    intro v_177 h_178 bk_179 O_180 z_181 Q_182
    obtain ⟨rfl, rfl, rfl⟩ := Q_182
    refine k_pure (g' := (mkF m 226 #[.val (.int sl), .val (.int xa), .val (.int xb), .val (.int xc), .val (.int (1 : Int32)), .val (.int za), .val (.int zb), .val (.int zc), .val (.ref a_107), .val (.ref a_124), .val (.ref a_158), .val (.int (3 : Int32)), .val (.int (en (0 : Int32))), .val (.int (en ((16 : Int32) ||| (za >>> ((4 : Int32) &&& 31))))), .val (.int (en (((za &&& (15 : Int32)) <<< ((2 : Int32) &&& 31)) ||| (0 : Int32)))), .unset, .unset, .unset, .unset] [(.int (zb &&& (63 : Int32)))])) (fun TT HH tt kk => XS.istore HH hx rfl (hb hby at_219) rfl (l' := #[.val (.int sl), .val (.int xa), .val (.int xb), .val (.int xc), .val (.int (1 : Int32)), .val (.int za), .val (.int zb), .val (.int zc), .val (.ref a_107), .val (.ref a_124), .val (.ref a_158), .val (.int (3 : Int32)), .val (.int (en (0 : Int32))), .val (.int (en ((16 : Int32) ||| (za >>> ((4 : Int32) &&& 31))))), .val (.int (en (((za &&& (15 : Int32)) <<< ((2 : Int32) &&& 31)) ||| (0 : Int32)))), .unset, .unset, .unset, .unset]) rfl (XS.iload HH hx rfl (hb hby at_221) rfl (XS.bipush HH hx rfl (hb hby at_223) (XS.iand HH hx rfl (hb hby at_225) rfl kk)))) ?_
    refine k_callS hx (y := (⟨"com/example/lean_entities/leanentities/session/CursorToWebSafeStringPinLaw", "enc", "(I)C"⟩ : MethodName)) (wT 111 rfl) (wT 112 rfl) (wT 113 rfl) (wT 114 rfl) (by decide) (W := 0) (argsL := [(.int (zb &&& (63 : Int32)))]) (rest := []) (Pays.of_met (rm_enc l Z a0 G1 G3 e0 tb kt hX hY n0 h_153 O_155 (zb &&& (63 : Int32)) (by have r0 := rng32 zb; have r1 : (zb &&& (63 : Int32)).toInt = zb.toInt % 64 := (c_mask zb (63 : Int32) 6 (by decide) (by decide)); have r2 := rng32 (zb &&& (63 : Int32)); have r3 := b_zb; omega) []) (wT 114 rfl) (wT 113 rfl) (by decide) (by decide)) rfl (by rw [hml]; rfl) (lenOf pd__28_I_29_C rfl) rfl (by show 2 * 0 + _ ≤ _; exact Nat.le_of_eq rfl) (hb hby at_226) (by decide) (by decide) ?_
    intro v_183 h_184 bk_185 O_186 z_187 Q_188
    obtain ⟨rfl, rfl, rfl⟩ := Q_188
    refine k_pure (g' := (mkF m 235 #[.val (.int sl), .val (.int xa), .val (.int xb), .val (.int xc), .val (.int (1 : Int32)), .val (.int za), .val (.int zb), .val (.int zc), .val (.ref a_107), .val (.ref a_124), .val (.ref a_158), .val (.int (3 : Int32)), .val (.int (en (0 : Int32))), .val (.int (en ((16 : Int32) ||| (za >>> ((4 : Int32) &&& 31))))), .val (.int (en (((za &&& (15 : Int32)) <<< ((2 : Int32) &&& 31)) ||| (0 : Int32)))), .val (.int (en (zb &&& (63 : Int32)))), .unset, .unset, .unset] [(.int (zc >>> ((2 : Int32) &&& 31)))])) (fun TT HH tt kk => XS.istore HH hx rfl (hb hby at_229) rfl (l' := #[.val (.int sl), .val (.int xa), .val (.int xb), .val (.int xc), .val (.int (1 : Int32)), .val (.int za), .val (.int zb), .val (.int zc), .val (.ref a_107), .val (.ref a_124), .val (.ref a_158), .val (.int (3 : Int32)), .val (.int (en (0 : Int32))), .val (.int (en ((16 : Int32) ||| (za >>> ((4 : Int32) &&& 31))))), .val (.int (en (((za &&& (15 : Int32)) <<< ((2 : Int32) &&& 31)) ||| (0 : Int32)))), .val (.int (en (zb &&& (63 : Int32)))), .unset, .unset, .unset]) rfl (XS.iload HH hx rfl (hb hby at_231) rfl (XS.iconst HH hx rfl (hb hby at_233) (XS.ishr HH hx rfl (hb hby at_234) rfl kk)))) ?_
    refine k_callS hx (y := (⟨"com/example/lean_entities/leanentities/session/CursorToWebSafeStringPinLaw", "enc", "(I)C"⟩ : MethodName)) (wT 111 rfl) (wT 112 rfl) (wT 113 rfl) (wT 114 rfl) (by decide) (W := 0) (argsL := [(.int (zc >>> ((2 : Int32) &&& 31)))]) (rest := []) (Pays.of_met (rm_enc l Z a0 G1 G3 e0 tb kt hX hY n0 h_153 O_155 (zc >>> ((2 : Int32) &&& 31)) (by have r0 := rng32 zc; have r1 : (zc >>> ((2 : Int32) &&& 31)).toInt = zc.toInt / 4 := (c_ishr zc (2 : Int32) 2 (by decide)); have r2 := rng32 (zc >>> ((2 : Int32) &&& 31)); have r3 := b_zc; omega) []) (wT 114 rfl) (wT 113 rfl) (by decide) (by decide)) rfl (by rw [hml]; rfl) (lenOf pd__28_I_29_C rfl) rfl (by show 2 * 0 + _ ≤ _; exact Nat.le_of_eq rfl) (hb hby at_235) (by decide) (by decide) ?_
    intro v_189 h_190 bk_191 O_192 z_193 Q_194
    obtain ⟨rfl, rfl, rfl⟩ := Q_194
    refine k_pure (g' := (mkF m 244 #[.val (.int sl), .val (.int xa), .val (.int xb), .val (.int xc), .val (.int (1 : Int32)), .val (.int za), .val (.int zb), .val (.int zc), .val (.ref a_107), .val (.ref a_124), .val (.ref a_158), .val (.int (3 : Int32)), .val (.int (en (0 : Int32))), .val (.int (en ((16 : Int32) ||| (za >>> ((4 : Int32) &&& 31))))), .val (.int (en (((za &&& (15 : Int32)) <<< ((2 : Int32) &&& 31)) ||| (0 : Int32)))), .val (.int (en (zb &&& (63 : Int32)))), .val (.int (en (zc >>> ((2 : Int32) &&& 31)))), .unset, .unset] [(.int (zc &&& (3 : Int32)))])) (fun TT HH tt kk => XS.istore HH hx rfl (hb hby at_238) rfl (l' := #[.val (.int sl), .val (.int xa), .val (.int xb), .val (.int xc), .val (.int (1 : Int32)), .val (.int za), .val (.int zb), .val (.int zc), .val (.ref a_107), .val (.ref a_124), .val (.ref a_158), .val (.int (3 : Int32)), .val (.int (en (0 : Int32))), .val (.int (en ((16 : Int32) ||| (za >>> ((4 : Int32) &&& 31))))), .val (.int (en (((za &&& (15 : Int32)) <<< ((2 : Int32) &&& 31)) ||| (0 : Int32)))), .val (.int (en (zb &&& (63 : Int32)))), .val (.int (en (zc >>> ((2 : Int32) &&& 31)))), .unset, .unset]) rfl (XS.iload HH hx rfl (hb hby at_240) rfl (XS.iconst HH hx rfl (hb hby at_242) (XS.iand HH hx rfl (hb hby at_243) rfl kk)))) ?_
    refine k_pure (g' := (mkF m 246 #[.val (.int sl), .val (.int xa), .val (.int xb), .val (.int xc), .val (.int (1 : Int32)), .val (.int za), .val (.int zb), .val (.int zc), .val (.ref a_107), .val (.ref a_124), .val (.ref a_158), .val (.int (3 : Int32)), .val (.int (en (0 : Int32))), .val (.int (en ((16 : Int32) ||| (za >>> ((4 : Int32) &&& 31))))), .val (.int (en (((za &&& (15 : Int32)) <<< ((2 : Int32) &&& 31)) ||| (0 : Int32)))), .val (.int (en (zb &&& (63 : Int32)))), .val (.int (en (zc >>> ((2 : Int32) &&& 31)))), .unset, .unset] [(.int ((zc &&& (3 : Int32)) <<< ((4 : Int32) &&& 31)))])) (fun TT HH tt kk => XS.iconst HH hx rfl (hb hby at_244) (XS.ishl HH hx rfl (hb hby at_245) rfl kk)) ?_
    refine k_callS hx (y := (⟨"com/example/lean_entities/leanentities/session/CursorToWebSafeStringPinLaw", "enc", "(I)C"⟩ : MethodName)) (wT 111 rfl) (wT 112 rfl) (wT 113 rfl) (wT 114 rfl) (by decide) (W := 0) (argsL := [(.int ((zc &&& (3 : Int32)) <<< ((4 : Int32) &&& 31)))]) (rest := []) (Pays.of_met (rm_enc l Z a0 G1 G3 e0 tb kt hX hY n0 h_153 O_155 ((zc &&& (3 : Int32)) <<< ((4 : Int32) &&& 31)) (by have r0 := rng32 zc; have r1 : (zc &&& (3 : Int32)).toInt = zc.toInt % 4 := (c_mask zc (3 : Int32) 2 (by decide) (by decide)); have r2 := rng32 (zc &&& (3 : Int32)); have r3 : (((zc &&& (3 : Int32)) <<< ((4 : Int32) &&& 31)).toInt - (zc &&& (3 : Int32)).toInt * 16) % 4294967296 = 0 := (c_ishl (zc &&& (3 : Int32)) (4 : Int32) 4 (by decide)); have r4 := rng32 ((zc &&& (3 : Int32)) <<< ((4 : Int32) &&& 31)); have r5 := t5 b_zc; have r6 := b_zc; omega) []) (wT 114 rfl) (wT 113 rfl) (by decide) (by decide)) rfl (by rw [hml]; rfl) (lenOf pd__28_I_29_C rfl) rfl (by show 2 * 0 + _ ≤ _; exact Nat.le_of_eq rfl) (hb hby at_246) (by decide) (by decide) ?_
    intro v_195 h_196 bk_197 O_198 z_199 Q_200
    obtain ⟨rfl, rfl, rfl⟩ := Q_200
    refine k_pure (g' := (mkF m 253 #[.val (.int sl), .val (.int xa), .val (.int xb), .val (.int xc), .val (.int (1 : Int32)), .val (.int za), .val (.int zb), .val (.int zc), .val (.ref a_107), .val (.ref a_124), .val (.ref a_158), .val (.int (3 : Int32)), .val (.int (en (0 : Int32))), .val (.int (en ((16 : Int32) ||| (za >>> ((4 : Int32) &&& 31))))), .val (.int (en (((za &&& (15 : Int32)) <<< ((2 : Int32) &&& 31)) ||| (0 : Int32)))), .val (.int (en (zb &&& (63 : Int32)))), .val (.int (en (zc >>> ((2 : Int32) &&& 31)))), .val (.int (en ((zc &&& (3 : Int32)) <<< ((4 : Int32) &&& 31)))), .unset] [(.ref a_158)])) (fun TT HH tt kk => XS.istore HH hx rfl (hb hby at_249) rfl (l' := #[.val (.int sl), .val (.int xa), .val (.int xb), .val (.int xc), .val (.int (1 : Int32)), .val (.int za), .val (.int zb), .val (.int zc), .val (.ref a_107), .val (.ref a_124), .val (.ref a_158), .val (.int (3 : Int32)), .val (.int (en (0 : Int32))), .val (.int (en ((16 : Int32) ||| (za >>> ((4 : Int32) &&& 31))))), .val (.int (en (((za &&& (15 : Int32)) <<< ((2 : Int32) &&& 31)) ||| (0 : Int32)))), .val (.int (en (zb &&& (63 : Int32)))), .val (.int (en (zc >>> ((2 : Int32) &&& 31)))), .val (.int (en ((zc &&& (3 : Int32)) <<< ((4 : Int32) &&& 31)))), .unset]) rfl (XS.aload HH hx rfl (hb hby at_251) rfl rfl kk)) ?_
    refine k_callV hx (y := (⟨"java/lang/String", "length", "()I"⟩ : MethodName)) (z := (⟨"java/lang/String", "length", "()I"⟩ : MethodName)) (wT 115 rfl) (wT 116 rfl) (fun s' hZ => notFace_of_selects (args := #[]) (mv hZ (wT 118 rfl))) (wT 118 rfl) (wT 117 rfl) (by decide) (W := 0) (a := a_158) (argsL := []) (rest := []) (Pays.of_met (rm_sle l Z a0 G1 G3 e0 tb kt hX hY n0 h_153 O_155 a_158 a_159 k_160 [en (0 : Int32), en ((16 : Int32) ||| (za >>> ((4 : Int32) &&& 31))), en (((za &&& (15 : Int32)) <<< ((2 : Int32) &&& 31)) ||| (0 : Int32))] F_162 []) (wT 119 rfl) (wT 86 rfl) (by decide) (by decide)) F_162.1 rfl (by rw [hml]; rfl) (lenOf pd__28__29_I rfl) rfl (by show 2 * 0 + _ ≤ _; exact Nat.le_of_eq rfl) (hb hby at_253) (by decide) (by decide) ?_
    intro v_201 h_202 bk_203 O_204 z_205 Q_206
    obtain ⟨rfl, rfl, rfl⟩ := Q_206
    refine k_pure (g' := (mkF m 266 #[.val (.int sl), .val (.int xa), .val (.int xb), .val (.int xc), .val (.int (1 : Int32)), .val (.int za), .val (.int zb), .val (.int zc), .val (.ref a_107), .val (.ref a_124), .val (.ref a_158), .val (.int (3 : Int32)), .val (.int (en (0 : Int32))), .val (.int (en ((16 : Int32) ||| (za >>> ((4 : Int32) &&& 31))))), .val (.int (en (((za &&& (15 : Int32)) <<< ((2 : Int32) &&& 31)) ||| (0 : Int32)))), .val (.int (en (zb &&& (63 : Int32)))), .val (.int (en (zc >>> ((2 : Int32) &&& 31)))), .val (.int (en ((zc &&& (3 : Int32)) <<< ((4 : Int32) &&& 31)))), .unset] [(.int (0 : Int32)), (.ref a_158)])) (fun TT HH tt kk => XS.iload HH hx rfl (hb hby at_256) rfl (XS.icmpYes HH hx rfl (pc0 := 258) (pc' := 263) rfl (hb hby at_258) rfl (teq rfl).1 (by decide) (by decide) (XS.aload HH hx rfl (hb hby at_263) rfl rfl (XS.iconst HH hx rfl (hb hby at_265) kk)))) ?_
    refine k_callV hx (y := (⟨"java/lang/String", "charAt", "(I)C"⟩ : MethodName)) (z := (⟨"java/lang/String", "charAt", "(I)C"⟩ : MethodName)) (wT 125 rfl) (wT 126 rfl) (fun s' hZ => notFace_of_selects (args := #[]) (mv hZ (wT 128 rfl))) (wT 128 rfl) (wT 127 rfl) (by decide) (W := 0) (a := a_158) (argsL := [(.int (0 : Int32))]) (rest := []) (Pays.of_met (rm_chL l Z a0 G1 G3 e0 tb kt hX hY n0 h_153 O_155 a_158 a_159 k_160 [en (0 : Int32), en ((16 : Int32) ||| (za >>> ((4 : Int32) &&& 31))), en (((za &&& (15 : Int32)) <<< ((2 : Int32) &&& 31)) ||| (0 : Int32))] 0 F_162 (by simp) []) (wT 129 rfl) (wT 86 rfl) (by decide) (by decide)) F_162.1 rfl (by rw [hml]; rfl) (lenOf pd__28_I_29_C rfl) rfl (by show 2 * 0 + _ ≤ _; exact Nat.le_of_eq rfl) (hb hby at_266) (by decide) (by decide) ?_
    intro v_207 h_208 bk_209 O_210 z_211 Q_212
    obtain ⟨rfl, rfl, rfl⟩ := Q_212
    refine k_pure (g' := (mkF m 277 #[.val (.int sl), .val (.int xa), .val (.int xb), .val (.int xc), .val (.int (1 : Int32)), .val (.int za), .val (.int zb), .val (.int zc), .val (.ref a_107), .val (.ref a_124), .val (.ref a_158), .val (.int (3 : Int32)), .val (.int (en (0 : Int32))), .val (.int (en ((16 : Int32) ||| (za >>> ((4 : Int32) &&& 31))))), .val (.int (en (((za &&& (15 : Int32)) <<< ((2 : Int32) &&& 31)) ||| (0 : Int32)))), .val (.int (en (zb &&& (63 : Int32)))), .val (.int (en (zc >>> ((2 : Int32) &&& 31)))), .val (.int (en ((zc &&& (3 : Int32)) <<< ((4 : Int32) &&& 31)))), .unset] [(.int (1 : Int32)), (.ref a_158)])) (fun TT HH tt kk => XS.iload HH hx rfl (hb hby at_269) rfl (XS.icmpNo HH hx rfl (hb hby at_271) rfl (teq rfl).2 (XS.aload HH hx rfl (hb hby at_274) rfl rfl (XS.iconst HH hx rfl (hb hby at_276) kk)))) ?_
    refine k_callV hx (y := (⟨"java/lang/String", "charAt", "(I)C"⟩ : MethodName)) (z := (⟨"java/lang/String", "charAt", "(I)C"⟩ : MethodName)) (wT 125 rfl) (wT 126 rfl) (fun s' hZ => notFace_of_selects (args := #[]) (mv hZ (wT 128 rfl))) (wT 128 rfl) (wT 127 rfl) (by decide) (W := 0) (a := a_158) (argsL := [(.int (1 : Int32))]) (rest := []) (Pays.of_met (rm_chL l Z a0 G1 G3 e0 tb kt hX hY n0 h_153 O_155 a_158 a_159 k_160 [en (0 : Int32), en ((16 : Int32) ||| (za >>> ((4 : Int32) &&& 31))), en (((za &&& (15 : Int32)) <<< ((2 : Int32) &&& 31)) ||| (0 : Int32))] 1 F_162 (by simp) []) (wT 129 rfl) (wT 86 rfl) (by decide) (by decide)) F_162.1 rfl (by rw [hml]; rfl) (lenOf pd__28_I_29_C rfl) rfl (by show 2 * 0 + _ ≤ _; exact Nat.le_of_eq rfl) (hb hby at_277) (by decide) (by decide) ?_
    intro v_213 h_214 bk_215 O_216 z_217 Q_218
    obtain ⟨rfl, rfl, rfl⟩ := Q_218
    refine k_pure (g' := (mkF m 290 #[.val (.int sl), .val (.int xa), .val (.int xb), .val (.int xc), .val (.int (1 : Int32)), .val (.int za), .val (.int zb), .val (.int zc), .val (.ref a_107), .val (.ref a_124), .val (.ref a_158), .val (.int (3 : Int32)), .val (.int (en (0 : Int32))), .val (.int (en ((16 : Int32) ||| (za >>> ((4 : Int32) &&& 31))))), .val (.int (en (((za &&& (15 : Int32)) <<< ((2 : Int32) &&& 31)) ||| (0 : Int32)))), .val (.int (en (zb &&& (63 : Int32)))), .val (.int (en (zc >>> ((2 : Int32) &&& 31)))), .val (.int (en ((zc &&& (3 : Int32)) <<< ((4 : Int32) &&& 31)))), .unset] [(.int (1 : Int32))])) (fun TT HH tt kk => XS.iload HH hx rfl (hb hby at_280) rfl (XS.icmpNo HH hx rfl (hb hby at_282) rfl (teq rfl).2 (XS.iconst HH hx rfl (hb hby at_285) (XS.goto HH hx rfl (pc0 := 286) (pc' := 290) rfl (hb hby at_286) (by decide) (by decide) kk)))) ?_
    refine k_pure (g' := (mkF m 299 #[.val (.int sl), .val (.int xa), .val (.int xb), .val (.int xc), .val (.int (1 : Int32)), .val (.int za), .val (.int zb), .val (.int zc), .val (.ref a_107), .val (.ref a_124), .val (.ref a_158), .val (.int (3 : Int32)), .val (.int (en (0 : Int32))), .val (.int (en ((16 : Int32) ||| (za >>> ((4 : Int32) &&& 31))))), .val (.int (en (((za &&& (15 : Int32)) <<< ((2 : Int32) &&& 31)) ||| (0 : Int32)))), .val (.int (en (zb &&& (63 : Int32)))), .val (.int (en (zc >>> ((2 : Int32) &&& 31)))), .val (.int (en ((zc &&& (3 : Int32)) <<< ((4 : Int32) &&& 31)))), .val (.int (1 : Int32))] [(.int (3 : Int32))])) (fun TT HH tt kk => XS.istore HH hx rfl (hb hby at_290) rfl (l' := #[.val (.int sl), .val (.int xa), .val (.int xb), .val (.int xc), .val (.int (1 : Int32)), .val (.int za), .val (.int zb), .val (.int zc), .val (.ref a_107), .val (.ref a_124), .val (.ref a_158), .val (.int (3 : Int32)), .val (.int (en (0 : Int32))), .val (.int (en ((16 : Int32) ||| (za >>> ((4 : Int32) &&& 31))))), .val (.int (en (((za &&& (15 : Int32)) <<< ((2 : Int32) &&& 31)) ||| (0 : Int32)))), .val (.int (en (zb &&& (63 : Int32)))), .val (.int (en (zc >>> ((2 : Int32) &&& 31)))), .val (.int (en ((zc &&& (3 : Int32)) <<< ((4 : Int32) &&& 31)))), .val (.int (1 : Int32))]) rfl (XS.iload HH hx rfl (hb hby at_292) rfl (XS.ifNo HH hx rfl (hb hby at_294) rfl ((if0 _ _).trans (feq (by decide : ¬ ((1 : Int32) = (0 : Int32)))).1) (XS.iload HH hx rfl (hb hby at_297) rfl kk)))) ?_
    refine k_pure (g' := (mkF m 306 #[.val (.int sl), .val (.int xa), .val (.int xb), .val (.int xc), .val (.int (1 : Int32)), .val (.int za), .val (.int zb), .val (.int zc), .val (.ref a_107), .val (.ref a_124), .val (.ref a_158), .val (.int (3 : Int32)), .val (.int (en (0 : Int32))), .val (.int (en ((16 : Int32) ||| (za >>> ((4 : Int32) &&& 31))))), .val (.int (en (((za &&& (15 : Int32)) <<< ((2 : Int32) &&& 31)) ||| (0 : Int32)))), .val (.int (en (zb &&& (63 : Int32)))), .val (.int (en (zc >>> ((2 : Int32) &&& 31)))), .val (.int (en ((zc &&& (3 : Int32)) <<< ((4 : Int32) &&& 31)))), .val (.int (1 : Int32))] [(.int (2 : Int32)), (.ref a_158)])) (fun TT HH tt kk => XS.iconst HH hx rfl (hb hby at_299) (XS.icmpNo HH hx rfl (hb hby at_300) rfl (flt (by decide : ¬ ((3 : Int32) < (3 : Int32)))).1 (XS.aload HH hx rfl (hb hby at_303) rfl rfl (XS.iconst HH hx rfl (hb hby at_305) kk)))) ?_
    refine k_callV hx (y := (⟨"java/lang/String", "charAt", "(I)C"⟩ : MethodName)) (z := (⟨"java/lang/String", "charAt", "(I)C"⟩ : MethodName)) (wT 125 rfl) (wT 126 rfl) (fun s' hZ => notFace_of_selects (args := #[]) (mv hZ (wT 128 rfl))) (wT 128 rfl) (wT 127 rfl) (by decide) (W := 0) (a := a_158) (argsL := [(.int (2 : Int32))]) (rest := []) (Pays.of_met (rm_chL l Z a0 G1 G3 e0 tb kt hX hY n0 h_153 O_155 a_158 a_159 k_160 [en (0 : Int32), en ((16 : Int32) ||| (za >>> ((4 : Int32) &&& 31))), en (((za &&& (15 : Int32)) <<< ((2 : Int32) &&& 31)) ||| (0 : Int32))] 2 F_162 (by simp) []) (wT 129 rfl) (wT 86 rfl) (by decide) (by decide)) F_162.1 rfl (by rw [hml]; rfl) (lenOf pd__28_I_29_C rfl) rfl (by show 2 * 0 + _ ≤ _; exact Nat.le_of_eq rfl) (hb hby at_306) (by decide) (by decide) ?_
    intro v_219 h_220 bk_221 O_222 z_223 Q_224
    obtain ⟨rfl, rfl, rfl⟩ := Q_224
    refine k_pure (g' := (mkF m 319 #[.val (.int sl), .val (.int xa), .val (.int xb), .val (.int xc), .val (.int (1 : Int32)), .val (.int za), .val (.int zb), .val (.int zc), .val (.ref a_107), .val (.ref a_124), .val (.ref a_158), .val (.int (3 : Int32)), .val (.int (en (0 : Int32))), .val (.int (en ((16 : Int32) ||| (za >>> ((4 : Int32) &&& 31))))), .val (.int (en (((za &&& (15 : Int32)) <<< ((2 : Int32) &&& 31)) ||| (0 : Int32)))), .val (.int (en (zb &&& (63 : Int32)))), .val (.int (en (zc >>> ((2 : Int32) &&& 31)))), .val (.int (en ((zc &&& (3 : Int32)) <<< ((4 : Int32) &&& 31)))), .val (.int (1 : Int32))] [(.int (1 : Int32))])) (fun TT HH tt kk => XS.iload HH hx rfl (hb hby at_309) rfl (XS.icmpNo HH hx rfl (hb hby at_311) rfl (teq rfl).2 (XS.iconst HH hx rfl (hb hby at_314) (XS.goto HH hx rfl (pc0 := 315) (pc' := 319) rfl (hb hby at_315) (by decide) (by decide) kk)))) ?_
    refine k_pure (g' := (mkF m 328 #[.val (.int sl), .val (.int xa), .val (.int xb), .val (.int xc), .val (.int (1 : Int32)), .val (.int za), .val (.int zb), .val (.int zc), .val (.ref a_107), .val (.ref a_124), .val (.ref a_158), .val (.int (3 : Int32)), .val (.int (en (0 : Int32))), .val (.int (en ((16 : Int32) ||| (za >>> ((4 : Int32) &&& 31))))), .val (.int (en (((za &&& (15 : Int32)) <<< ((2 : Int32) &&& 31)) ||| (0 : Int32)))), .val (.int (en (zb &&& (63 : Int32)))), .val (.int (en (zc >>> ((2 : Int32) &&& 31)))), .val (.int (en ((zc &&& (3 : Int32)) <<< ((4 : Int32) &&& 31)))), .val (.int (1 : Int32))] [(.int (3 : Int32))])) (fun TT HH tt kk => XS.istore HH hx rfl (hb hby at_319) rfl (l' := #[.val (.int sl), .val (.int xa), .val (.int xb), .val (.int xc), .val (.int (1 : Int32)), .val (.int za), .val (.int zb), .val (.int zc), .val (.ref a_107), .val (.ref a_124), .val (.ref a_158), .val (.int (3 : Int32)), .val (.int (en (0 : Int32))), .val (.int (en ((16 : Int32) ||| (za >>> ((4 : Int32) &&& 31))))), .val (.int (en (((za &&& (15 : Int32)) <<< ((2 : Int32) &&& 31)) ||| (0 : Int32)))), .val (.int (en (zb &&& (63 : Int32)))), .val (.int (en (zc >>> ((2 : Int32) &&& 31)))), .val (.int (en ((zc &&& (3 : Int32)) <<< ((4 : Int32) &&& 31)))), .val (.int (1 : Int32))]) rfl (XS.iload HH hx rfl (hb hby at_321) rfl (XS.ifNo HH hx rfl (hb hby at_323) rfl ((if0 _ _).trans (feq (by decide : ¬ ((1 : Int32) = (0 : Int32)))).1) (XS.iload HH hx rfl (hb hby at_326) rfl kk)))) ?_
    refine k_pure (g' := (mkF m 355 #[.val (.int sl), .val (.int xa), .val (.int xb), .val (.int xc), .val (.int (1 : Int32)), .val (.int za), .val (.int zb), .val (.int zc), .val (.ref a_107), .val (.ref a_124), .val (.ref a_158), .val (.int (3 : Int32)), .val (.int (en (0 : Int32))), .val (.int (en ((16 : Int32) ||| (za >>> ((4 : Int32) &&& 31))))), .val (.int (en (((za &&& (15 : Int32)) <<< ((2 : Int32) &&& 31)) ||| (0 : Int32)))), .val (.int (en (zb &&& (63 : Int32)))), .val (.int (en (zc >>> ((2 : Int32) &&& 31)))), .val (.int (en ((zc &&& (3 : Int32)) <<< ((4 : Int32) &&& 31)))), .val (.int (1 : Int32))] [])) (fun TT HH tt kk => XS.iconst HH hx rfl (hb hby at_328) (XS.icmpYes HH hx rfl (pc0 := 329) (pc' := 350) rfl (hb hby at_329) rfl (tlt (by decide : ((3 : Int32) < (4 : Int32)))).1 (by decide) (by decide) (XS.iload HH hx rfl (hb hby at_350) rfl (XS.ifNo HH hx rfl (hb hby at_352) rfl ((if0 _ _).trans (feq (by decide : ¬ ((1 : Int32) = (0 : Int32)))).1) kk)))) ?_
    refine k_pure (g' := (mkF m 393 #[.val (.int sl), .val (.int xa), .val (.int xb), .val (.int xc), .val (.int (1 : Int32)), .val (.int za), .val (.int zb), .val (.int zc), .val (.ref a_107), .val (.ref a_124), .val (.ref a_158), .val (.int (3 : Int32)), .val (.int (en (0 : Int32))), .val (.int (en ((16 : Int32) ||| (za >>> ((4 : Int32) &&& 31))))), .val (.int (en (((za &&& (15 : Int32)) <<< ((2 : Int32) &&& 31)) ||| (0 : Int32)))), .val (.int (en (zb &&& (63 : Int32)))), .val (.int (en (zc >>> ((2 : Int32) &&& 31)))), .val (.int (en ((zc &&& (3 : Int32)) <<< ((4 : Int32) &&& 31)))), .val (.int (1 : Int32))] [(.int (1 : Int32))])) (fun TT HH tt kk => XS.iload HH hx rfl (hb hby at_355) rfl (XS.bipush HH hx rfl (hb hby at_357) (XS.icmpYes HH hx rfl (pc0 := 359) (pc' := 391) rfl (hb hby at_359) rfl (tlt (by decide : ((3 : Int32) < (6 : Int32)))).1 (by decide) (by decide) (XS.iload HH hx rfl (hb hby at_391) rfl kk)))) ?_
    exact k_retN hx hlk hret (by simp) (hb hby at_393) (by decide) (by decide) ⟨rfl, rfl, ((((((Keep.refl _ _).ext E_112).wr W_120 (Or.inr (by omega))).ext E_127).trans K_144 (kkS (Or.inr (by omega)) kk0)).trans K_161 kk0)⟩
  · show Run p l e _ s m _ below meth c Z EL1 _ n0 NoB h0 0 0 (mkF m 26 #[.val (.int sl), .val (.int xa), .val (.int xb), .val (.int xc), .val (.int (2 : Int32)), .val (.int za), .val (.int zb), .val (.int zc), .unset, .unset, .unset, .unset, .unset, .unset, .unset, .unset, .unset, .unset, .unset] []) _
    refine k_pure (g' := (mkF m 42 #[.val (.int sl), .val (.int xa), .val (.int xb), .val (.int xc), .val (.int (2 : Int32)), .val (.int za), .val (.int zb), .val (.int zc), .unset, .unset, .unset, .unset, .unset, .unset, .unset, .unset, .unset, .unset, .unset] [(.int (1 : Int32)), (.int (2 : Int32))])) (fun TT HH tt kk => XS.iload HH hx rfl (hb hby at_26) rfl (XS.ifYes HH hx rfl (pc0 := 28) (pc' := 39) rfl (hb hby at_28) rfl ((if0 _ _).trans (feq (by decide : ¬ ((2 : Int32) = (0 : Int32)))).2) (by decide) (by decide) (XS.iload HH hx rfl (hb hby at_39) rfl (XS.iconst HH hx rfl (hb hby at_41) kk)))) ?_
    refine k_pure (g' := (mkF m 65 #[.val (.int sl), .val (.int xa), .val (.int xb), .val (.int xc), .val (.int (2 : Int32)), .val (.int za), .val (.int zb), .val (.int zc), .unset, .unset, .unset, .unset, .unset, .unset, .unset, .unset, .unset, .unset, .unset] [])) (fun TT HH tt kk => XS.icmpYes HH hx rfl (pc0 := 42) (pc' := 59) rfl (hb hby at_42) rfl (feq (by decide : ¬ ((2 : Int32) = (1 : Int32)))).2 (by decide) (by decide) (XS.iload HH hx rfl (hb hby at_59) rfl (XS.iconst HH hx rfl (hb hby at_61) (XS.icmpNo HH hx rfl (hb hby at_62) rfl (teq (by decide : ((2 : Int32) = (2 : Int32)))).2 kk)))) ?_
    refine k_pure (g' := (mkF m 66 #[.val (.int sl), .val (.int xa), .val (.int xb), .val (.int xc), .val (.int (2 : Int32)), .val (.int za), .val (.int zb), .val (.int zc), .unset, .unset, .unset, .unset, .unset, .unset, .unset, .unset, .unset, .unset, .unset] [(.int (2 : Int32))])) (fun _ J _ j => XS.iconst J hx rfl (hb hby at_65) j) ?_
    refine k_newP hx (wT 0 rfl) rfl (hb hby at_66) rfl (by decide) (cap := 2) (by decide) (by decide) (by decide) (by decide) "[B" (by decide +kernel) ?_
    intro h_226 a_225 k_227 g_228 O_229 E_230 A_231 X_232
    have z_233 := E_230.1
    have lt_234 : @LT.lt Nat _ a_225 (Array.size h_226) := A_231.lt
    have V_235 : Arv Z h_226 a_225 k_227 .byte (2 : Int32) [(.int (0 : Int32)), (.int (0 : Int32))] (.int (0 : Int32)) := Arv.pad A_231 (pad_rep [] (.int (0 : Int32)) 2)
    refine k_pure (g' := (mkF m 73 #[.val (.int sl), .val (.int xa), .val (.int xb), .val (.int xc), .val (.int (2 : Int32)), .val (.int za), .val (.int zb), .val (.int zc), .unset, .unset, .unset, .unset, .unset, .unset, .unset, .unset, .unset, .unset, .unset] [(.int (za.toInt8.toInt32)), (.int (0 : Int32)), (.ref a_225), (.ref a_225)])) (fun TT HH tt kk => XS.dup HH hx rfl (hb hby at_68) rfl rfl (XS.iconst HH hx rfl (hb hby at_69) (XS.iload HH hx rfl (hb hby at_70) rfl (XS.i2b HH hx rfl (hb hby at_72) rfl kk)))) ?_
    refine k_stB hx V_235 ⟨by decide, by decide⟩ 0 (by decide) (Nat.le_of_ble_eq_true rfl) (by omega) (fun q => q) rfl rfl (hb hby at_73) ?_
    intro h_236 O_237 W_238 A_239
    have z_240 := W_238.size
    have V_241 : Arv Z h_236 a_225 k_227 .byte (2 : Int32) [(.int (za.toInt8.toInt32)), (.int (0 : Int32))] (.int (0 : Int32)) := by rw [u_narb] at A_239; exact A_239
    refine k_pure (g' := (mkF m 79 #[.val (.int sl), .val (.int xa), .val (.int xb), .val (.int xc), .val (.int (2 : Int32)), .val (.int za), .val (.int zb), .val (.int zc), .unset, .unset, .unset, .unset, .unset, .unset, .unset, .unset, .unset, .unset, .unset] [(.int (zb.toInt8.toInt32)), (.int (1 : Int32)), (.ref a_225), (.ref a_225)])) (fun TT HH tt kk => XS.dup HH hx rfl (hb hby at_74) rfl rfl (XS.iconst HH hx rfl (hb hby at_75) (XS.iload HH hx rfl (hb hby at_76) rfl (XS.i2b HH hx rfl (hb hby at_78) rfl kk)))) ?_
    refine k_stB hx V_241 ⟨by decide, by decide⟩ 1 (by decide) (Nat.le_of_ble_eq_true rfl) (by omega) (fun q => q) rfl rfl (hb hby at_79) ?_
    intro h_242 O_243 W_244 A_245
    have z_246 := W_244.size
    have V_247 : Arv Z h_242 a_225 k_227 .byte (2 : Int32) [(.int (za.toInt8.toInt32)), (.int (zb.toInt8.toInt32))] (.int (0 : Int32)) := by rw [u_narb] at A_245; exact A_245
    refine k_pure (g' := (mkF m 108 #[.val (.int sl), .val (.int xa), .val (.int xb), .val (.int xc), .val (.int (2 : Int32)), .val (.int za), .val (.int zb), .val (.int zc), .val (.ref a_225), .unset, .unset, .unset, .unset, .unset, .unset, .unset, .unset, .unset, .unset] [])) (fun TT HH tt kk => XS.astore HH hx rfl (hb hby at_80) rfl rfl (l' := #[.val (.int sl), .val (.int xa), .val (.int xb), .val (.int xc), .val (.int (2 : Int32)), .val (.int za), .val (.int zb), .val (.int zc), .val (.ref a_225), .unset, .unset, .unset, .unset, .unset, .unset, .unset, .unset, .unset, .unset]) rfl (XS.goto HH hx rfl (pc0 := 82) (pc' := 108) rfl (hb hby at_82) (by decide) (by decide) kk)) ?_
    refine k_newO hx (wT 1 rfl) (wT 2 rfl) (wT 3 rfl) rfl (hb hby at_108) (by decide) (by decide) ?_
    intro h_249 a_248 g_255 O_250 E_251 A_252 D_253 U_254
    have z_256 := E_251.1
    have lt_257 : @LT.lt Nat _ a_248 (Array.size h_249) := A_252.lt
    refine k_pure (g' := (mkF m 114 #[.val (.int sl), .val (.int xa), .val (.int xb), .val (.int xc), .val (.int (2 : Int32)), .val (.int za), .val (.int zb), .val (.int zc), .val (.ref a_225), .unset, .unset, .unset, .unset, .unset, .unset, .unset, .unset, .unset, .unset] [(.ref a_225), (.ref a_248), (.ref a_248)])) (fun TT HH tt kk => XS.dup HH hx rfl (hb hby at_111) rfl rfl (XS.aload HH hx rfl (hb hby at_112) rfl rfl kk)) ?_
    have F_258 : Exa Z h_249 a_225 "[B" := (((X_232.wr W_238).wr W_244).ext E_251)
    have F_259 : Arv Z h_249 a_225 k_227 .byte (2 : Int32) [(.int (za.toInt8.toInt32)), (.int (zb.toInt8.toInt32))] (.int (0 : Int32)) := (V_247.ext E_251)
    refine k_callI hx (y := (⟨"com/example/lean_entities/leanentities/session/Cursor", "<init>", "([B)V"⟩ : MethodName)) rfl (wT 4 rfl) (wT 5 rfl) (wT 6 rfl) (by decide) (W := 1) (a := a_248) (argsL := [(.ref a_225)]) (rest := [(.ref a_248)]) (Pays.of_met (rm_cin2 l Z a0 G1 G3 e0 tb kt hX hY n0 h_249 O_250 a_248 a_225 k_227 za zb A_252 (D_253 (Or.inr (wT 20 rfl)) (ty := (.array .byte)) (by decide)) F_258 F_259 (by omega) []) (wT 6 rfl) (wT 3 rfl) (by decide) (by decide)) rfl (by rw [hml]; rfl) (lenOf pd__28__5b_B_29_V rfl) rfl (by show 2 * 0 + _ ≤ _; exact Nat.le_of_eq rfl) (hb hby at_114) (by decide) (by decide) ?_
    intro v_260 h_261 bk_262 O_263 z_264 Q_265
    obtain ⟨a_266, k_267, rfl, rfl, K_268, F_269, F_270, F_271, P_272⟩ := Q_265
    have lt_273 : @LT.lt Nat _ a_248 (Array.size h_261) := F_269.lt
    have lt_274 : @LT.lt Nat _ a_248 (Array.size h_261) := F_270.lt
    have lt_275 : @LT.lt Nat _ a_266 (Array.size h_261) := F_271.lt
    refine k_pure (g' := (mkF m 121 #[.val (.int sl), .val (.int xa), .val (.int xb), .val (.int xc), .val (.int (2 : Int32)), .val (.int za), .val (.int zb), .val (.int zc), .val (.ref a_225), .val (.ref a_248), .unset, .unset, .unset, .unset, .unset, .unset, .unset, .unset, .unset] [(.ref a_248)])) (fun TT HH tt kk => XS.astore HH hx rfl (hb hby at_117) rfl rfl (l' := #[.val (.int sl), .val (.int xa), .val (.int xb), .val (.int xc), .val (.int (2 : Int32)), .val (.int za), .val (.int zb), .val (.int zc), .val (.ref a_225), .val (.ref a_248), .unset, .unset, .unset, .unset, .unset, .unset, .unset, .unset, .unset]) rfl (XS.aload HH hx rfl (hb hby at_119) rfl rfl kk)) ?_
    refine k_callV hx (y := (⟨"com/example/lean_entities/leanentities/session/Cursor", "toWebSafeString", "()Ljava/lang/String;"⟩ : MethodName)) (z := (⟨"com/example/lean_entities/leanentities/session/Cursor", "toWebSafeString", "()Ljava/lang/String;"⟩ : MethodName)) (wT 21 rfl) (wT 22 rfl) (fun s' hZ => notFace_of_selects (args := #[]) (mv hZ (wT 24 rfl))) (wT 24 rfl) (wT 23 rfl) (by decide) (W := 0) (a := a_248) (argsL := []) (rest := []) (Pays.of_met (rm_tow2 l Z a0 G1 G3 e0 tb kt hX hY n0 h_261 O_263 a_248 a_266 k_267 za zb F_269 F_270 F_271 b_za b_zb []) (wT 25 rfl) (wT 3 rfl) (by decide) (by decide)) F_269 rfl (by rw [hml]; rfl) (lenOf pd__28__29_Ljava_2f_lang_2f_String_3b_ rfl) rfl (by show 2 * 0 + _ ≤ _; exact Nat.le_of_eq rfl) (hb hby at_121) (by decide) (by decide) ?_
    intro v_276 h_277 bk_278 O_279 z_280 Q_281
    obtain ⟨a_282, a_283, k_284, rfl, rfl, K_285, F_286⟩ := Q_281
    have lt_287 : @LT.lt Nat _ a_282 (Array.size h_277) := F_286.lt1
    have lt_288 : @LT.lt Nat _ a_283 (Array.size h_277) := F_286.lt2
    refine k_pure (g' := (mkF m 139 #[.val (.int sl), .val (.int xa), .val (.int xb), .val (.int xc), .val (.int (2 : Int32)), .val (.int za), .val (.int zb), .val (.int zc), .val (.ref a_225), .val (.ref a_248), .val (.ref a_282), .unset, .unset, .unset, .unset, .unset, .unset, .unset, .unset] [(.int (2 : Int32))])) (fun TT HH tt kk => XS.astore HH hx rfl (hb hby at_124) rfl rfl (l' := #[.val (.int sl), .val (.int xa), .val (.int xb), .val (.int xc), .val (.int (2 : Int32)), .val (.int za), .val (.int zb), .val (.int zc), .val (.ref a_225), .val (.ref a_248), .val (.ref a_282), .unset, .unset, .unset, .unset, .unset, .unset, .unset, .unset]) rfl (XS.iload HH hx rfl (hb hby at_126) rfl (XS.ifYes HH hx rfl (pc0 := 128) (pc' := 137) rfl (hb hby at_128) rfl ((if0 _ _).trans (feq (by decide : ¬ ((2 : Int32) = (0 : Int32)))).2) (by decide) (by decide) (XS.iload HH hx rfl (hb hby at_137) rfl kk)))) ?_
    refine k_pure (g' := (mkF m 152 #[.val (.int sl), .val (.int xa), .val (.int xb), .val (.int xc), .val (.int (2 : Int32)), .val (.int za), .val (.int zb), .val (.int zc), .val (.ref a_225), .val (.ref a_248), .val (.ref a_282), .unset, .unset, .unset, .unset, .unset, .unset, .unset, .unset] [(.int (2 : Int32)), (.int (2 : Int32))])) (fun TT HH tt kk => XS.iconst HH hx rfl (hb hby at_139) (XS.icmpYes HH hx rfl (pc0 := 140) (pc' := 149) rfl (hb hby at_140) rfl (feq (by decide : ¬ ((2 : Int32) = (1 : Int32)))).2 (by decide) (by decide) (XS.iload HH hx rfl (hb hby at_149) rfl (XS.iconst HH hx rfl (hb hby at_151) kk)))) ?_
    refine k_pure (g' := (mkF m 165 #[.val (.int sl), .val (.int xa), .val (.int xb), .val (.int xc), .val (.int (2 : Int32)), .val (.int za), .val (.int zb), .val (.int zc), .val (.ref a_225), .val (.ref a_248), .val (.ref a_282), .val (.int (4 : Int32)), .unset, .unset, .unset, .unset, .unset, .unset, .unset] [])) (fun TT HH tt kk => XS.icmpNo HH hx rfl (hb hby at_152) rfl (teq (by decide : ((2 : Int32) = (2 : Int32)))).2 (XS.iconst HH hx rfl (hb hby at_155) (XS.istore HH hx rfl (hb hby at_156) rfl (l' := #[.val (.int sl), .val (.int xa), .val (.int xb), .val (.int xc), .val (.int (2 : Int32)), .val (.int za), .val (.int zb), .val (.int zc), .val (.ref a_225), .val (.ref a_248), .val (.ref a_282), .val (.int (4 : Int32)), .unset, .unset, .unset, .unset, .unset, .unset, .unset]) rfl (XS.goto HH hx rfl (pc0 := 158) (pc' := 165) rfl (hb hby at_158) (by decide) (by decide) kk)))) ?_
    refine k_pure (g' := (mkF m 166 #[.val (.int sl), .val (.int xa), .val (.int xb), .val (.int xc), .val (.int (2 : Int32)), .val (.int za), .val (.int zb), .val (.int zc), .val (.ref a_225), .val (.ref a_248), .val (.ref a_282), .val (.int (4 : Int32)), .unset, .unset, .unset, .unset, .unset, .unset, .unset] [(.int (0 : Int32))])) (fun _ J _ j => XS.iconst J hx rfl (hb hby at_165) j) ?_
    refine k_callS hx (y := (⟨"com/example/lean_entities/leanentities/session/CursorToWebSafeStringPinLaw", "enc", "(I)C"⟩ : MethodName)) (wT 111 rfl) (wT 112 rfl) (wT 113 rfl) (wT 114 rfl) (by decide) (W := 0) (argsL := [(.int (0 : Int32))]) (rest := []) (Pays.of_met (rm_enc l Z a0 G1 G3 e0 tb kt hX hY n0 h_277 O_279 (0 : Int32) (by decide) []) (wT 114 rfl) (wT 113 rfl) (by decide) (by decide)) rfl (by rw [hml]; rfl) (lenOf pd__28_I_29_C rfl) rfl (by show 2 * 0 + _ ≤ _; exact Nat.le_of_eq rfl) (hb hby at_166) (by decide) (by decide) ?_
    intro v_289 h_290 bk_291 O_292 z_293 Q_294
    obtain ⟨rfl, rfl, rfl⟩ := Q_294
    refine k_pure (g' := (mkF m 176 #[.val (.int sl), .val (.int xa), .val (.int xb), .val (.int xc), .val (.int (2 : Int32)), .val (.int za), .val (.int zb), .val (.int zc), .val (.ref a_225), .val (.ref a_248), .val (.ref a_282), .val (.int (4 : Int32)), .val (.int (en (0 : Int32))), .unset, .unset, .unset, .unset, .unset, .unset] [(.int (1 : Int32)), (.int (2 : Int32)), (.int (16 : Int32))])) (fun TT HH tt kk => XS.istore HH hx rfl (hb hby at_169) rfl (l' := #[.val (.int sl), .val (.int xa), .val (.int xb), .val (.int xc), .val (.int (2 : Int32)), .val (.int za), .val (.int zb), .val (.int zc), .val (.ref a_225), .val (.ref a_248), .val (.ref a_282), .val (.int (4 : Int32)), .val (.int (en (0 : Int32))), .unset, .unset, .unset, .unset, .unset, .unset]) rfl (XS.bipush HH hx rfl (hb hby at_171) (XS.iload HH hx rfl (hb hby at_173) rfl (XS.iconst HH hx rfl (hb hby at_175) kk)))) ?_
    refine k_pure (g' := (mkF m 183 #[.val (.int sl), .val (.int xa), .val (.int xb), .val (.int xc), .val (.int (2 : Int32)), .val (.int za), .val (.int zb), .val (.int zc), .val (.ref a_225), .val (.ref a_248), .val (.ref a_282), .val (.int (4 : Int32)), .val (.int (en (0 : Int32))), .unset, .unset, .unset, .unset, .unset, .unset] [(.int (za >>> ((4 : Int32) &&& 31))), (.int (16 : Int32))])) (fun TT HH tt kk => XS.icmpNo HH hx rfl (hb hby at_176) rfl (flt (by decide : ¬ ((2 : Int32) < (1 : Int32)))).1 (XS.iload HH hx rfl (hb hby at_179) rfl (XS.iconst HH hx rfl (hb hby at_181) (XS.ishr HH hx rfl (hb hby at_182) rfl kk)))) ?_
    refine k_pure (g' := (mkF m 188 #[.val (.int sl), .val (.int xa), .val (.int xb), .val (.int xc), .val (.int (2 : Int32)), .val (.int za), .val (.int zb), .val (.int zc), .val (.ref a_225), .val (.ref a_248), .val (.ref a_282), .val (.int (4 : Int32)), .val (.int (en (0 : Int32))), .unset, .unset, .unset, .unset, .unset, .unset] [(.int ((16 : Int32) ||| (za >>> ((4 : Int32) &&& 31))))])) (fun TT HH tt kk => XS.goto HH hx rfl (pc0 := 183) (pc' := 187) rfl (hb hby at_183) (by decide) (by decide) (XS.ior HH hx rfl (hb hby at_187) rfl kk)) ?_
    refine k_callS hx (y := (⟨"com/example/lean_entities/leanentities/session/CursorToWebSafeStringPinLaw", "enc", "(I)C"⟩ : MethodName)) (wT 111 rfl) (wT 112 rfl) (wT 113 rfl) (wT 114 rfl) (by decide) (W := 0) (argsL := [(.int ((16 : Int32) ||| (za >>> ((4 : Int32) &&& 31))))]) (rest := []) (Pays.of_met (rm_enc l Z a0 G1 G3 e0 tb kt hX hY n0 h_277 O_279 ((16 : Int32) ||| (za >>> ((4 : Int32) &&& 31))) (by have r0 : (16 : Int32).toInt = 16 := (by decide); have r1 := rng32 za; have r2 : (za >>> ((4 : Int32) &&& 31)).toInt = za.toInt / 16 := (c_ishr za (4 : Int32) 4 (by decide)); have r3 := rng32 (za >>> ((4 : Int32) &&& 31)); have r4 := rng32 ((16 : Int32) ||| (za >>> ((4 : Int32) &&& 31))); have r5 := t1 b_za; have r6 := b_za; omega) []) (wT 114 rfl) (wT 113 rfl) (by decide) (by decide)) rfl (by rw [hml]; rfl) (lenOf pd__28_I_29_C rfl) rfl (by show 2 * 0 + _ ≤ _; exact Nat.le_of_eq rfl) (hb hby at_188) (by decide) (by decide) ?_
    intro v_295 h_296 bk_297 O_298 z_299 Q_300
    obtain ⟨rfl, rfl, rfl⟩ := Q_300
    refine k_pure (g' := (mkF m 198 #[.val (.int sl), .val (.int xa), .val (.int xb), .val (.int xc), .val (.int (2 : Int32)), .val (.int za), .val (.int zb), .val (.int zc), .val (.ref a_225), .val (.ref a_248), .val (.ref a_282), .val (.int (4 : Int32)), .val (.int (en (0 : Int32))), .val (.int (en ((16 : Int32) ||| (za >>> ((4 : Int32) &&& 31))))), .unset, .unset, .unset, .unset, .unset] [(.int (za &&& (15 : Int32)))])) (fun TT HH tt kk => XS.istore HH hx rfl (hb hby at_191) rfl (l' := #[.val (.int sl), .val (.int xa), .val (.int xb), .val (.int xc), .val (.int (2 : Int32)), .val (.int za), .val (.int zb), .val (.int zc), .val (.ref a_225), .val (.ref a_248), .val (.ref a_282), .val (.int (4 : Int32)), .val (.int (en (0 : Int32))), .val (.int (en ((16 : Int32) ||| (za >>> ((4 : Int32) &&& 31))))), .unset, .unset, .unset, .unset, .unset]) rfl (XS.iload HH hx rfl (hb hby at_193) rfl (XS.bipush HH hx rfl (hb hby at_195) (XS.iand HH hx rfl (hb hby at_197) rfl kk)))) ?_
    refine k_pure (g' := (mkF m 203 #[.val (.int sl), .val (.int xa), .val (.int xb), .val (.int xc), .val (.int (2 : Int32)), .val (.int za), .val (.int zb), .val (.int zc), .val (.ref a_225), .val (.ref a_248), .val (.ref a_282), .val (.int (4 : Int32)), .val (.int (en (0 : Int32))), .val (.int (en ((16 : Int32) ||| (za >>> ((4 : Int32) &&& 31))))), .unset, .unset, .unset, .unset, .unset] [(.int (2 : Int32)), (.int (2 : Int32)), (.int ((za &&& (15 : Int32)) <<< ((2 : Int32) &&& 31)))])) (fun TT HH tt kk => XS.iconst HH hx rfl (hb hby at_198) (XS.ishl HH hx rfl (hb hby at_199) rfl (XS.iload HH hx rfl (hb hby at_200) rfl (XS.iconst HH hx rfl (hb hby at_202) kk)))) ?_
    refine k_pure (g' := (mkF m 211 #[.val (.int sl), .val (.int xa), .val (.int xb), .val (.int xc), .val (.int (2 : Int32)), .val (.int za), .val (.int zb), .val (.int zc), .val (.ref a_225), .val (.ref a_248), .val (.ref a_282), .val (.int (4 : Int32)), .val (.int (en (0 : Int32))), .val (.int (en ((16 : Int32) ||| (za >>> ((4 : Int32) &&& 31))))), .unset, .unset, .unset, .unset, .unset] [(.int (zb >>> ((6 : Int32) &&& 31))), (.int ((za &&& (15 : Int32)) <<< ((2 : Int32) &&& 31)))])) (fun TT HH tt kk => XS.icmpNo HH hx rfl (hb hby at_203) rfl (flt (by decide : ¬ ((2 : Int32) < (2 : Int32)))).1 (XS.iload HH hx rfl (hb hby at_206) rfl (XS.bipush HH hx rfl (hb hby at_208) (XS.ishr HH hx rfl (hb hby at_210) rfl kk)))) ?_
    refine k_pure (g' := (mkF m 216 #[.val (.int sl), .val (.int xa), .val (.int xb), .val (.int xc), .val (.int (2 : Int32)), .val (.int za), .val (.int zb), .val (.int zc), .val (.ref a_225), .val (.ref a_248), .val (.ref a_282), .val (.int (4 : Int32)), .val (.int (en (0 : Int32))), .val (.int (en ((16 : Int32) ||| (za >>> ((4 : Int32) &&& 31))))), .unset, .unset, .unset, .unset, .unset] [(.int (((za &&& (15 : Int32)) <<< ((2 : Int32) &&& 31)) ||| (zb >>> ((6 : Int32) &&& 31))))])) (fun TT HH tt kk => XS.goto HH hx rfl (pc0 := 211) (pc' := 215) rfl (hb hby at_211) (by decide) (by decide) (XS.ior HH hx rfl (hb hby at_215) rfl kk)) ?_
    refine k_callS hx (y := (⟨"com/example/lean_entities/leanentities/session/CursorToWebSafeStringPinLaw", "enc", "(I)C"⟩ : MethodName)) (wT 111 rfl) (wT 112 rfl) (wT 113 rfl) (wT 114 rfl) (by decide) (W := 0) (argsL := [(.int (((za &&& (15 : Int32)) <<< ((2 : Int32) &&& 31)) ||| (zb >>> ((6 : Int32) &&& 31))))]) (rest := []) (Pays.of_met (rm_enc l Z a0 G1 G3 e0 tb kt hX hY n0 h_277 O_279 (((za &&& (15 : Int32)) <<< ((2 : Int32) &&& 31)) ||| (zb >>> ((6 : Int32) &&& 31))) (by have r0 := rng32 za; have r1 : (za &&& (15 : Int32)).toInt = za.toInt % 16 := (c_mask za (15 : Int32) 4 (by decide) (by decide)); have r2 := rng32 (za &&& (15 : Int32)); have r3 : (((za &&& (15 : Int32)) <<< ((2 : Int32) &&& 31)).toInt - (za &&& (15 : Int32)).toInt * 4) % 4294967296 = 0 := (c_ishl (za &&& (15 : Int32)) (2 : Int32) 2 (by decide)); have r4 := rng32 ((za &&& (15 : Int32)) <<< ((2 : Int32) &&& 31)); have r5 := rng32 zb; have r6 : (zb >>> ((6 : Int32) &&& 31)).toInt = zb.toInt / 64 := (c_ishr zb (6 : Int32) 6 (by decide)); have r7 := rng32 (zb >>> ((6 : Int32) &&& 31)); have r8 := rng32 (((za &&& (15 : Int32)) <<< ((2 : Int32) &&& 31)) ||| (zb >>> ((6 : Int32) &&& 31))); have r9 := t2 b_za b_zb; have r10 := b_za; have r11 := b_zb; omega) []) (wT 114 rfl) (wT 113 rfl) (by decide) (by decide)) rfl (by rw [hml]; rfl) (lenOf pd__28_I_29_C rfl) rfl (by show 2 * 0 + _ ≤ _; exact Nat.le_of_eq rfl) (hb hby at_216) (by decide) (by decide) ?_
    intro v_301 h_302 bk_303 O_304 z_305 Q_306
    obtain ⟨rfl, rfl, rfl⟩ := Q_306
    refine k_pure (g' := (mkF m 226 #[.val (.int sl), .val (.int xa), .val (.int xb), .val (.int xc), .val (.int (2 : Int32)), .val (.int za), .val (.int zb), .val (.int zc), .val (.ref a_225), .val (.ref a_248), .val (.ref a_282), .val (.int (4 : Int32)), .val (.int (en (0 : Int32))), .val (.int (en ((16 : Int32) ||| (za >>> ((4 : Int32) &&& 31))))), .val (.int (en (((za &&& (15 : Int32)) <<< ((2 : Int32) &&& 31)) ||| (zb >>> ((6 : Int32) &&& 31))))), .unset, .unset, .unset, .unset] [(.int (zb &&& (63 : Int32)))])) (fun TT HH tt kk => XS.istore HH hx rfl (hb hby at_219) rfl (l' := #[.val (.int sl), .val (.int xa), .val (.int xb), .val (.int xc), .val (.int (2 : Int32)), .val (.int za), .val (.int zb), .val (.int zc), .val (.ref a_225), .val (.ref a_248), .val (.ref a_282), .val (.int (4 : Int32)), .val (.int (en (0 : Int32))), .val (.int (en ((16 : Int32) ||| (za >>> ((4 : Int32) &&& 31))))), .val (.int (en (((za &&& (15 : Int32)) <<< ((2 : Int32) &&& 31)) ||| (zb >>> ((6 : Int32) &&& 31))))), .unset, .unset, .unset, .unset]) rfl (XS.iload HH hx rfl (hb hby at_221) rfl (XS.bipush HH hx rfl (hb hby at_223) (XS.iand HH hx rfl (hb hby at_225) rfl kk)))) ?_
    refine k_callS hx (y := (⟨"com/example/lean_entities/leanentities/session/CursorToWebSafeStringPinLaw", "enc", "(I)C"⟩ : MethodName)) (wT 111 rfl) (wT 112 rfl) (wT 113 rfl) (wT 114 rfl) (by decide) (W := 0) (argsL := [(.int (zb &&& (63 : Int32)))]) (rest := []) (Pays.of_met (rm_enc l Z a0 G1 G3 e0 tb kt hX hY n0 h_277 O_279 (zb &&& (63 : Int32)) (by have r0 := rng32 zb; have r1 : (zb &&& (63 : Int32)).toInt = zb.toInt % 64 := (c_mask zb (63 : Int32) 6 (by decide) (by decide)); have r2 := rng32 (zb &&& (63 : Int32)); have r3 := b_zb; omega) []) (wT 114 rfl) (wT 113 rfl) (by decide) (by decide)) rfl (by rw [hml]; rfl) (lenOf pd__28_I_29_C rfl) rfl (by show 2 * 0 + _ ≤ _; exact Nat.le_of_eq rfl) (hb hby at_226) (by decide) (by decide) ?_
    intro v_307 h_308 bk_309 O_310 z_311 Q_312
    obtain ⟨rfl, rfl, rfl⟩ := Q_312
    refine k_pure (g' := (mkF m 235 #[.val (.int sl), .val (.int xa), .val (.int xb), .val (.int xc), .val (.int (2 : Int32)), .val (.int za), .val (.int zb), .val (.int zc), .val (.ref a_225), .val (.ref a_248), .val (.ref a_282), .val (.int (4 : Int32)), .val (.int (en (0 : Int32))), .val (.int (en ((16 : Int32) ||| (za >>> ((4 : Int32) &&& 31))))), .val (.int (en (((za &&& (15 : Int32)) <<< ((2 : Int32) &&& 31)) ||| (zb >>> ((6 : Int32) &&& 31))))), .val (.int (en (zb &&& (63 : Int32)))), .unset, .unset, .unset] [(.int (zc >>> ((2 : Int32) &&& 31)))])) (fun TT HH tt kk => XS.istore HH hx rfl (hb hby at_229) rfl (l' := #[.val (.int sl), .val (.int xa), .val (.int xb), .val (.int xc), .val (.int (2 : Int32)), .val (.int za), .val (.int zb), .val (.int zc), .val (.ref a_225), .val (.ref a_248), .val (.ref a_282), .val (.int (4 : Int32)), .val (.int (en (0 : Int32))), .val (.int (en ((16 : Int32) ||| (za >>> ((4 : Int32) &&& 31))))), .val (.int (en (((za &&& (15 : Int32)) <<< ((2 : Int32) &&& 31)) ||| (zb >>> ((6 : Int32) &&& 31))))), .val (.int (en (zb &&& (63 : Int32)))), .unset, .unset, .unset]) rfl (XS.iload HH hx rfl (hb hby at_231) rfl (XS.iconst HH hx rfl (hb hby at_233) (XS.ishr HH hx rfl (hb hby at_234) rfl kk)))) ?_
    refine k_callS hx (y := (⟨"com/example/lean_entities/leanentities/session/CursorToWebSafeStringPinLaw", "enc", "(I)C"⟩ : MethodName)) (wT 111 rfl) (wT 112 rfl) (wT 113 rfl) (wT 114 rfl) (by decide) (W := 0) (argsL := [(.int (zc >>> ((2 : Int32) &&& 31)))]) (rest := []) (Pays.of_met (rm_enc l Z a0 G1 G3 e0 tb kt hX hY n0 h_277 O_279 (zc >>> ((2 : Int32) &&& 31)) (by have r0 := rng32 zc; have r1 : (zc >>> ((2 : Int32) &&& 31)).toInt = zc.toInt / 4 := (c_ishr zc (2 : Int32) 2 (by decide)); have r2 := rng32 (zc >>> ((2 : Int32) &&& 31)); have r3 := b_zc; omega) []) (wT 114 rfl) (wT 113 rfl) (by decide) (by decide)) rfl (by rw [hml]; rfl) (lenOf pd__28_I_29_C rfl) rfl (by show 2 * 0 + _ ≤ _; exact Nat.le_of_eq rfl) (hb hby at_235) (by decide) (by decide) ?_
    intro v_313 h_314 bk_315 O_316 z_317 Q_318
    obtain ⟨rfl, rfl, rfl⟩ := Q_318
    refine k_pure (g' := (mkF m 244 #[.val (.int sl), .val (.int xa), .val (.int xb), .val (.int xc), .val (.int (2 : Int32)), .val (.int za), .val (.int zb), .val (.int zc), .val (.ref a_225), .val (.ref a_248), .val (.ref a_282), .val (.int (4 : Int32)), .val (.int (en (0 : Int32))), .val (.int (en ((16 : Int32) ||| (za >>> ((4 : Int32) &&& 31))))), .val (.int (en (((za &&& (15 : Int32)) <<< ((2 : Int32) &&& 31)) ||| (zb >>> ((6 : Int32) &&& 31))))), .val (.int (en (zb &&& (63 : Int32)))), .val (.int (en (zc >>> ((2 : Int32) &&& 31)))), .unset, .unset] [(.int (zc &&& (3 : Int32)))])) (fun TT HH tt kk => XS.istore HH hx rfl (hb hby at_238) rfl (l' := #[.val (.int sl), .val (.int xa), .val (.int xb), .val (.int xc), .val (.int (2 : Int32)), .val (.int za), .val (.int zb), .val (.int zc), .val (.ref a_225), .val (.ref a_248), .val (.ref a_282), .val (.int (4 : Int32)), .val (.int (en (0 : Int32))), .val (.int (en ((16 : Int32) ||| (za >>> ((4 : Int32) &&& 31))))), .val (.int (en (((za &&& (15 : Int32)) <<< ((2 : Int32) &&& 31)) ||| (zb >>> ((6 : Int32) &&& 31))))), .val (.int (en (zb &&& (63 : Int32)))), .val (.int (en (zc >>> ((2 : Int32) &&& 31)))), .unset, .unset]) rfl (XS.iload HH hx rfl (hb hby at_240) rfl (XS.iconst HH hx rfl (hb hby at_242) (XS.iand HH hx rfl (hb hby at_243) rfl kk)))) ?_
    refine k_pure (g' := (mkF m 246 #[.val (.int sl), .val (.int xa), .val (.int xb), .val (.int xc), .val (.int (2 : Int32)), .val (.int za), .val (.int zb), .val (.int zc), .val (.ref a_225), .val (.ref a_248), .val (.ref a_282), .val (.int (4 : Int32)), .val (.int (en (0 : Int32))), .val (.int (en ((16 : Int32) ||| (za >>> ((4 : Int32) &&& 31))))), .val (.int (en (((za &&& (15 : Int32)) <<< ((2 : Int32) &&& 31)) ||| (zb >>> ((6 : Int32) &&& 31))))), .val (.int (en (zb &&& (63 : Int32)))), .val (.int (en (zc >>> ((2 : Int32) &&& 31)))), .unset, .unset] [(.int ((zc &&& (3 : Int32)) <<< ((4 : Int32) &&& 31)))])) (fun TT HH tt kk => XS.iconst HH hx rfl (hb hby at_244) (XS.ishl HH hx rfl (hb hby at_245) rfl kk)) ?_
    refine k_callS hx (y := (⟨"com/example/lean_entities/leanentities/session/CursorToWebSafeStringPinLaw", "enc", "(I)C"⟩ : MethodName)) (wT 111 rfl) (wT 112 rfl) (wT 113 rfl) (wT 114 rfl) (by decide) (W := 0) (argsL := [(.int ((zc &&& (3 : Int32)) <<< ((4 : Int32) &&& 31)))]) (rest := []) (Pays.of_met (rm_enc l Z a0 G1 G3 e0 tb kt hX hY n0 h_277 O_279 ((zc &&& (3 : Int32)) <<< ((4 : Int32) &&& 31)) (by have r0 := rng32 zc; have r1 : (zc &&& (3 : Int32)).toInt = zc.toInt % 4 := (c_mask zc (3 : Int32) 2 (by decide) (by decide)); have r2 := rng32 (zc &&& (3 : Int32)); have r3 : (((zc &&& (3 : Int32)) <<< ((4 : Int32) &&& 31)).toInt - (zc &&& (3 : Int32)).toInt * 16) % 4294967296 = 0 := (c_ishl (zc &&& (3 : Int32)) (4 : Int32) 4 (by decide)); have r4 := rng32 ((zc &&& (3 : Int32)) <<< ((4 : Int32) &&& 31)); have r5 := t5 b_zc; have r6 := b_zc; omega) []) (wT 114 rfl) (wT 113 rfl) (by decide) (by decide)) rfl (by rw [hml]; rfl) (lenOf pd__28_I_29_C rfl) rfl (by show 2 * 0 + _ ≤ _; exact Nat.le_of_eq rfl) (hb hby at_246) (by decide) (by decide) ?_
    intro v_319 h_320 bk_321 O_322 z_323 Q_324
    obtain ⟨rfl, rfl, rfl⟩ := Q_324
    refine k_pure (g' := (mkF m 253 #[.val (.int sl), .val (.int xa), .val (.int xb), .val (.int xc), .val (.int (2 : Int32)), .val (.int za), .val (.int zb), .val (.int zc), .val (.ref a_225), .val (.ref a_248), .val (.ref a_282), .val (.int (4 : Int32)), .val (.int (en (0 : Int32))), .val (.int (en ((16 : Int32) ||| (za >>> ((4 : Int32) &&& 31))))), .val (.int (en (((za &&& (15 : Int32)) <<< ((2 : Int32) &&& 31)) ||| (zb >>> ((6 : Int32) &&& 31))))), .val (.int (en (zb &&& (63 : Int32)))), .val (.int (en (zc >>> ((2 : Int32) &&& 31)))), .val (.int (en ((zc &&& (3 : Int32)) <<< ((4 : Int32) &&& 31)))), .unset] [(.ref a_282)])) (fun TT HH tt kk => XS.istore HH hx rfl (hb hby at_249) rfl (l' := #[.val (.int sl), .val (.int xa), .val (.int xb), .val (.int xc), .val (.int (2 : Int32)), .val (.int za), .val (.int zb), .val (.int zc), .val (.ref a_225), .val (.ref a_248), .val (.ref a_282), .val (.int (4 : Int32)), .val (.int (en (0 : Int32))), .val (.int (en ((16 : Int32) ||| (za >>> ((4 : Int32) &&& 31))))), .val (.int (en (((za &&& (15 : Int32)) <<< ((2 : Int32) &&& 31)) ||| (zb >>> ((6 : Int32) &&& 31))))), .val (.int (en (zb &&& (63 : Int32)))), .val (.int (en (zc >>> ((2 : Int32) &&& 31)))), .val (.int (en ((zc &&& (3 : Int32)) <<< ((4 : Int32) &&& 31)))), .unset]) rfl (XS.aload HH hx rfl (hb hby at_251) rfl rfl kk)) ?_
    refine k_callV hx (y := (⟨"java/lang/String", "length", "()I"⟩ : MethodName)) (z := (⟨"java/lang/String", "length", "()I"⟩ : MethodName)) (wT 115 rfl) (wT 116 rfl) (fun s' hZ => notFace_of_selects (args := #[]) (mv hZ (wT 118 rfl))) (wT 118 rfl) (wT 117 rfl) (by decide) (W := 0) (a := a_282) (argsL := []) (rest := []) (Pays.of_met (rm_sle l Z a0 G1 G3 e0 tb kt hX hY n0 h_277 O_279 a_282 a_283 k_284 [en (0 : Int32), en ((16 : Int32) ||| (za >>> ((4 : Int32) &&& 31))), en (((za &&& (15 : Int32)) <<< ((2 : Int32) &&& 31)) ||| (zb >>> ((6 : Int32) &&& 31))), en (zb &&& (63 : Int32))] F_286 []) (wT 119 rfl) (wT 86 rfl) (by decide) (by decide)) F_286.1 rfl (by rw [hml]; rfl) (lenOf pd__28__29_I rfl) rfl (by show 2 * 0 + _ ≤ _; exact Nat.le_of_eq rfl) (hb hby at_253) (by decide) (by decide) ?_
    intro v_325 h_326 bk_327 O_328 z_329 Q_330
    obtain ⟨rfl, rfl, rfl⟩ := Q_330
    refine k_pure (g' := (mkF m 266 #[.val (.int sl), .val (.int xa), .val (.int xb), .val (.int xc), .val (.int (2 : Int32)), .val (.int za), .val (.int zb), .val (.int zc), .val (.ref a_225), .val (.ref a_248), .val (.ref a_282), .val (.int (4 : Int32)), .val (.int (en (0 : Int32))), .val (.int (en ((16 : Int32) ||| (za >>> ((4 : Int32) &&& 31))))), .val (.int (en (((za &&& (15 : Int32)) <<< ((2 : Int32) &&& 31)) ||| (zb >>> ((6 : Int32) &&& 31))))), .val (.int (en (zb &&& (63 : Int32)))), .val (.int (en (zc >>> ((2 : Int32) &&& 31)))), .val (.int (en ((zc &&& (3 : Int32)) <<< ((4 : Int32) &&& 31)))), .unset] [(.int (0 : Int32)), (.ref a_282)])) (fun TT HH tt kk => XS.iload HH hx rfl (hb hby at_256) rfl (XS.icmpYes HH hx rfl (pc0 := 258) (pc' := 263) rfl (hb hby at_258) rfl (teq rfl).1 (by decide) (by decide) (XS.aload HH hx rfl (hb hby at_263) rfl rfl (XS.iconst HH hx rfl (hb hby at_265) kk)))) ?_
    refine k_callV hx (y := (⟨"java/lang/String", "charAt", "(I)C"⟩ : MethodName)) (z := (⟨"java/lang/String", "charAt", "(I)C"⟩ : MethodName)) (wT 125 rfl) (wT 126 rfl) (fun s' hZ => notFace_of_selects (args := #[]) (mv hZ (wT 128 rfl))) (wT 128 rfl) (wT 127 rfl) (by decide) (W := 0) (a := a_282) (argsL := [(.int (0 : Int32))]) (rest := []) (Pays.of_met (rm_chL l Z a0 G1 G3 e0 tb kt hX hY n0 h_277 O_279 a_282 a_283 k_284 [en (0 : Int32), en ((16 : Int32) ||| (za >>> ((4 : Int32) &&& 31))), en (((za &&& (15 : Int32)) <<< ((2 : Int32) &&& 31)) ||| (zb >>> ((6 : Int32) &&& 31))), en (zb &&& (63 : Int32))] 0 F_286 (by simp) []) (wT 129 rfl) (wT 86 rfl) (by decide) (by decide)) F_286.1 rfl (by rw [hml]; rfl) (lenOf pd__28_I_29_C rfl) rfl (by show 2 * 0 + _ ≤ _; exact Nat.le_of_eq rfl) (hb hby at_266) (by decide) (by decide) ?_
    intro v_331 h_332 bk_333 O_334 z_335 Q_336
    obtain ⟨rfl, rfl, rfl⟩ := Q_336
    refine k_pure (g' := (mkF m 277 #[.val (.int sl), .val (.int xa), .val (.int xb), .val (.int xc), .val (.int (2 : Int32)), .val (.int za), .val (.int zb), .val (.int zc), .val (.ref a_225), .val (.ref a_248), .val (.ref a_282), .val (.int (4 : Int32)), .val (.int (en (0 : Int32))), .val (.int (en ((16 : Int32) ||| (za >>> ((4 : Int32) &&& 31))))), .val (.int (en (((za &&& (15 : Int32)) <<< ((2 : Int32) &&& 31)) ||| (zb >>> ((6 : Int32) &&& 31))))), .val (.int (en (zb &&& (63 : Int32)))), .val (.int (en (zc >>> ((2 : Int32) &&& 31)))), .val (.int (en ((zc &&& (3 : Int32)) <<< ((4 : Int32) &&& 31)))), .unset] [(.int (1 : Int32)), (.ref a_282)])) (fun TT HH tt kk => XS.iload HH hx rfl (hb hby at_269) rfl (XS.icmpNo HH hx rfl (hb hby at_271) rfl (teq rfl).2 (XS.aload HH hx rfl (hb hby at_274) rfl rfl (XS.iconst HH hx rfl (hb hby at_276) kk)))) ?_
    refine k_callV hx (y := (⟨"java/lang/String", "charAt", "(I)C"⟩ : MethodName)) (z := (⟨"java/lang/String", "charAt", "(I)C"⟩ : MethodName)) (wT 125 rfl) (wT 126 rfl) (fun s' hZ => notFace_of_selects (args := #[]) (mv hZ (wT 128 rfl))) (wT 128 rfl) (wT 127 rfl) (by decide) (W := 0) (a := a_282) (argsL := [(.int (1 : Int32))]) (rest := []) (Pays.of_met (rm_chL l Z a0 G1 G3 e0 tb kt hX hY n0 h_277 O_279 a_282 a_283 k_284 [en (0 : Int32), en ((16 : Int32) ||| (za >>> ((4 : Int32) &&& 31))), en (((za &&& (15 : Int32)) <<< ((2 : Int32) &&& 31)) ||| (zb >>> ((6 : Int32) &&& 31))), en (zb &&& (63 : Int32))] 1 F_286 (by simp) []) (wT 129 rfl) (wT 86 rfl) (by decide) (by decide)) F_286.1 rfl (by rw [hml]; rfl) (lenOf pd__28_I_29_C rfl) rfl (by show 2 * 0 + _ ≤ _; exact Nat.le_of_eq rfl) (hb hby at_277) (by decide) (by decide) ?_
    intro v_337 h_338 bk_339 O_340 z_341 Q_342
    obtain ⟨rfl, rfl, rfl⟩ := Q_342
    refine k_pure (g' := (mkF m 290 #[.val (.int sl), .val (.int xa), .val (.int xb), .val (.int xc), .val (.int (2 : Int32)), .val (.int za), .val (.int zb), .val (.int zc), .val (.ref a_225), .val (.ref a_248), .val (.ref a_282), .val (.int (4 : Int32)), .val (.int (en (0 : Int32))), .val (.int (en ((16 : Int32) ||| (za >>> ((4 : Int32) &&& 31))))), .val (.int (en (((za &&& (15 : Int32)) <<< ((2 : Int32) &&& 31)) ||| (zb >>> ((6 : Int32) &&& 31))))), .val (.int (en (zb &&& (63 : Int32)))), .val (.int (en (zc >>> ((2 : Int32) &&& 31)))), .val (.int (en ((zc &&& (3 : Int32)) <<< ((4 : Int32) &&& 31)))), .unset] [(.int (1 : Int32))])) (fun TT HH tt kk => XS.iload HH hx rfl (hb hby at_280) rfl (XS.icmpNo HH hx rfl (hb hby at_282) rfl (teq rfl).2 (XS.iconst HH hx rfl (hb hby at_285) (XS.goto HH hx rfl (pc0 := 286) (pc' := 290) rfl (hb hby at_286) (by decide) (by decide) kk)))) ?_
    refine k_pure (g' := (mkF m 299 #[.val (.int sl), .val (.int xa), .val (.int xb), .val (.int xc), .val (.int (2 : Int32)), .val (.int za), .val (.int zb), .val (.int zc), .val (.ref a_225), .val (.ref a_248), .val (.ref a_282), .val (.int (4 : Int32)), .val (.int (en (0 : Int32))), .val (.int (en ((16 : Int32) ||| (za >>> ((4 : Int32) &&& 31))))), .val (.int (en (((za &&& (15 : Int32)) <<< ((2 : Int32) &&& 31)) ||| (zb >>> ((6 : Int32) &&& 31))))), .val (.int (en (zb &&& (63 : Int32)))), .val (.int (en (zc >>> ((2 : Int32) &&& 31)))), .val (.int (en ((zc &&& (3 : Int32)) <<< ((4 : Int32) &&& 31)))), .val (.int (1 : Int32))] [(.int (4 : Int32))])) (fun TT HH tt kk => XS.istore HH hx rfl (hb hby at_290) rfl (l' := #[.val (.int sl), .val (.int xa), .val (.int xb), .val (.int xc), .val (.int (2 : Int32)), .val (.int za), .val (.int zb), .val (.int zc), .val (.ref a_225), .val (.ref a_248), .val (.ref a_282), .val (.int (4 : Int32)), .val (.int (en (0 : Int32))), .val (.int (en ((16 : Int32) ||| (za >>> ((4 : Int32) &&& 31))))), .val (.int (en (((za &&& (15 : Int32)) <<< ((2 : Int32) &&& 31)) ||| (zb >>> ((6 : Int32) &&& 31))))), .val (.int (en (zb &&& (63 : Int32)))), .val (.int (en (zc >>> ((2 : Int32) &&& 31)))), .val (.int (en ((zc &&& (3 : Int32)) <<< ((4 : Int32) &&& 31)))), .val (.int (1 : Int32))]) rfl (XS.iload HH hx rfl (hb hby at_292) rfl (XS.ifNo HH hx rfl (hb hby at_294) rfl ((if0 _ _).trans (feq (by decide : ¬ ((1 : Int32) = (0 : Int32)))).1) (XS.iload HH hx rfl (hb hby at_297) rfl kk)))) ?_
    refine k_pure (g' := (mkF m 306 #[.val (.int sl), .val (.int xa), .val (.int xb), .val (.int xc), .val (.int (2 : Int32)), .val (.int za), .val (.int zb), .val (.int zc), .val (.ref a_225), .val (.ref a_248), .val (.ref a_282), .val (.int (4 : Int32)), .val (.int (en (0 : Int32))), .val (.int (en ((16 : Int32) ||| (za >>> ((4 : Int32) &&& 31))))), .val (.int (en (((za &&& (15 : Int32)) <<< ((2 : Int32) &&& 31)) ||| (zb >>> ((6 : Int32) &&& 31))))), .val (.int (en (zb &&& (63 : Int32)))), .val (.int (en (zc >>> ((2 : Int32) &&& 31)))), .val (.int (en ((zc &&& (3 : Int32)) <<< ((4 : Int32) &&& 31)))), .val (.int (1 : Int32))] [(.int (2 : Int32)), (.ref a_282)])) (fun TT HH tt kk => XS.iconst HH hx rfl (hb hby at_299) (XS.icmpNo HH hx rfl (hb hby at_300) rfl (flt (by decide : ¬ ((4 : Int32) < (3 : Int32)))).1 (XS.aload HH hx rfl (hb hby at_303) rfl rfl (XS.iconst HH hx rfl (hb hby at_305) kk)))) ?_
    refine k_callV hx (y := (⟨"java/lang/String", "charAt", "(I)C"⟩ : MethodName)) (z := (⟨"java/lang/String", "charAt", "(I)C"⟩ : MethodName)) (wT 125 rfl) (wT 126 rfl) (fun s' hZ => notFace_of_selects (args := #[]) (mv hZ (wT 128 rfl))) (wT 128 rfl) (wT 127 rfl) (by decide) (W := 0) (a := a_282) (argsL := [(.int (2 : Int32))]) (rest := []) (Pays.of_met (rm_chL l Z a0 G1 G3 e0 tb kt hX hY n0 h_277 O_279 a_282 a_283 k_284 [en (0 : Int32), en ((16 : Int32) ||| (za >>> ((4 : Int32) &&& 31))), en (((za &&& (15 : Int32)) <<< ((2 : Int32) &&& 31)) ||| (zb >>> ((6 : Int32) &&& 31))), en (zb &&& (63 : Int32))] 2 F_286 (by simp) []) (wT 129 rfl) (wT 86 rfl) (by decide) (by decide)) F_286.1 rfl (by rw [hml]; rfl) (lenOf pd__28_I_29_C rfl) rfl (by show 2 * 0 + _ ≤ _; exact Nat.le_of_eq rfl) (hb hby at_306) (by decide) (by decide) ?_
    intro v_343 h_344 bk_345 O_346 z_347 Q_348
    obtain ⟨rfl, rfl, rfl⟩ := Q_348
    refine k_pure (g' := (mkF m 319 #[.val (.int sl), .val (.int xa), .val (.int xb), .val (.int xc), .val (.int (2 : Int32)), .val (.int za), .val (.int zb), .val (.int zc), .val (.ref a_225), .val (.ref a_248), .val (.ref a_282), .val (.int (4 : Int32)), .val (.int (en (0 : Int32))), .val (.int (en ((16 : Int32) ||| (za >>> ((4 : Int32) &&& 31))))), .val (.int (en (((za &&& (15 : Int32)) <<< ((2 : Int32) &&& 31)) ||| (zb >>> ((6 : Int32) &&& 31))))), .val (.int (en (zb &&& (63 : Int32)))), .val (.int (en (zc >>> ((2 : Int32) &&& 31)))), .val (.int (en ((zc &&& (3 : Int32)) <<< ((4 : Int32) &&& 31)))), .val (.int (1 : Int32))] [(.int (1 : Int32))])) (fun TT HH tt kk => XS.iload HH hx rfl (hb hby at_309) rfl (XS.icmpNo HH hx rfl (hb hby at_311) rfl (teq rfl).2 (XS.iconst HH hx rfl (hb hby at_314) (XS.goto HH hx rfl (pc0 := 315) (pc' := 319) rfl (hb hby at_315) (by decide) (by decide) kk)))) ?_
    refine k_pure (g' := (mkF m 328 #[.val (.int sl), .val (.int xa), .val (.int xb), .val (.int xc), .val (.int (2 : Int32)), .val (.int za), .val (.int zb), .val (.int zc), .val (.ref a_225), .val (.ref a_248), .val (.ref a_282), .val (.int (4 : Int32)), .val (.int (en (0 : Int32))), .val (.int (en ((16 : Int32) ||| (za >>> ((4 : Int32) &&& 31))))), .val (.int (en (((za &&& (15 : Int32)) <<< ((2 : Int32) &&& 31)) ||| (zb >>> ((6 : Int32) &&& 31))))), .val (.int (en (zb &&& (63 : Int32)))), .val (.int (en (zc >>> ((2 : Int32) &&& 31)))), .val (.int (en ((zc &&& (3 : Int32)) <<< ((4 : Int32) &&& 31)))), .val (.int (1 : Int32))] [(.int (4 : Int32))])) (fun TT HH tt kk => XS.istore HH hx rfl (hb hby at_319) rfl (l' := #[.val (.int sl), .val (.int xa), .val (.int xb), .val (.int xc), .val (.int (2 : Int32)), .val (.int za), .val (.int zb), .val (.int zc), .val (.ref a_225), .val (.ref a_248), .val (.ref a_282), .val (.int (4 : Int32)), .val (.int (en (0 : Int32))), .val (.int (en ((16 : Int32) ||| (za >>> ((4 : Int32) &&& 31))))), .val (.int (en (((za &&& (15 : Int32)) <<< ((2 : Int32) &&& 31)) ||| (zb >>> ((6 : Int32) &&& 31))))), .val (.int (en (zb &&& (63 : Int32)))), .val (.int (en (zc >>> ((2 : Int32) &&& 31)))), .val (.int (en ((zc &&& (3 : Int32)) <<< ((4 : Int32) &&& 31)))), .val (.int (1 : Int32))]) rfl (XS.iload HH hx rfl (hb hby at_321) rfl (XS.ifNo HH hx rfl (hb hby at_323) rfl ((if0 _ _).trans (feq (by decide : ¬ ((1 : Int32) = (0 : Int32)))).1) (XS.iload HH hx rfl (hb hby at_326) rfl kk)))) ?_
    refine k_pure (g' := (mkF m 335 #[.val (.int sl), .val (.int xa), .val (.int xb), .val (.int xc), .val (.int (2 : Int32)), .val (.int za), .val (.int zb), .val (.int zc), .val (.ref a_225), .val (.ref a_248), .val (.ref a_282), .val (.int (4 : Int32)), .val (.int (en (0 : Int32))), .val (.int (en ((16 : Int32) ||| (za >>> ((4 : Int32) &&& 31))))), .val (.int (en (((za &&& (15 : Int32)) <<< ((2 : Int32) &&& 31)) ||| (zb >>> ((6 : Int32) &&& 31))))), .val (.int (en (zb &&& (63 : Int32)))), .val (.int (en (zc >>> ((2 : Int32) &&& 31)))), .val (.int (en ((zc &&& (3 : Int32)) <<< ((4 : Int32) &&& 31)))), .val (.int (1 : Int32))] [(.int (3 : Int32)), (.ref a_282)])) (fun TT HH tt kk => XS.iconst HH hx rfl (hb hby at_328) (XS.icmpNo HH hx rfl (hb hby at_329) rfl (flt (by decide : ¬ ((4 : Int32) < (4 : Int32)))).1 (XS.aload HH hx rfl (hb hby at_332) rfl rfl (XS.iconst HH hx rfl (hb hby at_334) kk)))) ?_
    refine k_callV hx (y := (⟨"java/lang/String", "charAt", "(I)C"⟩ : MethodName)) (z := (⟨"java/lang/String", "charAt", "(I)C"⟩ : MethodName)) (wT 125 rfl) (wT 126 rfl) (fun s' hZ => notFace_of_selects (args := #[]) (mv hZ (wT 128 rfl))) (wT 128 rfl) (wT 127 rfl) (by decide) (W := 0) (a := a_282) (argsL := [(.int (3 : Int32))]) (rest := []) (Pays.of_met (rm_chL l Z a0 G1 G3 e0 tb kt hX hY n0 h_277 O_279 a_282 a_283 k_284 [en (0 : Int32), en ((16 : Int32) ||| (za >>> ((4 : Int32) &&& 31))), en (((za &&& (15 : Int32)) <<< ((2 : Int32) &&& 31)) ||| (zb >>> ((6 : Int32) &&& 31))), en (zb &&& (63 : Int32))] 3 F_286 (by simp) []) (wT 129 rfl) (wT 86 rfl) (by decide) (by decide)) F_286.1 rfl (by rw [hml]; rfl) (lenOf pd__28_I_29_C rfl) rfl (by show 2 * 0 + _ ≤ _; exact Nat.le_of_eq rfl) (hb hby at_335) (by decide) (by decide) ?_
    intro v_349 h_350 bk_351 O_352 z_353 Q_354
    obtain ⟨rfl, rfl, rfl⟩ := Q_354
    refine k_pure (g' := (mkF m 348 #[.val (.int sl), .val (.int xa), .val (.int xb), .val (.int xc), .val (.int (2 : Int32)), .val (.int za), .val (.int zb), .val (.int zc), .val (.ref a_225), .val (.ref a_248), .val (.ref a_282), .val (.int (4 : Int32)), .val (.int (en (0 : Int32))), .val (.int (en ((16 : Int32) ||| (za >>> ((4 : Int32) &&& 31))))), .val (.int (en (((za &&& (15 : Int32)) <<< ((2 : Int32) &&& 31)) ||| (zb >>> ((6 : Int32) &&& 31))))), .val (.int (en (zb &&& (63 : Int32)))), .val (.int (en (zc >>> ((2 : Int32) &&& 31)))), .val (.int (en ((zc &&& (3 : Int32)) <<< ((4 : Int32) &&& 31)))), .val (.int (1 : Int32))] [(.int (1 : Int32))])) (fun TT HH tt kk => XS.iload HH hx rfl (hb hby at_338) rfl (XS.icmpNo HH hx rfl (hb hby at_340) rfl (teq rfl).2 (XS.iconst HH hx rfl (hb hby at_343) (XS.goto HH hx rfl (pc0 := 344) (pc' := 348) rfl (hb hby at_344) (by decide) (by decide) kk)))) ?_
    refine k_pure (g' := (mkF m 357 #[.val (.int sl), .val (.int xa), .val (.int xb), .val (.int xc), .val (.int (2 : Int32)), .val (.int za), .val (.int zb), .val (.int zc), .val (.ref a_225), .val (.ref a_248), .val (.ref a_282), .val (.int (4 : Int32)), .val (.int (en (0 : Int32))), .val (.int (en ((16 : Int32) ||| (za >>> ((4 : Int32) &&& 31))))), .val (.int (en (((za &&& (15 : Int32)) <<< ((2 : Int32) &&& 31)) ||| (zb >>> ((6 : Int32) &&& 31))))), .val (.int (en (zb &&& (63 : Int32)))), .val (.int (en (zc >>> ((2 : Int32) &&& 31)))), .val (.int (en ((zc &&& (3 : Int32)) <<< ((4 : Int32) &&& 31)))), .val (.int (1 : Int32))] [(.int (4 : Int32))])) (fun TT HH tt kk => XS.istore HH hx rfl (hb hby at_348) rfl (l' := #[.val (.int sl), .val (.int xa), .val (.int xb), .val (.int xc), .val (.int (2 : Int32)), .val (.int za), .val (.int zb), .val (.int zc), .val (.ref a_225), .val (.ref a_248), .val (.ref a_282), .val (.int (4 : Int32)), .val (.int (en (0 : Int32))), .val (.int (en ((16 : Int32) ||| (za >>> ((4 : Int32) &&& 31))))), .val (.int (en (((za &&& (15 : Int32)) <<< ((2 : Int32) &&& 31)) ||| (zb >>> ((6 : Int32) &&& 31))))), .val (.int (en (zb &&& (63 : Int32)))), .val (.int (en (zc >>> ((2 : Int32) &&& 31)))), .val (.int (en ((zc &&& (3 : Int32)) <<< ((4 : Int32) &&& 31)))), .val (.int (1 : Int32))]) rfl (XS.iload HH hx rfl (hb hby at_350) rfl (XS.ifNo HH hx rfl (hb hby at_352) rfl ((if0 _ _).trans (feq (by decide : ¬ ((1 : Int32) = (0 : Int32)))).1) (XS.iload HH hx rfl (hb hby at_355) rfl kk)))) ?_
    refine k_pure (g' := (mkF m 393 #[.val (.int sl), .val (.int xa), .val (.int xb), .val (.int xc), .val (.int (2 : Int32)), .val (.int za), .val (.int zb), .val (.int zc), .val (.ref a_225), .val (.ref a_248), .val (.ref a_282), .val (.int (4 : Int32)), .val (.int (en (0 : Int32))), .val (.int (en ((16 : Int32) ||| (za >>> ((4 : Int32) &&& 31))))), .val (.int (en (((za &&& (15 : Int32)) <<< ((2 : Int32) &&& 31)) ||| (zb >>> ((6 : Int32) &&& 31))))), .val (.int (en (zb &&& (63 : Int32)))), .val (.int (en (zc >>> ((2 : Int32) &&& 31)))), .val (.int (en ((zc &&& (3 : Int32)) <<< ((4 : Int32) &&& 31)))), .val (.int (1 : Int32))] [(.int (1 : Int32))])) (fun TT HH tt kk => XS.bipush HH hx rfl (hb hby at_357) (XS.icmpYes HH hx rfl (pc0 := 359) (pc' := 391) rfl (hb hby at_359) rfl (tlt (by decide : ((4 : Int32) < (6 : Int32)))).1 (by decide) (by decide) (XS.iload HH hx rfl (hb hby at_391) rfl kk))) ?_
    exact k_retN hx hlk hret (by simp) (hb hby at_393) (by decide) (by decide) ⟨rfl, rfl, (((((((Keep.refl _ _).ext E_230).wr W_238 (Or.inr (by omega))).wr W_244 (Or.inr (by omega))).ext E_251).trans K_268 (kkS (Or.inr (by omega)) kk0)).trans K_285 kk0)⟩
  · show Run p l e _ s m _ below meth c Z EL1 _ n0 NoB h0 0 0 (mkF m 26 #[.val (.int sl), .val (.int xa), .val (.int xb), .val (.int xc), .val (.int (3 : Int32)), .val (.int za), .val (.int zb), .val (.int zc), .unset, .unset, .unset, .unset, .unset, .unset, .unset, .unset, .unset, .unset, .unset] []) _
    refine k_pure (g' := (mkF m 42 #[.val (.int sl), .val (.int xa), .val (.int xb), .val (.int xc), .val (.int (3 : Int32)), .val (.int za), .val (.int zb), .val (.int zc), .unset, .unset, .unset, .unset, .unset, .unset, .unset, .unset, .unset, .unset, .unset] [(.int (1 : Int32)), (.int (3 : Int32))])) (fun TT HH tt kk => XS.iload HH hx rfl (hb hby at_26) rfl (XS.ifYes HH hx rfl (pc0 := 28) (pc' := 39) rfl (hb hby at_28) rfl ((if0 _ _).trans (feq (by decide : ¬ ((3 : Int32) = (0 : Int32)))).2) (by decide) (by decide) (XS.iload HH hx rfl (hb hby at_39) rfl (XS.iconst HH hx rfl (hb hby at_41) kk)))) ?_
    refine k_pure (g' := (mkF m 85 #[.val (.int sl), .val (.int xa), .val (.int xb), .val (.int xc), .val (.int (3 : Int32)), .val (.int za), .val (.int zb), .val (.int zc), .unset, .unset, .unset, .unset, .unset, .unset, .unset, .unset, .unset, .unset, .unset] [])) (fun TT HH tt kk => XS.icmpYes HH hx rfl (pc0 := 42) (pc' := 59) rfl (hb hby at_42) rfl (feq (by decide : ¬ ((3 : Int32) = (1 : Int32)))).2 (by decide) (by decide) (XS.iload HH hx rfl (hb hby at_59) rfl (XS.iconst HH hx rfl (hb hby at_61) (XS.icmpYes HH hx rfl (pc0 := 62) (pc' := 85) rfl (hb hby at_62) rfl (feq (by decide : ¬ ((3 : Int32) = (2 : Int32)))).2 (by decide) (by decide) kk)))) ?_
    refine k_pure (g' := (mkF m 86 #[.val (.int sl), .val (.int xa), .val (.int xb), .val (.int xc), .val (.int (3 : Int32)), .val (.int za), .val (.int zb), .val (.int zc), .unset, .unset, .unset, .unset, .unset, .unset, .unset, .unset, .unset, .unset, .unset] [(.int (3 : Int32))])) (fun _ J _ j => XS.iconst J hx rfl (hb hby at_85) j) ?_
    refine k_newP hx (wT 0 rfl) rfl (hb hby at_86) rfl (by decide) (cap := 3) (by decide) (by decide) (by decide) (by decide) "[B" (by decide +kernel) ?_
    intro h_356 a_355 k_357 g_358 O_359 E_360 A_361 X_362
    have z_363 := E_360.1
    have lt_364 : @LT.lt Nat _ a_355 (Array.size h_356) := A_361.lt
    have V_365 : Arv Z h_356 a_355 k_357 .byte (3 : Int32) [(.int (0 : Int32)), (.int (0 : Int32)), (.int (0 : Int32))] (.int (0 : Int32)) := Arv.pad A_361 (pad_rep [] (.int (0 : Int32)) 3)
    refine k_pure (g' := (mkF m 93 #[.val (.int sl), .val (.int xa), .val (.int xb), .val (.int xc), .val (.int (3 : Int32)), .val (.int za), .val (.int zb), .val (.int zc), .unset, .unset, .unset, .unset, .unset, .unset, .unset, .unset, .unset, .unset, .unset] [(.int (za.toInt8.toInt32)), (.int (0 : Int32)), (.ref a_355), (.ref a_355)])) (fun TT HH tt kk => XS.dup HH hx rfl (hb hby at_88) rfl rfl (XS.iconst HH hx rfl (hb hby at_89) (XS.iload HH hx rfl (hb hby at_90) rfl (XS.i2b HH hx rfl (hb hby at_92) rfl kk)))) ?_
    refine k_stB hx V_365 ⟨by decide, by decide⟩ 0 (by decide) (Nat.le_of_ble_eq_true rfl) (by omega) (fun q => q) rfl rfl (hb hby at_93) ?_
    intro h_366 O_367 W_368 A_369
    have z_370 := W_368.size
    have V_371 : Arv Z h_366 a_355 k_357 .byte (3 : Int32) [(.int (za.toInt8.toInt32)), (.int (0 : Int32)), (.int (0 : Int32))] (.int (0 : Int32)) := by rw [u_narb] at A_369; exact A_369
    refine k_pure (g' := (mkF m 99 #[.val (.int sl), .val (.int xa), .val (.int xb), .val (.int xc), .val (.int (3 : Int32)), .val (.int za), .val (.int zb), .val (.int zc), .unset, .unset, .unset, .unset, .unset, .unset, .unset, .unset, .unset, .unset, .unset] [(.int (zb.toInt8.toInt32)), (.int (1 : Int32)), (.ref a_355), (.ref a_355)])) (fun TT HH tt kk => XS.dup HH hx rfl (hb hby at_94) rfl rfl (XS.iconst HH hx rfl (hb hby at_95) (XS.iload HH hx rfl (hb hby at_96) rfl (XS.i2b HH hx rfl (hb hby at_98) rfl kk)))) ?_
    refine k_stB hx V_371 ⟨by decide, by decide⟩ 1 (by decide) (Nat.le_of_ble_eq_true rfl) (by omega) (fun q => q) rfl rfl (hb hby at_99) ?_
    intro h_372 O_373 W_374 A_375
    have z_376 := W_374.size
    have V_377 : Arv Z h_372 a_355 k_357 .byte (3 : Int32) [(.int (za.toInt8.toInt32)), (.int (zb.toInt8.toInt32)), (.int (0 : Int32))] (.int (0 : Int32)) := by rw [u_narb] at A_375; exact A_375
    refine k_pure (g' := (mkF m 105 #[.val (.int sl), .val (.int xa), .val (.int xb), .val (.int xc), .val (.int (3 : Int32)), .val (.int za), .val (.int zb), .val (.int zc), .unset, .unset, .unset, .unset, .unset, .unset, .unset, .unset, .unset, .unset, .unset] [(.int (zc.toInt8.toInt32)), (.int (2 : Int32)), (.ref a_355), (.ref a_355)])) (fun TT HH tt kk => XS.dup HH hx rfl (hb hby at_100) rfl rfl (XS.iconst HH hx rfl (hb hby at_101) (XS.iload HH hx rfl (hb hby at_102) rfl (XS.i2b HH hx rfl (hb hby at_104) rfl kk)))) ?_
    refine k_stB hx V_377 ⟨by decide, by decide⟩ 2 (by decide) (Nat.le_of_ble_eq_true rfl) (by omega) (fun q => q) rfl rfl (hb hby at_105) ?_
    intro h_378 O_379 W_380 A_381
    have z_382 := W_380.size
    have V_383 : Arv Z h_378 a_355 k_357 .byte (3 : Int32) [(.int (za.toInt8.toInt32)), (.int (zb.toInt8.toInt32)), (.int (zc.toInt8.toInt32))] (.int (0 : Int32)) := by rw [u_narb] at A_381; exact A_381
    refine k_pure (g' := (mkF m 108 #[.val (.int sl), .val (.int xa), .val (.int xb), .val (.int xc), .val (.int (3 : Int32)), .val (.int za), .val (.int zb), .val (.int zc), .val (.ref a_355), .unset, .unset, .unset, .unset, .unset, .unset, .unset, .unset, .unset, .unset] [])) (fun _ J _ j => XS.astore J hx rfl (hb hby at_106) rfl rfl (l' := #[.val (.int sl), .val (.int xa), .val (.int xb), .val (.int xc), .val (.int (3 : Int32)), .val (.int za), .val (.int zb), .val (.int zc), .val (.ref a_355), .unset, .unset, .unset, .unset, .unset, .unset, .unset, .unset, .unset, .unset]) rfl j) ?_
    refine k_newO hx (wT 1 rfl) (wT 2 rfl) (wT 3 rfl) rfl (hb hby at_108) (by decide) (by decide) ?_
    intro h_385 a_384 g_391 O_386 E_387 A_388 D_389 U_390
    have z_392 := E_387.1
    have lt_393 : @LT.lt Nat _ a_384 (Array.size h_385) := A_388.lt
    refine k_pure (g' := (mkF m 114 #[.val (.int sl), .val (.int xa), .val (.int xb), .val (.int xc), .val (.int (3 : Int32)), .val (.int za), .val (.int zb), .val (.int zc), .val (.ref a_355), .unset, .unset, .unset, .unset, .unset, .unset, .unset, .unset, .unset, .unset] [(.ref a_355), (.ref a_384), (.ref a_384)])) (fun TT HH tt kk => XS.dup HH hx rfl (hb hby at_111) rfl rfl (XS.aload HH hx rfl (hb hby at_112) rfl rfl kk)) ?_
    have F_394 : Exa Z h_385 a_355 "[B" := ((((X_362.wr W_368).wr W_374).wr W_380).ext E_387)
    have F_395 : Arv Z h_385 a_355 k_357 .byte (3 : Int32) [(.int (za.toInt8.toInt32)), (.int (zb.toInt8.toInt32)), (.int (zc.toInt8.toInt32))] (.int (0 : Int32)) := (V_383.ext E_387)
    refine k_callI hx (y := (⟨"com/example/lean_entities/leanentities/session/Cursor", "<init>", "([B)V"⟩ : MethodName)) rfl (wT 4 rfl) (wT 5 rfl) (wT 6 rfl) (by decide) (W := 1) (a := a_384) (argsL := [(.ref a_355)]) (rest := [(.ref a_384)]) (Pays.of_met (rm_cin3 l Z a0 G1 G3 e0 tb kt hX hY n0 h_385 O_386 a_384 a_355 k_357 za zb zc A_388 (D_389 (Or.inr (wT 20 rfl)) (ty := (.array .byte)) (by decide)) F_394 F_395 (by omega) []) (wT 6 rfl) (wT 3 rfl) (by decide) (by decide)) rfl (by rw [hml]; rfl) (lenOf pd__28__5b_B_29_V rfl) rfl (by show 2 * 0 + _ ≤ _; exact Nat.le_of_eq rfl) (hb hby at_114) (by decide) (by decide) ?_
    intro v_396 h_397 bk_398 O_399 z_400 Q_401
    obtain ⟨a_402, k_403, rfl, rfl, K_404, F_405, F_406, F_407, P_408⟩ := Q_401
    have lt_409 : @LT.lt Nat _ a_384 (Array.size h_397) := F_405.lt
    have lt_410 : @LT.lt Nat _ a_384 (Array.size h_397) := F_406.lt
    have lt_411 : @LT.lt Nat _ a_402 (Array.size h_397) := F_407.lt
    refine k_pure (g' := (mkF m 121 #[.val (.int sl), .val (.int xa), .val (.int xb), .val (.int xc), .val (.int (3 : Int32)), .val (.int za), .val (.int zb), .val (.int zc), .val (.ref a_355), .val (.ref a_384), .unset, .unset, .unset, .unset, .unset, .unset, .unset, .unset, .unset] [(.ref a_384)])) (fun TT HH tt kk => XS.astore HH hx rfl (hb hby at_117) rfl rfl (l' := #[.val (.int sl), .val (.int xa), .val (.int xb), .val (.int xc), .val (.int (3 : Int32)), .val (.int za), .val (.int zb), .val (.int zc), .val (.ref a_355), .val (.ref a_384), .unset, .unset, .unset, .unset, .unset, .unset, .unset, .unset, .unset]) rfl (XS.aload HH hx rfl (hb hby at_119) rfl rfl kk)) ?_
    refine k_callV hx (y := (⟨"com/example/lean_entities/leanentities/session/Cursor", "toWebSafeString", "()Ljava/lang/String;"⟩ : MethodName)) (z := (⟨"com/example/lean_entities/leanentities/session/Cursor", "toWebSafeString", "()Ljava/lang/String;"⟩ : MethodName)) (wT 21 rfl) (wT 22 rfl) (fun s' hZ => notFace_of_selects (args := #[]) (mv hZ (wT 24 rfl))) (wT 24 rfl) (wT 23 rfl) (by decide) (W := 0) (a := a_384) (argsL := []) (rest := []) (Pays.of_met (rm_tow3 l Z a0 G1 G3 e0 tb kt hX hY n0 h_397 O_399 a_384 a_402 k_403 za zb zc F_405 F_406 F_407 b_za b_zb b_zc []) (wT 25 rfl) (wT 3 rfl) (by decide) (by decide)) F_405 rfl (by rw [hml]; rfl) (lenOf pd__28__29_Ljava_2f_lang_2f_String_3b_ rfl) rfl (by show 2 * 0 + _ ≤ _; exact Nat.le_of_eq rfl) (hb hby at_121) (by decide) (by decide) ?_
    intro v_412 h_413 bk_414 O_415 z_416 Q_417
    obtain ⟨a_418, a_419, k_420, rfl, rfl, K_421, F_422⟩ := Q_417
    have lt_423 : @LT.lt Nat _ a_418 (Array.size h_413) := F_422.lt1
    have lt_424 : @LT.lt Nat _ a_419 (Array.size h_413) := F_422.lt2
    refine k_pure (g' := (mkF m 139 #[.val (.int sl), .val (.int xa), .val (.int xb), .val (.int xc), .val (.int (3 : Int32)), .val (.int za), .val (.int zb), .val (.int zc), .val (.ref a_355), .val (.ref a_384), .val (.ref a_418), .unset, .unset, .unset, .unset, .unset, .unset, .unset, .unset] [(.int (3 : Int32))])) (fun TT HH tt kk => XS.astore HH hx rfl (hb hby at_124) rfl rfl (l' := #[.val (.int sl), .val (.int xa), .val (.int xb), .val (.int xc), .val (.int (3 : Int32)), .val (.int za), .val (.int zb), .val (.int zc), .val (.ref a_355), .val (.ref a_384), .val (.ref a_418), .unset, .unset, .unset, .unset, .unset, .unset, .unset, .unset]) rfl (XS.iload HH hx rfl (hb hby at_126) rfl (XS.ifYes HH hx rfl (pc0 := 128) (pc' := 137) rfl (hb hby at_128) rfl ((if0 _ _).trans (feq (by decide : ¬ ((3 : Int32) = (0 : Int32)))).2) (by decide) (by decide) (XS.iload HH hx rfl (hb hby at_137) rfl kk)))) ?_
    refine k_pure (g' := (mkF m 152 #[.val (.int sl), .val (.int xa), .val (.int xb), .val (.int xc), .val (.int (3 : Int32)), .val (.int za), .val (.int zb), .val (.int zc), .val (.ref a_355), .val (.ref a_384), .val (.ref a_418), .unset, .unset, .unset, .unset, .unset, .unset, .unset, .unset] [(.int (2 : Int32)), (.int (3 : Int32))])) (fun TT HH tt kk => XS.iconst HH hx rfl (hb hby at_139) (XS.icmpYes HH hx rfl (pc0 := 140) (pc' := 149) rfl (hb hby at_140) rfl (feq (by decide : ¬ ((3 : Int32) = (1 : Int32)))).2 (by decide) (by decide) (XS.iload HH hx rfl (hb hby at_149) rfl (XS.iconst HH hx rfl (hb hby at_151) kk)))) ?_
    refine k_pure (g' := (mkF m 166 #[.val (.int sl), .val (.int xa), .val (.int xb), .val (.int xc), .val (.int (3 : Int32)), .val (.int za), .val (.int zb), .val (.int zc), .val (.ref a_355), .val (.ref a_384), .val (.ref a_418), .val (.int (6 : Int32)), .unset, .unset, .unset, .unset, .unset, .unset, .unset] [(.int (0 : Int32))])) (fun TT HH tt kk => XS.icmpYes HH hx rfl (pc0 := 152) (pc' := 161) rfl (hb hby at_152) rfl (feq (by decide : ¬ ((3 : Int32) = (2 : Int32)))).2 (by decide) (by decide) (XS.bipush HH hx rfl (hb hby at_161) (XS.istore HH hx rfl (hb hby at_163) rfl (l' := #[.val (.int sl), .val (.int xa), .val (.int xb), .val (.int xc), .val (.int (3 : Int32)), .val (.int za), .val (.int zb), .val (.int zc), .val (.ref a_355), .val (.ref a_384), .val (.ref a_418), .val (.int (6 : Int32)), .unset, .unset, .unset, .unset, .unset, .unset, .unset]) rfl (XS.iconst HH hx rfl (hb hby at_165) kk)))) ?_
    refine k_callS hx (y := (⟨"com/example/lean_entities/leanentities/session/CursorToWebSafeStringPinLaw", "enc", "(I)C"⟩ : MethodName)) (wT 111 rfl) (wT 112 rfl) (wT 113 rfl) (wT 114 rfl) (by decide) (W := 0) (argsL := [(.int (0 : Int32))]) (rest := []) (Pays.of_met (rm_enc l Z a0 G1 G3 e0 tb kt hX hY n0 h_413 O_415 (0 : Int32) (by decide) []) (wT 114 rfl) (wT 113 rfl) (by decide) (by decide)) rfl (by rw [hml]; rfl) (lenOf pd__28_I_29_C rfl) rfl (by show 2 * 0 + _ ≤ _; exact Nat.le_of_eq rfl) (hb hby at_166) (by decide) (by decide) ?_
    intro v_425 h_426 bk_427 O_428 z_429 Q_430
    obtain ⟨rfl, rfl, rfl⟩ := Q_430
    refine k_pure (g' := (mkF m 176 #[.val (.int sl), .val (.int xa), .val (.int xb), .val (.int xc), .val (.int (3 : Int32)), .val (.int za), .val (.int zb), .val (.int zc), .val (.ref a_355), .val (.ref a_384), .val (.ref a_418), .val (.int (6 : Int32)), .val (.int (en (0 : Int32))), .unset, .unset, .unset, .unset, .unset, .unset] [(.int (1 : Int32)), (.int (3 : Int32)), (.int (16 : Int32))])) (fun TT HH tt kk => XS.istore HH hx rfl (hb hby at_169) rfl (l' := #[.val (.int sl), .val (.int xa), .val (.int xb), .val (.int xc), .val (.int (3 : Int32)), .val (.int za), .val (.int zb), .val (.int zc), .val (.ref a_355), .val (.ref a_384), .val (.ref a_418), .val (.int (6 : Int32)), .val (.int (en (0 : Int32))), .unset, .unset, .unset, .unset, .unset, .unset]) rfl (XS.bipush HH hx rfl (hb hby at_171) (XS.iload HH hx rfl (hb hby at_173) rfl (XS.iconst HH hx rfl (hb hby at_175) kk)))) ?_
    refine k_pure (g' := (mkF m 183 #[.val (.int sl), .val (.int xa), .val (.int xb), .val (.int xc), .val (.int (3 : Int32)), .val (.int za), .val (.int zb), .val (.int zc), .val (.ref a_355), .val (.ref a_384), .val (.ref a_418), .val (.int (6 : Int32)), .val (.int (en (0 : Int32))), .unset, .unset, .unset, .unset, .unset, .unset] [(.int (za >>> ((4 : Int32) &&& 31))), (.int (16 : Int32))])) (fun TT HH tt kk => XS.icmpNo HH hx rfl (hb hby at_176) rfl (flt (by decide : ¬ ((3 : Int32) < (1 : Int32)))).1 (XS.iload HH hx rfl (hb hby at_179) rfl (XS.iconst HH hx rfl (hb hby at_181) (XS.ishr HH hx rfl (hb hby at_182) rfl kk)))) ?_
    refine k_pure (g' := (mkF m 188 #[.val (.int sl), .val (.int xa), .val (.int xb), .val (.int xc), .val (.int (3 : Int32)), .val (.int za), .val (.int zb), .val (.int zc), .val (.ref a_355), .val (.ref a_384), .val (.ref a_418), .val (.int (6 : Int32)), .val (.int (en (0 : Int32))), .unset, .unset, .unset, .unset, .unset, .unset] [(.int ((16 : Int32) ||| (za >>> ((4 : Int32) &&& 31))))])) (fun TT HH tt kk => XS.goto HH hx rfl (pc0 := 183) (pc' := 187) rfl (hb hby at_183) (by decide) (by decide) (XS.ior HH hx rfl (hb hby at_187) rfl kk)) ?_
    refine k_callS hx (y := (⟨"com/example/lean_entities/leanentities/session/CursorToWebSafeStringPinLaw", "enc", "(I)C"⟩ : MethodName)) (wT 111 rfl) (wT 112 rfl) (wT 113 rfl) (wT 114 rfl) (by decide) (W := 0) (argsL := [(.int ((16 : Int32) ||| (za >>> ((4 : Int32) &&& 31))))]) (rest := []) (Pays.of_met (rm_enc l Z a0 G1 G3 e0 tb kt hX hY n0 h_413 O_415 ((16 : Int32) ||| (za >>> ((4 : Int32) &&& 31))) (by have r0 : (16 : Int32).toInt = 16 := (by decide); have r1 := rng32 za; have r2 : (za >>> ((4 : Int32) &&& 31)).toInt = za.toInt / 16 := (c_ishr za (4 : Int32) 4 (by decide)); have r3 := rng32 (za >>> ((4 : Int32) &&& 31)); have r4 := rng32 ((16 : Int32) ||| (za >>> ((4 : Int32) &&& 31))); have r5 := t1 b_za; have r6 := b_za; omega) []) (wT 114 rfl) (wT 113 rfl) (by decide) (by decide)) rfl (by rw [hml]; rfl) (lenOf pd__28_I_29_C rfl) rfl (by show 2 * 0 + _ ≤ _; exact Nat.le_of_eq rfl) (hb hby at_188) (by decide) (by decide) ?_
    intro v_431 h_432 bk_433 O_434 z_435 Q_436
    obtain ⟨rfl, rfl, rfl⟩ := Q_436
    refine k_pure (g' := (mkF m 198 #[.val (.int sl), .val (.int xa), .val (.int xb), .val (.int xc), .val (.int (3 : Int32)), .val (.int za), .val (.int zb), .val (.int zc), .val (.ref a_355), .val (.ref a_384), .val (.ref a_418), .val (.int (6 : Int32)), .val (.int (en (0 : Int32))), .val (.int (en ((16 : Int32) ||| (za >>> ((4 : Int32) &&& 31))))), .unset, .unset, .unset, .unset, .unset] [(.int (za &&& (15 : Int32)))])) (fun TT HH tt kk => XS.istore HH hx rfl (hb hby at_191) rfl (l' := #[.val (.int sl), .val (.int xa), .val (.int xb), .val (.int xc), .val (.int (3 : Int32)), .val (.int za), .val (.int zb), .val (.int zc), .val (.ref a_355), .val (.ref a_384), .val (.ref a_418), .val (.int (6 : Int32)), .val (.int (en (0 : Int32))), .val (.int (en ((16 : Int32) ||| (za >>> ((4 : Int32) &&& 31))))), .unset, .unset, .unset, .unset, .unset]) rfl (XS.iload HH hx rfl (hb hby at_193) rfl (XS.bipush HH hx rfl (hb hby at_195) (XS.iand HH hx rfl (hb hby at_197) rfl kk)))) ?_
    refine k_pure (g' := (mkF m 203 #[.val (.int sl), .val (.int xa), .val (.int xb), .val (.int xc), .val (.int (3 : Int32)), .val (.int za), .val (.int zb), .val (.int zc), .val (.ref a_355), .val (.ref a_384), .val (.ref a_418), .val (.int (6 : Int32)), .val (.int (en (0 : Int32))), .val (.int (en ((16 : Int32) ||| (za >>> ((4 : Int32) &&& 31))))), .unset, .unset, .unset, .unset, .unset] [(.int (2 : Int32)), (.int (3 : Int32)), (.int ((za &&& (15 : Int32)) <<< ((2 : Int32) &&& 31)))])) (fun TT HH tt kk => XS.iconst HH hx rfl (hb hby at_198) (XS.ishl HH hx rfl (hb hby at_199) rfl (XS.iload HH hx rfl (hb hby at_200) rfl (XS.iconst HH hx rfl (hb hby at_202) kk)))) ?_
    refine k_pure (g' := (mkF m 211 #[.val (.int sl), .val (.int xa), .val (.int xb), .val (.int xc), .val (.int (3 : Int32)), .val (.int za), .val (.int zb), .val (.int zc), .val (.ref a_355), .val (.ref a_384), .val (.ref a_418), .val (.int (6 : Int32)), .val (.int (en (0 : Int32))), .val (.int (en ((16 : Int32) ||| (za >>> ((4 : Int32) &&& 31))))), .unset, .unset, .unset, .unset, .unset] [(.int (zb >>> ((6 : Int32) &&& 31))), (.int ((za &&& (15 : Int32)) <<< ((2 : Int32) &&& 31)))])) (fun TT HH tt kk => XS.icmpNo HH hx rfl (hb hby at_203) rfl (flt (by decide : ¬ ((3 : Int32) < (2 : Int32)))).1 (XS.iload HH hx rfl (hb hby at_206) rfl (XS.bipush HH hx rfl (hb hby at_208) (XS.ishr HH hx rfl (hb hby at_210) rfl kk)))) ?_
    refine k_pure (g' := (mkF m 216 #[.val (.int sl), .val (.int xa), .val (.int xb), .val (.int xc), .val (.int (3 : Int32)), .val (.int za), .val (.int zb), .val (.int zc), .val (.ref a_355), .val (.ref a_384), .val (.ref a_418), .val (.int (6 : Int32)), .val (.int (en (0 : Int32))), .val (.int (en ((16 : Int32) ||| (za >>> ((4 : Int32) &&& 31))))), .unset, .unset, .unset, .unset, .unset] [(.int (((za &&& (15 : Int32)) <<< ((2 : Int32) &&& 31)) ||| (zb >>> ((6 : Int32) &&& 31))))])) (fun TT HH tt kk => XS.goto HH hx rfl (pc0 := 211) (pc' := 215) rfl (hb hby at_211) (by decide) (by decide) (XS.ior HH hx rfl (hb hby at_215) rfl kk)) ?_
    refine k_callS hx (y := (⟨"com/example/lean_entities/leanentities/session/CursorToWebSafeStringPinLaw", "enc", "(I)C"⟩ : MethodName)) (wT 111 rfl) (wT 112 rfl) (wT 113 rfl) (wT 114 rfl) (by decide) (W := 0) (argsL := [(.int (((za &&& (15 : Int32)) <<< ((2 : Int32) &&& 31)) ||| (zb >>> ((6 : Int32) &&& 31))))]) (rest := []) (Pays.of_met (rm_enc l Z a0 G1 G3 e0 tb kt hX hY n0 h_413 O_415 (((za &&& (15 : Int32)) <<< ((2 : Int32) &&& 31)) ||| (zb >>> ((6 : Int32) &&& 31))) (by have r0 := rng32 za; have r1 : (za &&& (15 : Int32)).toInt = za.toInt % 16 := (c_mask za (15 : Int32) 4 (by decide) (by decide)); have r2 := rng32 (za &&& (15 : Int32)); have r3 : (((za &&& (15 : Int32)) <<< ((2 : Int32) &&& 31)).toInt - (za &&& (15 : Int32)).toInt * 4) % 4294967296 = 0 := (c_ishl (za &&& (15 : Int32)) (2 : Int32) 2 (by decide)); have r4 := rng32 ((za &&& (15 : Int32)) <<< ((2 : Int32) &&& 31)); have r5 := rng32 zb; have r6 : (zb >>> ((6 : Int32) &&& 31)).toInt = zb.toInt / 64 := (c_ishr zb (6 : Int32) 6 (by decide)); have r7 := rng32 (zb >>> ((6 : Int32) &&& 31)); have r8 := rng32 (((za &&& (15 : Int32)) <<< ((2 : Int32) &&& 31)) ||| (zb >>> ((6 : Int32) &&& 31))); have r9 := t2 b_za b_zb; have r10 := b_za; have r11 := b_zb; omega) []) (wT 114 rfl) (wT 113 rfl) (by decide) (by decide)) rfl (by rw [hml]; rfl) (lenOf pd__28_I_29_C rfl) rfl (by show 2 * 0 + _ ≤ _; exact Nat.le_of_eq rfl) (hb hby at_216) (by decide) (by decide) ?_
    intro v_437 h_438 bk_439 O_440 z_441 Q_442
    obtain ⟨rfl, rfl, rfl⟩ := Q_442
    refine k_pure (g' := (mkF m 226 #[.val (.int sl), .val (.int xa), .val (.int xb), .val (.int xc), .val (.int (3 : Int32)), .val (.int za), .val (.int zb), .val (.int zc), .val (.ref a_355), .val (.ref a_384), .val (.ref a_418), .val (.int (6 : Int32)), .val (.int (en (0 : Int32))), .val (.int (en ((16 : Int32) ||| (za >>> ((4 : Int32) &&& 31))))), .val (.int (en (((za &&& (15 : Int32)) <<< ((2 : Int32) &&& 31)) ||| (zb >>> ((6 : Int32) &&& 31))))), .unset, .unset, .unset, .unset] [(.int (zb &&& (63 : Int32)))])) (fun TT HH tt kk => XS.istore HH hx rfl (hb hby at_219) rfl (l' := #[.val (.int sl), .val (.int xa), .val (.int xb), .val (.int xc), .val (.int (3 : Int32)), .val (.int za), .val (.int zb), .val (.int zc), .val (.ref a_355), .val (.ref a_384), .val (.ref a_418), .val (.int (6 : Int32)), .val (.int (en (0 : Int32))), .val (.int (en ((16 : Int32) ||| (za >>> ((4 : Int32) &&& 31))))), .val (.int (en (((za &&& (15 : Int32)) <<< ((2 : Int32) &&& 31)) ||| (zb >>> ((6 : Int32) &&& 31))))), .unset, .unset, .unset, .unset]) rfl (XS.iload HH hx rfl (hb hby at_221) rfl (XS.bipush HH hx rfl (hb hby at_223) (XS.iand HH hx rfl (hb hby at_225) rfl kk)))) ?_
    refine k_callS hx (y := (⟨"com/example/lean_entities/leanentities/session/CursorToWebSafeStringPinLaw", "enc", "(I)C"⟩ : MethodName)) (wT 111 rfl) (wT 112 rfl) (wT 113 rfl) (wT 114 rfl) (by decide) (W := 0) (argsL := [(.int (zb &&& (63 : Int32)))]) (rest := []) (Pays.of_met (rm_enc l Z a0 G1 G3 e0 tb kt hX hY n0 h_413 O_415 (zb &&& (63 : Int32)) (by have r0 := rng32 zb; have r1 : (zb &&& (63 : Int32)).toInt = zb.toInt % 64 := (c_mask zb (63 : Int32) 6 (by decide) (by decide)); have r2 := rng32 (zb &&& (63 : Int32)); have r3 := b_zb; omega) []) (wT 114 rfl) (wT 113 rfl) (by decide) (by decide)) rfl (by rw [hml]; rfl) (lenOf pd__28_I_29_C rfl) rfl (by show 2 * 0 + _ ≤ _; exact Nat.le_of_eq rfl) (hb hby at_226) (by decide) (by decide) ?_
    intro v_443 h_444 bk_445 O_446 z_447 Q_448
    obtain ⟨rfl, rfl, rfl⟩ := Q_448
    refine k_pure (g' := (mkF m 235 #[.val (.int sl), .val (.int xa), .val (.int xb), .val (.int xc), .val (.int (3 : Int32)), .val (.int za), .val (.int zb), .val (.int zc), .val (.ref a_355), .val (.ref a_384), .val (.ref a_418), .val (.int (6 : Int32)), .val (.int (en (0 : Int32))), .val (.int (en ((16 : Int32) ||| (za >>> ((4 : Int32) &&& 31))))), .val (.int (en (((za &&& (15 : Int32)) <<< ((2 : Int32) &&& 31)) ||| (zb >>> ((6 : Int32) &&& 31))))), .val (.int (en (zb &&& (63 : Int32)))), .unset, .unset, .unset] [(.int (zc >>> ((2 : Int32) &&& 31)))])) (fun TT HH tt kk => XS.istore HH hx rfl (hb hby at_229) rfl (l' := #[.val (.int sl), .val (.int xa), .val (.int xb), .val (.int xc), .val (.int (3 : Int32)), .val (.int za), .val (.int zb), .val (.int zc), .val (.ref a_355), .val (.ref a_384), .val (.ref a_418), .val (.int (6 : Int32)), .val (.int (en (0 : Int32))), .val (.int (en ((16 : Int32) ||| (za >>> ((4 : Int32) &&& 31))))), .val (.int (en (((za &&& (15 : Int32)) <<< ((2 : Int32) &&& 31)) ||| (zb >>> ((6 : Int32) &&& 31))))), .val (.int (en (zb &&& (63 : Int32)))), .unset, .unset, .unset]) rfl (XS.iload HH hx rfl (hb hby at_231) rfl (XS.iconst HH hx rfl (hb hby at_233) (XS.ishr HH hx rfl (hb hby at_234) rfl kk)))) ?_
    refine k_callS hx (y := (⟨"com/example/lean_entities/leanentities/session/CursorToWebSafeStringPinLaw", "enc", "(I)C"⟩ : MethodName)) (wT 111 rfl) (wT 112 rfl) (wT 113 rfl) (wT 114 rfl) (by decide) (W := 0) (argsL := [(.int (zc >>> ((2 : Int32) &&& 31)))]) (rest := []) (Pays.of_met (rm_enc l Z a0 G1 G3 e0 tb kt hX hY n0 h_413 O_415 (zc >>> ((2 : Int32) &&& 31)) (by have r0 := rng32 zc; have r1 : (zc >>> ((2 : Int32) &&& 31)).toInt = zc.toInt / 4 := (c_ishr zc (2 : Int32) 2 (by decide)); have r2 := rng32 (zc >>> ((2 : Int32) &&& 31)); have r3 := b_zc; omega) []) (wT 114 rfl) (wT 113 rfl) (by decide) (by decide)) rfl (by rw [hml]; rfl) (lenOf pd__28_I_29_C rfl) rfl (by show 2 * 0 + _ ≤ _; exact Nat.le_of_eq rfl) (hb hby at_235) (by decide) (by decide) ?_
    intro v_449 h_450 bk_451 O_452 z_453 Q_454
    obtain ⟨rfl, rfl, rfl⟩ := Q_454
    refine k_pure (g' := (mkF m 244 #[.val (.int sl), .val (.int xa), .val (.int xb), .val (.int xc), .val (.int (3 : Int32)), .val (.int za), .val (.int zb), .val (.int zc), .val (.ref a_355), .val (.ref a_384), .val (.ref a_418), .val (.int (6 : Int32)), .val (.int (en (0 : Int32))), .val (.int (en ((16 : Int32) ||| (za >>> ((4 : Int32) &&& 31))))), .val (.int (en (((za &&& (15 : Int32)) <<< ((2 : Int32) &&& 31)) ||| (zb >>> ((6 : Int32) &&& 31))))), .val (.int (en (zb &&& (63 : Int32)))), .val (.int (en (zc >>> ((2 : Int32) &&& 31)))), .unset, .unset] [(.int (zc &&& (3 : Int32)))])) (fun TT HH tt kk => XS.istore HH hx rfl (hb hby at_238) rfl (l' := #[.val (.int sl), .val (.int xa), .val (.int xb), .val (.int xc), .val (.int (3 : Int32)), .val (.int za), .val (.int zb), .val (.int zc), .val (.ref a_355), .val (.ref a_384), .val (.ref a_418), .val (.int (6 : Int32)), .val (.int (en (0 : Int32))), .val (.int (en ((16 : Int32) ||| (za >>> ((4 : Int32) &&& 31))))), .val (.int (en (((za &&& (15 : Int32)) <<< ((2 : Int32) &&& 31)) ||| (zb >>> ((6 : Int32) &&& 31))))), .val (.int (en (zb &&& (63 : Int32)))), .val (.int (en (zc >>> ((2 : Int32) &&& 31)))), .unset, .unset]) rfl (XS.iload HH hx rfl (hb hby at_240) rfl (XS.iconst HH hx rfl (hb hby at_242) (XS.iand HH hx rfl (hb hby at_243) rfl kk)))) ?_
    refine k_pure (g' := (mkF m 246 #[.val (.int sl), .val (.int xa), .val (.int xb), .val (.int xc), .val (.int (3 : Int32)), .val (.int za), .val (.int zb), .val (.int zc), .val (.ref a_355), .val (.ref a_384), .val (.ref a_418), .val (.int (6 : Int32)), .val (.int (en (0 : Int32))), .val (.int (en ((16 : Int32) ||| (za >>> ((4 : Int32) &&& 31))))), .val (.int (en (((za &&& (15 : Int32)) <<< ((2 : Int32) &&& 31)) ||| (zb >>> ((6 : Int32) &&& 31))))), .val (.int (en (zb &&& (63 : Int32)))), .val (.int (en (zc >>> ((2 : Int32) &&& 31)))), .unset, .unset] [(.int ((zc &&& (3 : Int32)) <<< ((4 : Int32) &&& 31)))])) (fun TT HH tt kk => XS.iconst HH hx rfl (hb hby at_244) (XS.ishl HH hx rfl (hb hby at_245) rfl kk)) ?_
    refine k_callS hx (y := (⟨"com/example/lean_entities/leanentities/session/CursorToWebSafeStringPinLaw", "enc", "(I)C"⟩ : MethodName)) (wT 111 rfl) (wT 112 rfl) (wT 113 rfl) (wT 114 rfl) (by decide) (W := 0) (argsL := [(.int ((zc &&& (3 : Int32)) <<< ((4 : Int32) &&& 31)))]) (rest := []) (Pays.of_met (rm_enc l Z a0 G1 G3 e0 tb kt hX hY n0 h_413 O_415 ((zc &&& (3 : Int32)) <<< ((4 : Int32) &&& 31)) (by have r0 := rng32 zc; have r1 : (zc &&& (3 : Int32)).toInt = zc.toInt % 4 := (c_mask zc (3 : Int32) 2 (by decide) (by decide)); have r2 := rng32 (zc &&& (3 : Int32)); have r3 : (((zc &&& (3 : Int32)) <<< ((4 : Int32) &&& 31)).toInt - (zc &&& (3 : Int32)).toInt * 16) % 4294967296 = 0 := (c_ishl (zc &&& (3 : Int32)) (4 : Int32) 4 (by decide)); have r4 := rng32 ((zc &&& (3 : Int32)) <<< ((4 : Int32) &&& 31)); have r5 := t5 b_zc; have r6 := b_zc; omega) []) (wT 114 rfl) (wT 113 rfl) (by decide) (by decide)) rfl (by rw [hml]; rfl) (lenOf pd__28_I_29_C rfl) rfl (by show 2 * 0 + _ ≤ _; exact Nat.le_of_eq rfl) (hb hby at_246) (by decide) (by decide) ?_
    intro v_455 h_456 bk_457 O_458 z_459 Q_460
    obtain ⟨rfl, rfl, rfl⟩ := Q_460
    refine k_pure (g' := (mkF m 253 #[.val (.int sl), .val (.int xa), .val (.int xb), .val (.int xc), .val (.int (3 : Int32)), .val (.int za), .val (.int zb), .val (.int zc), .val (.ref a_355), .val (.ref a_384), .val (.ref a_418), .val (.int (6 : Int32)), .val (.int (en (0 : Int32))), .val (.int (en ((16 : Int32) ||| (za >>> ((4 : Int32) &&& 31))))), .val (.int (en (((za &&& (15 : Int32)) <<< ((2 : Int32) &&& 31)) ||| (zb >>> ((6 : Int32) &&& 31))))), .val (.int (en (zb &&& (63 : Int32)))), .val (.int (en (zc >>> ((2 : Int32) &&& 31)))), .val (.int (en ((zc &&& (3 : Int32)) <<< ((4 : Int32) &&& 31)))), .unset] [(.ref a_418)])) (fun TT HH tt kk => XS.istore HH hx rfl (hb hby at_249) rfl (l' := #[.val (.int sl), .val (.int xa), .val (.int xb), .val (.int xc), .val (.int (3 : Int32)), .val (.int za), .val (.int zb), .val (.int zc), .val (.ref a_355), .val (.ref a_384), .val (.ref a_418), .val (.int (6 : Int32)), .val (.int (en (0 : Int32))), .val (.int (en ((16 : Int32) ||| (za >>> ((4 : Int32) &&& 31))))), .val (.int (en (((za &&& (15 : Int32)) <<< ((2 : Int32) &&& 31)) ||| (zb >>> ((6 : Int32) &&& 31))))), .val (.int (en (zb &&& (63 : Int32)))), .val (.int (en (zc >>> ((2 : Int32) &&& 31)))), .val (.int (en ((zc &&& (3 : Int32)) <<< ((4 : Int32) &&& 31)))), .unset]) rfl (XS.aload HH hx rfl (hb hby at_251) rfl rfl kk)) ?_
    refine k_callV hx (y := (⟨"java/lang/String", "length", "()I"⟩ : MethodName)) (z := (⟨"java/lang/String", "length", "()I"⟩ : MethodName)) (wT 115 rfl) (wT 116 rfl) (fun s' hZ => notFace_of_selects (args := #[]) (mv hZ (wT 118 rfl))) (wT 118 rfl) (wT 117 rfl) (by decide) (W := 0) (a := a_418) (argsL := []) (rest := []) (Pays.of_met (rm_sle l Z a0 G1 G3 e0 tb kt hX hY n0 h_413 O_415 a_418 a_419 k_420 [en (0 : Int32), en ((16 : Int32) ||| (za >>> ((4 : Int32) &&& 31))), en (((za &&& (15 : Int32)) <<< ((2 : Int32) &&& 31)) ||| (zb >>> ((6 : Int32) &&& 31))), en (zb &&& (63 : Int32)), en (zc >>> ((2 : Int32) &&& 31)), en ((zc &&& (3 : Int32)) <<< ((4 : Int32) &&& 31))] F_422 []) (wT 119 rfl) (wT 86 rfl) (by decide) (by decide)) F_422.1 rfl (by rw [hml]; rfl) (lenOf pd__28__29_I rfl) rfl (by show 2 * 0 + _ ≤ _; exact Nat.le_of_eq rfl) (hb hby at_253) (by decide) (by decide) ?_
    intro v_461 h_462 bk_463 O_464 z_465 Q_466
    obtain ⟨rfl, rfl, rfl⟩ := Q_466
    refine k_pure (g' := (mkF m 266 #[.val (.int sl), .val (.int xa), .val (.int xb), .val (.int xc), .val (.int (3 : Int32)), .val (.int za), .val (.int zb), .val (.int zc), .val (.ref a_355), .val (.ref a_384), .val (.ref a_418), .val (.int (6 : Int32)), .val (.int (en (0 : Int32))), .val (.int (en ((16 : Int32) ||| (za >>> ((4 : Int32) &&& 31))))), .val (.int (en (((za &&& (15 : Int32)) <<< ((2 : Int32) &&& 31)) ||| (zb >>> ((6 : Int32) &&& 31))))), .val (.int (en (zb &&& (63 : Int32)))), .val (.int (en (zc >>> ((2 : Int32) &&& 31)))), .val (.int (en ((zc &&& (3 : Int32)) <<< ((4 : Int32) &&& 31)))), .unset] [(.int (0 : Int32)), (.ref a_418)])) (fun TT HH tt kk => XS.iload HH hx rfl (hb hby at_256) rfl (XS.icmpYes HH hx rfl (pc0 := 258) (pc' := 263) rfl (hb hby at_258) rfl (teq rfl).1 (by decide) (by decide) (XS.aload HH hx rfl (hb hby at_263) rfl rfl (XS.iconst HH hx rfl (hb hby at_265) kk)))) ?_
    refine k_callV hx (y := (⟨"java/lang/String", "charAt", "(I)C"⟩ : MethodName)) (z := (⟨"java/lang/String", "charAt", "(I)C"⟩ : MethodName)) (wT 125 rfl) (wT 126 rfl) (fun s' hZ => notFace_of_selects (args := #[]) (mv hZ (wT 128 rfl))) (wT 128 rfl) (wT 127 rfl) (by decide) (W := 0) (a := a_418) (argsL := [(.int (0 : Int32))]) (rest := []) (Pays.of_met (rm_chL l Z a0 G1 G3 e0 tb kt hX hY n0 h_413 O_415 a_418 a_419 k_420 [en (0 : Int32), en ((16 : Int32) ||| (za >>> ((4 : Int32) &&& 31))), en (((za &&& (15 : Int32)) <<< ((2 : Int32) &&& 31)) ||| (zb >>> ((6 : Int32) &&& 31))), en (zb &&& (63 : Int32)), en (zc >>> ((2 : Int32) &&& 31)), en ((zc &&& (3 : Int32)) <<< ((4 : Int32) &&& 31))] 0 F_422 (by simp) []) (wT 129 rfl) (wT 86 rfl) (by decide) (by decide)) F_422.1 rfl (by rw [hml]; rfl) (lenOf pd__28_I_29_C rfl) rfl (by show 2 * 0 + _ ≤ _; exact Nat.le_of_eq rfl) (hb hby at_266) (by decide) (by decide) ?_
    intro v_467 h_468 bk_469 O_470 z_471 Q_472
    obtain ⟨rfl, rfl, rfl⟩ := Q_472
    refine k_pure (g' := (mkF m 277 #[.val (.int sl), .val (.int xa), .val (.int xb), .val (.int xc), .val (.int (3 : Int32)), .val (.int za), .val (.int zb), .val (.int zc), .val (.ref a_355), .val (.ref a_384), .val (.ref a_418), .val (.int (6 : Int32)), .val (.int (en (0 : Int32))), .val (.int (en ((16 : Int32) ||| (za >>> ((4 : Int32) &&& 31))))), .val (.int (en (((za &&& (15 : Int32)) <<< ((2 : Int32) &&& 31)) ||| (zb >>> ((6 : Int32) &&& 31))))), .val (.int (en (zb &&& (63 : Int32)))), .val (.int (en (zc >>> ((2 : Int32) &&& 31)))), .val (.int (en ((zc &&& (3 : Int32)) <<< ((4 : Int32) &&& 31)))), .unset] [(.int (1 : Int32)), (.ref a_418)])) (fun TT HH tt kk => XS.iload HH hx rfl (hb hby at_269) rfl (XS.icmpNo HH hx rfl (hb hby at_271) rfl (teq rfl).2 (XS.aload HH hx rfl (hb hby at_274) rfl rfl (XS.iconst HH hx rfl (hb hby at_276) kk)))) ?_
    refine k_callV hx (y := (⟨"java/lang/String", "charAt", "(I)C"⟩ : MethodName)) (z := (⟨"java/lang/String", "charAt", "(I)C"⟩ : MethodName)) (wT 125 rfl) (wT 126 rfl) (fun s' hZ => notFace_of_selects (args := #[]) (mv hZ (wT 128 rfl))) (wT 128 rfl) (wT 127 rfl) (by decide) (W := 0) (a := a_418) (argsL := [(.int (1 : Int32))]) (rest := []) (Pays.of_met (rm_chL l Z a0 G1 G3 e0 tb kt hX hY n0 h_413 O_415 a_418 a_419 k_420 [en (0 : Int32), en ((16 : Int32) ||| (za >>> ((4 : Int32) &&& 31))), en (((za &&& (15 : Int32)) <<< ((2 : Int32) &&& 31)) ||| (zb >>> ((6 : Int32) &&& 31))), en (zb &&& (63 : Int32)), en (zc >>> ((2 : Int32) &&& 31)), en ((zc &&& (3 : Int32)) <<< ((4 : Int32) &&& 31))] 1 F_422 (by simp) []) (wT 129 rfl) (wT 86 rfl) (by decide) (by decide)) F_422.1 rfl (by rw [hml]; rfl) (lenOf pd__28_I_29_C rfl) rfl (by show 2 * 0 + _ ≤ _; exact Nat.le_of_eq rfl) (hb hby at_277) (by decide) (by decide) ?_
    intro v_473 h_474 bk_475 O_476 z_477 Q_478
    obtain ⟨rfl, rfl, rfl⟩ := Q_478
    refine k_pure (g' := (mkF m 290 #[.val (.int sl), .val (.int xa), .val (.int xb), .val (.int xc), .val (.int (3 : Int32)), .val (.int za), .val (.int zb), .val (.int zc), .val (.ref a_355), .val (.ref a_384), .val (.ref a_418), .val (.int (6 : Int32)), .val (.int (en (0 : Int32))), .val (.int (en ((16 : Int32) ||| (za >>> ((4 : Int32) &&& 31))))), .val (.int (en (((za &&& (15 : Int32)) <<< ((2 : Int32) &&& 31)) ||| (zb >>> ((6 : Int32) &&& 31))))), .val (.int (en (zb &&& (63 : Int32)))), .val (.int (en (zc >>> ((2 : Int32) &&& 31)))), .val (.int (en ((zc &&& (3 : Int32)) <<< ((4 : Int32) &&& 31)))), .unset] [(.int (1 : Int32))])) (fun TT HH tt kk => XS.iload HH hx rfl (hb hby at_280) rfl (XS.icmpNo HH hx rfl (hb hby at_282) rfl (teq rfl).2 (XS.iconst HH hx rfl (hb hby at_285) (XS.goto HH hx rfl (pc0 := 286) (pc' := 290) rfl (hb hby at_286) (by decide) (by decide) kk)))) ?_
    refine k_pure (g' := (mkF m 299 #[.val (.int sl), .val (.int xa), .val (.int xb), .val (.int xc), .val (.int (3 : Int32)), .val (.int za), .val (.int zb), .val (.int zc), .val (.ref a_355), .val (.ref a_384), .val (.ref a_418), .val (.int (6 : Int32)), .val (.int (en (0 : Int32))), .val (.int (en ((16 : Int32) ||| (za >>> ((4 : Int32) &&& 31))))), .val (.int (en (((za &&& (15 : Int32)) <<< ((2 : Int32) &&& 31)) ||| (zb >>> ((6 : Int32) &&& 31))))), .val (.int (en (zb &&& (63 : Int32)))), .val (.int (en (zc >>> ((2 : Int32) &&& 31)))), .val (.int (en ((zc &&& (3 : Int32)) <<< ((4 : Int32) &&& 31)))), .val (.int (1 : Int32))] [(.int (6 : Int32))])) (fun TT HH tt kk => XS.istore HH hx rfl (hb hby at_290) rfl (l' := #[.val (.int sl), .val (.int xa), .val (.int xb), .val (.int xc), .val (.int (3 : Int32)), .val (.int za), .val (.int zb), .val (.int zc), .val (.ref a_355), .val (.ref a_384), .val (.ref a_418), .val (.int (6 : Int32)), .val (.int (en (0 : Int32))), .val (.int (en ((16 : Int32) ||| (za >>> ((4 : Int32) &&& 31))))), .val (.int (en (((za &&& (15 : Int32)) <<< ((2 : Int32) &&& 31)) ||| (zb >>> ((6 : Int32) &&& 31))))), .val (.int (en (zb &&& (63 : Int32)))), .val (.int (en (zc >>> ((2 : Int32) &&& 31)))), .val (.int (en ((zc &&& (3 : Int32)) <<< ((4 : Int32) &&& 31)))), .val (.int (1 : Int32))]) rfl (XS.iload HH hx rfl (hb hby at_292) rfl (XS.ifNo HH hx rfl (hb hby at_294) rfl ((if0 _ _).trans (feq (by decide : ¬ ((1 : Int32) = (0 : Int32)))).1) (XS.iload HH hx rfl (hb hby at_297) rfl kk)))) ?_
    refine k_pure (g' := (mkF m 306 #[.val (.int sl), .val (.int xa), .val (.int xb), .val (.int xc), .val (.int (3 : Int32)), .val (.int za), .val (.int zb), .val (.int zc), .val (.ref a_355), .val (.ref a_384), .val (.ref a_418), .val (.int (6 : Int32)), .val (.int (en (0 : Int32))), .val (.int (en ((16 : Int32) ||| (za >>> ((4 : Int32) &&& 31))))), .val (.int (en (((za &&& (15 : Int32)) <<< ((2 : Int32) &&& 31)) ||| (zb >>> ((6 : Int32) &&& 31))))), .val (.int (en (zb &&& (63 : Int32)))), .val (.int (en (zc >>> ((2 : Int32) &&& 31)))), .val (.int (en ((zc &&& (3 : Int32)) <<< ((4 : Int32) &&& 31)))), .val (.int (1 : Int32))] [(.int (2 : Int32)), (.ref a_418)])) (fun TT HH tt kk => XS.iconst HH hx rfl (hb hby at_299) (XS.icmpNo HH hx rfl (hb hby at_300) rfl (flt (by decide : ¬ ((6 : Int32) < (3 : Int32)))).1 (XS.aload HH hx rfl (hb hby at_303) rfl rfl (XS.iconst HH hx rfl (hb hby at_305) kk)))) ?_
    refine k_callV hx (y := (⟨"java/lang/String", "charAt", "(I)C"⟩ : MethodName)) (z := (⟨"java/lang/String", "charAt", "(I)C"⟩ : MethodName)) (wT 125 rfl) (wT 126 rfl) (fun s' hZ => notFace_of_selects (args := #[]) (mv hZ (wT 128 rfl))) (wT 128 rfl) (wT 127 rfl) (by decide) (W := 0) (a := a_418) (argsL := [(.int (2 : Int32))]) (rest := []) (Pays.of_met (rm_chL l Z a0 G1 G3 e0 tb kt hX hY n0 h_413 O_415 a_418 a_419 k_420 [en (0 : Int32), en ((16 : Int32) ||| (za >>> ((4 : Int32) &&& 31))), en (((za &&& (15 : Int32)) <<< ((2 : Int32) &&& 31)) ||| (zb >>> ((6 : Int32) &&& 31))), en (zb &&& (63 : Int32)), en (zc >>> ((2 : Int32) &&& 31)), en ((zc &&& (3 : Int32)) <<< ((4 : Int32) &&& 31))] 2 F_422 (by simp) []) (wT 129 rfl) (wT 86 rfl) (by decide) (by decide)) F_422.1 rfl (by rw [hml]; rfl) (lenOf pd__28_I_29_C rfl) rfl (by show 2 * 0 + _ ≤ _; exact Nat.le_of_eq rfl) (hb hby at_306) (by decide) (by decide) ?_
    intro v_479 h_480 bk_481 O_482 z_483 Q_484
    obtain ⟨rfl, rfl, rfl⟩ := Q_484
    refine k_pure (g' := (mkF m 319 #[.val (.int sl), .val (.int xa), .val (.int xb), .val (.int xc), .val (.int (3 : Int32)), .val (.int za), .val (.int zb), .val (.int zc), .val (.ref a_355), .val (.ref a_384), .val (.ref a_418), .val (.int (6 : Int32)), .val (.int (en (0 : Int32))), .val (.int (en ((16 : Int32) ||| (za >>> ((4 : Int32) &&& 31))))), .val (.int (en (((za &&& (15 : Int32)) <<< ((2 : Int32) &&& 31)) ||| (zb >>> ((6 : Int32) &&& 31))))), .val (.int (en (zb &&& (63 : Int32)))), .val (.int (en (zc >>> ((2 : Int32) &&& 31)))), .val (.int (en ((zc &&& (3 : Int32)) <<< ((4 : Int32) &&& 31)))), .val (.int (1 : Int32))] [(.int (1 : Int32))])) (fun TT HH tt kk => XS.iload HH hx rfl (hb hby at_309) rfl (XS.icmpNo HH hx rfl (hb hby at_311) rfl (teq rfl).2 (XS.iconst HH hx rfl (hb hby at_314) (XS.goto HH hx rfl (pc0 := 315) (pc' := 319) rfl (hb hby at_315) (by decide) (by decide) kk)))) ?_
    refine k_pure (g' := (mkF m 328 #[.val (.int sl), .val (.int xa), .val (.int xb), .val (.int xc), .val (.int (3 : Int32)), .val (.int za), .val (.int zb), .val (.int zc), .val (.ref a_355), .val (.ref a_384), .val (.ref a_418), .val (.int (6 : Int32)), .val (.int (en (0 : Int32))), .val (.int (en ((16 : Int32) ||| (za >>> ((4 : Int32) &&& 31))))), .val (.int (en (((za &&& (15 : Int32)) <<< ((2 : Int32) &&& 31)) ||| (zb >>> ((6 : Int32) &&& 31))))), .val (.int (en (zb &&& (63 : Int32)))), .val (.int (en (zc >>> ((2 : Int32) &&& 31)))), .val (.int (en ((zc &&& (3 : Int32)) <<< ((4 : Int32) &&& 31)))), .val (.int (1 : Int32))] [(.int (6 : Int32))])) (fun TT HH tt kk => XS.istore HH hx rfl (hb hby at_319) rfl (l' := #[.val (.int sl), .val (.int xa), .val (.int xb), .val (.int xc), .val (.int (3 : Int32)), .val (.int za), .val (.int zb), .val (.int zc), .val (.ref a_355), .val (.ref a_384), .val (.ref a_418), .val (.int (6 : Int32)), .val (.int (en (0 : Int32))), .val (.int (en ((16 : Int32) ||| (za >>> ((4 : Int32) &&& 31))))), .val (.int (en (((za &&& (15 : Int32)) <<< ((2 : Int32) &&& 31)) ||| (zb >>> ((6 : Int32) &&& 31))))), .val (.int (en (zb &&& (63 : Int32)))), .val (.int (en (zc >>> ((2 : Int32) &&& 31)))), .val (.int (en ((zc &&& (3 : Int32)) <<< ((4 : Int32) &&& 31)))), .val (.int (1 : Int32))]) rfl (XS.iload HH hx rfl (hb hby at_321) rfl (XS.ifNo HH hx rfl (hb hby at_323) rfl ((if0 _ _).trans (feq (by decide : ¬ ((1 : Int32) = (0 : Int32)))).1) (XS.iload HH hx rfl (hb hby at_326) rfl kk)))) ?_
    refine k_pure (g' := (mkF m 335 #[.val (.int sl), .val (.int xa), .val (.int xb), .val (.int xc), .val (.int (3 : Int32)), .val (.int za), .val (.int zb), .val (.int zc), .val (.ref a_355), .val (.ref a_384), .val (.ref a_418), .val (.int (6 : Int32)), .val (.int (en (0 : Int32))), .val (.int (en ((16 : Int32) ||| (za >>> ((4 : Int32) &&& 31))))), .val (.int (en (((za &&& (15 : Int32)) <<< ((2 : Int32) &&& 31)) ||| (zb >>> ((6 : Int32) &&& 31))))), .val (.int (en (zb &&& (63 : Int32)))), .val (.int (en (zc >>> ((2 : Int32) &&& 31)))), .val (.int (en ((zc &&& (3 : Int32)) <<< ((4 : Int32) &&& 31)))), .val (.int (1 : Int32))] [(.int (3 : Int32)), (.ref a_418)])) (fun TT HH tt kk => XS.iconst HH hx rfl (hb hby at_328) (XS.icmpNo HH hx rfl (hb hby at_329) rfl (flt (by decide : ¬ ((6 : Int32) < (4 : Int32)))).1 (XS.aload HH hx rfl (hb hby at_332) rfl rfl (XS.iconst HH hx rfl (hb hby at_334) kk)))) ?_
    refine k_callV hx (y := (⟨"java/lang/String", "charAt", "(I)C"⟩ : MethodName)) (z := (⟨"java/lang/String", "charAt", "(I)C"⟩ : MethodName)) (wT 125 rfl) (wT 126 rfl) (fun s' hZ => notFace_of_selects (args := #[]) (mv hZ (wT 128 rfl))) (wT 128 rfl) (wT 127 rfl) (by decide) (W := 0) (a := a_418) (argsL := [(.int (3 : Int32))]) (rest := []) (Pays.of_met (rm_chL l Z a0 G1 G3 e0 tb kt hX hY n0 h_413 O_415 a_418 a_419 k_420 [en (0 : Int32), en ((16 : Int32) ||| (za >>> ((4 : Int32) &&& 31))), en (((za &&& (15 : Int32)) <<< ((2 : Int32) &&& 31)) ||| (zb >>> ((6 : Int32) &&& 31))), en (zb &&& (63 : Int32)), en (zc >>> ((2 : Int32) &&& 31)), en ((zc &&& (3 : Int32)) <<< ((4 : Int32) &&& 31))] 3 F_422 (by simp) []) (wT 129 rfl) (wT 86 rfl) (by decide) (by decide)) F_422.1 rfl (by rw [hml]; rfl) (lenOf pd__28_I_29_C rfl) rfl (by show 2 * 0 + _ ≤ _; exact Nat.le_of_eq rfl) (hb hby at_335) (by decide) (by decide) ?_
    intro v_485 h_486 bk_487 O_488 z_489 Q_490
    obtain ⟨rfl, rfl, rfl⟩ := Q_490
    refine k_pure (g' := (mkF m 348 #[.val (.int sl), .val (.int xa), .val (.int xb), .val (.int xc), .val (.int (3 : Int32)), .val (.int za), .val (.int zb), .val (.int zc), .val (.ref a_355), .val (.ref a_384), .val (.ref a_418), .val (.int (6 : Int32)), .val (.int (en (0 : Int32))), .val (.int (en ((16 : Int32) ||| (za >>> ((4 : Int32) &&& 31))))), .val (.int (en (((za &&& (15 : Int32)) <<< ((2 : Int32) &&& 31)) ||| (zb >>> ((6 : Int32) &&& 31))))), .val (.int (en (zb &&& (63 : Int32)))), .val (.int (en (zc >>> ((2 : Int32) &&& 31)))), .val (.int (en ((zc &&& (3 : Int32)) <<< ((4 : Int32) &&& 31)))), .val (.int (1 : Int32))] [(.int (1 : Int32))])) (fun TT HH tt kk => XS.iload HH hx rfl (hb hby at_338) rfl (XS.icmpNo HH hx rfl (hb hby at_340) rfl (teq rfl).2 (XS.iconst HH hx rfl (hb hby at_343) (XS.goto HH hx rfl (pc0 := 344) (pc' := 348) rfl (hb hby at_344) (by decide) (by decide) kk)))) ?_
    refine k_pure (g' := (mkF m 357 #[.val (.int sl), .val (.int xa), .val (.int xb), .val (.int xc), .val (.int (3 : Int32)), .val (.int za), .val (.int zb), .val (.int zc), .val (.ref a_355), .val (.ref a_384), .val (.ref a_418), .val (.int (6 : Int32)), .val (.int (en (0 : Int32))), .val (.int (en ((16 : Int32) ||| (za >>> ((4 : Int32) &&& 31))))), .val (.int (en (((za &&& (15 : Int32)) <<< ((2 : Int32) &&& 31)) ||| (zb >>> ((6 : Int32) &&& 31))))), .val (.int (en (zb &&& (63 : Int32)))), .val (.int (en (zc >>> ((2 : Int32) &&& 31)))), .val (.int (en ((zc &&& (3 : Int32)) <<< ((4 : Int32) &&& 31)))), .val (.int (1 : Int32))] [(.int (6 : Int32))])) (fun TT HH tt kk => XS.istore HH hx rfl (hb hby at_348) rfl (l' := #[.val (.int sl), .val (.int xa), .val (.int xb), .val (.int xc), .val (.int (3 : Int32)), .val (.int za), .val (.int zb), .val (.int zc), .val (.ref a_355), .val (.ref a_384), .val (.ref a_418), .val (.int (6 : Int32)), .val (.int (en (0 : Int32))), .val (.int (en ((16 : Int32) ||| (za >>> ((4 : Int32) &&& 31))))), .val (.int (en (((za &&& (15 : Int32)) <<< ((2 : Int32) &&& 31)) ||| (zb >>> ((6 : Int32) &&& 31))))), .val (.int (en (zb &&& (63 : Int32)))), .val (.int (en (zc >>> ((2 : Int32) &&& 31)))), .val (.int (en ((zc &&& (3 : Int32)) <<< ((4 : Int32) &&& 31)))), .val (.int (1 : Int32))]) rfl (XS.iload HH hx rfl (hb hby at_350) rfl (XS.ifNo HH hx rfl (hb hby at_352) rfl ((if0 _ _).trans (feq (by decide : ¬ ((1 : Int32) = (0 : Int32)))).1) (XS.iload HH hx rfl (hb hby at_355) rfl kk)))) ?_
    refine k_pure (g' := (mkF m 365 #[.val (.int sl), .val (.int xa), .val (.int xb), .val (.int xc), .val (.int (3 : Int32)), .val (.int za), .val (.int zb), .val (.int zc), .val (.ref a_355), .val (.ref a_384), .val (.ref a_418), .val (.int (6 : Int32)), .val (.int (en (0 : Int32))), .val (.int (en ((16 : Int32) ||| (za >>> ((4 : Int32) &&& 31))))), .val (.int (en (((za &&& (15 : Int32)) <<< ((2 : Int32) &&& 31)) ||| (zb >>> ((6 : Int32) &&& 31))))), .val (.int (en (zb &&& (63 : Int32)))), .val (.int (en (zc >>> ((2 : Int32) &&& 31)))), .val (.int (en ((zc &&& (3 : Int32)) <<< ((4 : Int32) &&& 31)))), .val (.int (1 : Int32))] [(.int (4 : Int32)), (.ref a_418)])) (fun TT HH tt kk => XS.bipush HH hx rfl (hb hby at_357) (XS.icmpNo HH hx rfl (hb hby at_359) rfl (flt (by decide : ¬ ((6 : Int32) < (6 : Int32)))).1 (XS.aload HH hx rfl (hb hby at_362) rfl rfl (XS.iconst HH hx rfl (hb hby at_364) kk)))) ?_
    refine k_callV hx (y := (⟨"java/lang/String", "charAt", "(I)C"⟩ : MethodName)) (z := (⟨"java/lang/String", "charAt", "(I)C"⟩ : MethodName)) (wT 125 rfl) (wT 126 rfl) (fun s' hZ => notFace_of_selects (args := #[]) (mv hZ (wT 128 rfl))) (wT 128 rfl) (wT 127 rfl) (by decide) (W := 0) (a := a_418) (argsL := [(.int (4 : Int32))]) (rest := []) (Pays.of_met (rm_chL l Z a0 G1 G3 e0 tb kt hX hY n0 h_413 O_415 a_418 a_419 k_420 [en (0 : Int32), en ((16 : Int32) ||| (za >>> ((4 : Int32) &&& 31))), en (((za &&& (15 : Int32)) <<< ((2 : Int32) &&& 31)) ||| (zb >>> ((6 : Int32) &&& 31))), en (zb &&& (63 : Int32)), en (zc >>> ((2 : Int32) &&& 31)), en ((zc &&& (3 : Int32)) <<< ((4 : Int32) &&& 31))] 4 F_422 (by simp) []) (wT 129 rfl) (wT 86 rfl) (by decide) (by decide)) F_422.1 rfl (by rw [hml]; rfl) (lenOf pd__28_I_29_C rfl) rfl (by show 2 * 0 + _ ≤ _; exact Nat.le_of_eq rfl) (hb hby at_365) (by decide) (by decide) ?_
    intro v_491 h_492 bk_493 O_494 z_495 Q_496
    obtain ⟨rfl, rfl, rfl⟩ := Q_496
    refine k_pure (g' := (mkF m 376 #[.val (.int sl), .val (.int xa), .val (.int xb), .val (.int xc), .val (.int (3 : Int32)), .val (.int za), .val (.int zb), .val (.int zc), .val (.ref a_355), .val (.ref a_384), .val (.ref a_418), .val (.int (6 : Int32)), .val (.int (en (0 : Int32))), .val (.int (en ((16 : Int32) ||| (za >>> ((4 : Int32) &&& 31))))), .val (.int (en (((za &&& (15 : Int32)) <<< ((2 : Int32) &&& 31)) ||| (zb >>> ((6 : Int32) &&& 31))))), .val (.int (en (zb &&& (63 : Int32)))), .val (.int (en (zc >>> ((2 : Int32) &&& 31)))), .val (.int (en ((zc &&& (3 : Int32)) <<< ((4 : Int32) &&& 31)))), .val (.int (1 : Int32))] [(.int (5 : Int32)), (.ref a_418)])) (fun TT HH tt kk => XS.iload HH hx rfl (hb hby at_368) rfl (XS.icmpNo HH hx rfl (hb hby at_370) rfl (teq rfl).2 (XS.aload HH hx rfl (hb hby at_373) rfl rfl (XS.iconst HH hx rfl (hb hby at_375) kk)))) ?_
    refine k_callV hx (y := (⟨"java/lang/String", "charAt", "(I)C"⟩ : MethodName)) (z := (⟨"java/lang/String", "charAt", "(I)C"⟩ : MethodName)) (wT 125 rfl) (wT 126 rfl) (fun s' hZ => notFace_of_selects (args := #[]) (mv hZ (wT 128 rfl))) (wT 128 rfl) (wT 127 rfl) (by decide) (W := 0) (a := a_418) (argsL := [(.int (5 : Int32))]) (rest := []) (Pays.of_met (rm_chL l Z a0 G1 G3 e0 tb kt hX hY n0 h_413 O_415 a_418 a_419 k_420 [en (0 : Int32), en ((16 : Int32) ||| (za >>> ((4 : Int32) &&& 31))), en (((za &&& (15 : Int32)) <<< ((2 : Int32) &&& 31)) ||| (zb >>> ((6 : Int32) &&& 31))), en (zb &&& (63 : Int32)), en (zc >>> ((2 : Int32) &&& 31)), en ((zc &&& (3 : Int32)) <<< ((4 : Int32) &&& 31))] 5 F_422 (by simp) []) (wT 129 rfl) (wT 86 rfl) (by decide) (by decide)) F_422.1 rfl (by rw [hml]; rfl) (lenOf pd__28_I_29_C rfl) rfl (by show 2 * 0 + _ ≤ _; exact Nat.le_of_eq rfl) (hb hby at_376) (by decide) (by decide) ?_
    intro v_497 h_498 bk_499 O_500 z_501 Q_502
    obtain ⟨rfl, rfl, rfl⟩ := Q_502
    refine k_pure (g' := (mkF m 389 #[.val (.int sl), .val (.int xa), .val (.int xb), .val (.int xc), .val (.int (3 : Int32)), .val (.int za), .val (.int zb), .val (.int zc), .val (.ref a_355), .val (.ref a_384), .val (.ref a_418), .val (.int (6 : Int32)), .val (.int (en (0 : Int32))), .val (.int (en ((16 : Int32) ||| (za >>> ((4 : Int32) &&& 31))))), .val (.int (en (((za &&& (15 : Int32)) <<< ((2 : Int32) &&& 31)) ||| (zb >>> ((6 : Int32) &&& 31))))), .val (.int (en (zb &&& (63 : Int32)))), .val (.int (en (zc >>> ((2 : Int32) &&& 31)))), .val (.int (en ((zc &&& (3 : Int32)) <<< ((4 : Int32) &&& 31)))), .val (.int (1 : Int32))] [(.int (1 : Int32))])) (fun TT HH tt kk => XS.iload HH hx rfl (hb hby at_379) rfl (XS.icmpNo HH hx rfl (hb hby at_381) rfl (teq rfl).2 (XS.iconst HH hx rfl (hb hby at_384) (XS.goto HH hx rfl (pc0 := 385) (pc' := 389) rfl (hb hby at_385) (by decide) (by decide) kk)))) ?_
    refine k_pure (g' := (mkF m 393 #[.val (.int sl), .val (.int xa), .val (.int xb), .val (.int xc), .val (.int (3 : Int32)), .val (.int za), .val (.int zb), .val (.int zc), .val (.ref a_355), .val (.ref a_384), .val (.ref a_418), .val (.int (6 : Int32)), .val (.int (en (0 : Int32))), .val (.int (en ((16 : Int32) ||| (za >>> ((4 : Int32) &&& 31))))), .val (.int (en (((za &&& (15 : Int32)) <<< ((2 : Int32) &&& 31)) ||| (zb >>> ((6 : Int32) &&& 31))))), .val (.int (en (zb &&& (63 : Int32)))), .val (.int (en (zc >>> ((2 : Int32) &&& 31)))), .val (.int (en ((zc &&& (3 : Int32)) <<< ((4 : Int32) &&& 31)))), .val (.int (1 : Int32))] [(.int (1 : Int32))])) (fun TT HH tt kk => XS.istore HH hx rfl (hb hby at_389) rfl (l' := #[.val (.int sl), .val (.int xa), .val (.int xb), .val (.int xc), .val (.int (3 : Int32)), .val (.int za), .val (.int zb), .val (.int zc), .val (.ref a_355), .val (.ref a_384), .val (.ref a_418), .val (.int (6 : Int32)), .val (.int (en (0 : Int32))), .val (.int (en ((16 : Int32) ||| (za >>> ((4 : Int32) &&& 31))))), .val (.int (en (((za &&& (15 : Int32)) <<< ((2 : Int32) &&& 31)) ||| (zb >>> ((6 : Int32) &&& 31))))), .val (.int (en (zb &&& (63 : Int32)))), .val (.int (en (zc >>> ((2 : Int32) &&& 31)))), .val (.int (en ((zc &&& (3 : Int32)) <<< ((4 : Int32) &&& 31)))), .val (.int (1 : Int32))]) rfl (XS.iload HH hx rfl (hb hby at_391) rfl kk)) ?_
    exact k_retN hx hlk hret (by simp) (hb hby at_393) (by decide) (by decide) ⟨rfl, rfl, ((((((((Keep.refl _ _).ext E_360).wr W_368 (Or.inr (by omega))).wr W_374 (Or.inr (by omega))).wr W_380 (Or.inr (by omega))).ext E_387).trans K_404 (kkS (Or.inr (by omega)) kk0)).trans K_421 kk0)⟩
set_option maxRecDepth 65536 in
set_option maxHeartbeats 40000000 in
theorem comes_1 {Post : Tables → Env → Array Value → State → Outcome → State → Prop} (hpost : ∀ tb e args s v u, (limb_1_1.after args s (.returned v) u = true ∧ limb_1_2.after args s (.returned v) u = true ∧ True) → Framed s (.returned v) u (Jvm.fieldLocs frame_1_writes args s ++ Jvm.arrayLocs frame_1_arrays args s ++ Jvm.staticLocs frame_1_statics s) 24 128 → Post tb e args s (.returned v) u) :
    ArmFor flags0 classFile x code maxLocals ret World_1 tables_1 room_1 Calls_1 rest_1 Pre_1 Post := by
  intro l hfl _ _ p e ha hc hk s m args below hf hA hF happ hP
  obtain ⟨hcalls, hrest, hpre⟩ := hP
  obtain ⟨-, -, -, hnamed, -, -, -, hat⟩ := (Spec.applies_iff hf).mp happ
  obtain ⟨hg, hn⟩ := and_e (Cond.before_iff.mp (show (Jvm.Cond.and given_1 narrow_1).before args s = true from hpre))
  obtain ⟨q0, r0⟩ := and_e hg
  obtain ⟨q1, r1⟩ := and_e r0
  obtain ⟨q2, r2⟩ := and_e r1
  obtain ⟨q3, r3⟩ := and_e r2
  obtain ⟨w0, w1, w2, w3, rfl⟩ : ∃ w0 w1 w2 w3 : Value, args = #[w0, w1, w2, w3] := by
    have hs : args.size = 4 := by simpa [Cond.value, given_1] using q0
    obtain ⟨L⟩ := args
    match L, hs with
    | [w0, w1, w2, w3], _ => exact ⟨w0, w1, w2, w3, rfl⟩
  have hw := fun d (hd : d ∈ tables_1) => atoms_spec (ws := Jvm.Cond.code x code maxLocals ret :: tables_1) hat d (List.mem_cons_of_mem _ hd)
  have wT : ∀ (i : Nat) {d : Jvm.Cond}, tables_1[i]? = some d → d.before _ s = true := fun i d h => hw d (List.mem_of_getElem? h)
  obtain ⟨hsets, hown0⟩ := atoms_of _ (rest_1_c_eq ▸ (show rest_1_c.before _ s = true from hrest))
  obtain ⟨i0, e0⟩ := is_v q1
  obtain rfl : w0 = (.int i0) := Option.some.inj e0
  obtain ⟨i1, e1⟩ := is_v q2
  obtain rfl : w1 = (.int i1) := Option.some.inj e1
  obtain ⟨i2, e2⟩ := is_v q3
  obtain rfl : w2 = (.int i2) := Option.some.inj e2
  obtain ⟨i3, e3⟩ := is_v r3
  obtain rfl : w3 = (.int i3) := Option.some.inj e3
  obtain ⟨G1, eG1⟩ := is_v (Cond.before_iff.mp (hsets _ (List.mem_of_getElem? (i := 77) rfl)))
  have S1 : Sta s s.heap "java/lang/String" "COMPACT_STRINGS" "Z" (.int G1) := Sta.start eG1 (Or.inl (hsets _ (List.mem_of_getElem? (i := 76) rfl)))
  have P1 : ¬ (G1 = (0 : Int32)) := gotF (Cond.eq_ints eG1 (Term.int_eval (0))) (not_v (Cond.before_iff.mp (hsets _ (List.mem_of_getElem? (i := 78) rfl))))
  obtain ⟨G3, eG3, P3⟩ := isR_v (Cond.before_iff.mp (hsets _ (List.mem_of_getElem? (i := 84) rfl)))
  have S3 : Sta s s.heap "jdk/internal/util/Preconditions" "SIOOBE_FORMATTER" "Ljava/util/function/BiFunction;" G3 := Sta.start eG3 (Or.inl (hsets _ (List.mem_of_getElem? (i := 83) rfl)))
  have hE : EW s #[(.int i0), (.int i1), (.int i2), (.int i3)] EL1 := EW.nil
  have hFit : Fit s := fit_of hF
  obtain ⟨e0, ee0, x_e⟩ := exa_start (hsets _ (List.mem_of_getElem? (i := 2) rfl))
  have s_e := Sta.start ee0 (Or.inl (hsets _ (List.mem_of_getElem? (i := 1) rfl)))
  have f_u := fld_start ee0 (ev_int (hsets _ (List.mem_of_getElem? (i := 3) rfl)))
  have f_n := fld_start ee0 (ev_null (Cond.before_iff.mp (hsets _ (List.mem_of_getElem? (i := 4) rfl))))
  have f_l := fld_start ee0 (ev_int (hsets _ (List.mem_of_getElem? (i := 5) rfl)))
  have f_p := fld_start ee0 (ev_int (hsets _ (List.mem_of_getElem? (i := 6) rfl)))
  obtain ⟨tb, et, -⟩ := exa_start (hsets _ (List.mem_of_getElem? (i := 10) rfl))
  have s_t := Sta.start et (Or.inl (hsets _ (List.mem_of_getElem? (i := 8) rfl)))
  obtain ⟨kt, a_t⟩ := arv_start (vs := [(.int 65), (.int 66), (.int 67), (.int 68), (.int 69), (.int 70), (.int 71), (.int 72), (.int 73), (.int 74), (.int 75), (.int 76), (.int 77), (.int 78), (.int 79), (.int 80), (.int 81), (.int 82), (.int 83), (.int 84), (.int 85), (.int 86), (.int 87), (.int 88), (.int 89), (.int 90), (.int 97), (.int 98), (.int 99), (.int 100), (.int 101), (.int 102), (.int 103), (.int 104), (.int 105), (.int 106), (.int 107), (.int 108), (.int 109), (.int 110), (.int 111), (.int 112), (.int 113), (.int 114), (.int 115), (.int 116), (.int 117), (.int 118), (.int 119), (.int 120), (.int 121), (.int 122), (.int 48), (.int 49), (.int 50), (.int 51), (.int 52), (.int 53), (.int 54), (.int 55), (.int 56), (.int 57), (.int 45), (.int 95)]) (dv := (.int 0)) hFit et (Cond.before_iff.mp (hsets _ (List.mem_of_getElem? (i := 9) rfl))) (ev_int (hsets _ (List.mem_of_getElem? (i := 11) rfl))) (by decide) (by decide) (fun cl hc => ⟨(el (elem_in (ev_int (hsets _ (List.mem_of_getElem? (i := 12) rfl))) et (Term.int_eval _) hc).2 (by decide)), (el (elem_in (ev_int (hsets _ (List.mem_of_getElem? (i := 13) rfl))) et (Term.int_eval _) hc).2 (by decide)), (el (elem_in (ev_int (hsets _ (List.mem_of_getElem? (i := 14) rfl))) et (Term.int_eval _) hc).2 (by decide)), (el (elem_in (ev_int (hsets _ (List.mem_of_getElem? (i := 15) rfl))) et (Term.int_eval _) hc).2 (by decide)), (el (elem_in (ev_int (hsets _ (List.mem_of_getElem? (i := 16) rfl))) et (Term.int_eval _) hc).2 (by decide)), (el (elem_in (ev_int (hsets _ (List.mem_of_getElem? (i := 17) rfl))) et (Term.int_eval _) hc).2 (by decide)), (el (elem_in (ev_int (hsets _ (List.mem_of_getElem? (i := 18) rfl))) et (Term.int_eval _) hc).2 (by decide)), (el (elem_in (ev_int (hsets _ (List.mem_of_getElem? (i := 19) rfl))) et (Term.int_eval _) hc).2 (by decide)), (el (elem_in (ev_int (hsets _ (List.mem_of_getElem? (i := 20) rfl))) et (Term.int_eval _) hc).2 (by decide)), (el (elem_in (ev_int (hsets _ (List.mem_of_getElem? (i := 21) rfl))) et (Term.int_eval _) hc).2 (by decide)), (el (elem_in (ev_int (hsets _ (List.mem_of_getElem? (i := 22) rfl))) et (Term.int_eval _) hc).2 (by decide)), (el (elem_in (ev_int (hsets _ (List.mem_of_getElem? (i := 23) rfl))) et (Term.int_eval _) hc).2 (by decide)), (el (elem_in (ev_int (hsets _ (List.mem_of_getElem? (i := 24) rfl))) et (Term.int_eval _) hc).2 (by decide)), (el (elem_in (ev_int (hsets _ (List.mem_of_getElem? (i := 25) rfl))) et (Term.int_eval _) hc).2 (by decide)), (el (elem_in (ev_int (hsets _ (List.mem_of_getElem? (i := 26) rfl))) et (Term.int_eval _) hc).2 (by decide)), (el (elem_in (ev_int (hsets _ (List.mem_of_getElem? (i := 27) rfl))) et (Term.int_eval _) hc).2 (by decide)), (el (elem_in (ev_int (hsets _ (List.mem_of_getElem? (i := 28) rfl))) et (Term.int_eval _) hc).2 (by decide)), (el (elem_in (ev_int (hsets _ (List.mem_of_getElem? (i := 29) rfl))) et (Term.int_eval _) hc).2 (by decide)), (el (elem_in (ev_int (hsets _ (List.mem_of_getElem? (i := 30) rfl))) et (Term.int_eval _) hc).2 (by decide)), (el (elem_in (ev_int (hsets _ (List.mem_of_getElem? (i := 31) rfl))) et (Term.int_eval _) hc).2 (by decide)), (el (elem_in (ev_int (hsets _ (List.mem_of_getElem? (i := 32) rfl))) et (Term.int_eval _) hc).2 (by decide)), (el (elem_in (ev_int (hsets _ (List.mem_of_getElem? (i := 33) rfl))) et (Term.int_eval _) hc).2 (by decide)), (el (elem_in (ev_int (hsets _ (List.mem_of_getElem? (i := 34) rfl))) et (Term.int_eval _) hc).2 (by decide)), (el (elem_in (ev_int (hsets _ (List.mem_of_getElem? (i := 35) rfl))) et (Term.int_eval _) hc).2 (by decide)), (el (elem_in (ev_int (hsets _ (List.mem_of_getElem? (i := 36) rfl))) et (Term.int_eval _) hc).2 (by decide)), (el (elem_in (ev_int (hsets _ (List.mem_of_getElem? (i := 37) rfl))) et (Term.int_eval _) hc).2 (by decide)), (el (elem_in (ev_int (hsets _ (List.mem_of_getElem? (i := 38) rfl))) et (Term.int_eval _) hc).2 (by decide)), (el (elem_in (ev_int (hsets _ (List.mem_of_getElem? (i := 39) rfl))) et (Term.int_eval _) hc).2 (by decide)), (el (elem_in (ev_int (hsets _ (List.mem_of_getElem? (i := 40) rfl))) et (Term.int_eval _) hc).2 (by decide)), (el (elem_in (ev_int (hsets _ (List.mem_of_getElem? (i := 41) rfl))) et (Term.int_eval _) hc).2 (by decide)), (el (elem_in (ev_int (hsets _ (List.mem_of_getElem? (i := 42) rfl))) et (Term.int_eval _) hc).2 (by decide)), (el (elem_in (ev_int (hsets _ (List.mem_of_getElem? (i := 43) rfl))) et (Term.int_eval _) hc).2 (by decide)), (el (elem_in (ev_int (hsets _ (List.mem_of_getElem? (i := 44) rfl))) et (Term.int_eval _) hc).2 (by decide)), (el (elem_in (ev_int (hsets _ (List.mem_of_getElem? (i := 45) rfl))) et (Term.int_eval _) hc).2 (by decide)), (el (elem_in (ev_int (hsets _ (List.mem_of_getElem? (i := 46) rfl))) et (Term.int_eval _) hc).2 (by decide)), (el (elem_in (ev_int (hsets _ (List.mem_of_getElem? (i := 47) rfl))) et (Term.int_eval _) hc).2 (by decide)), (el (elem_in (ev_int (hsets _ (List.mem_of_getElem? (i := 48) rfl))) et (Term.int_eval _) hc).2 (by decide)), (el (elem_in (ev_int (hsets _ (List.mem_of_getElem? (i := 49) rfl))) et (Term.int_eval _) hc).2 (by decide)), (el (elem_in (ev_int (hsets _ (List.mem_of_getElem? (i := 50) rfl))) et (Term.int_eval _) hc).2 (by decide)), (el (elem_in (ev_int (hsets _ (List.mem_of_getElem? (i := 51) rfl))) et (Term.int_eval _) hc).2 (by decide)), (el (elem_in (ev_int (hsets _ (List.mem_of_getElem? (i := 52) rfl))) et (Term.int_eval _) hc).2 (by decide)), (el (elem_in (ev_int (hsets _ (List.mem_of_getElem? (i := 53) rfl))) et (Term.int_eval _) hc).2 (by decide)), (el (elem_in (ev_int (hsets _ (List.mem_of_getElem? (i := 54) rfl))) et (Term.int_eval _) hc).2 (by decide)), (el (elem_in (ev_int (hsets _ (List.mem_of_getElem? (i := 55) rfl))) et (Term.int_eval _) hc).2 (by decide)), (el (elem_in (ev_int (hsets _ (List.mem_of_getElem? (i := 56) rfl))) et (Term.int_eval _) hc).2 (by decide)), (el (elem_in (ev_int (hsets _ (List.mem_of_getElem? (i := 57) rfl))) et (Term.int_eval _) hc).2 (by decide)), (el (elem_in (ev_int (hsets _ (List.mem_of_getElem? (i := 58) rfl))) et (Term.int_eval _) hc).2 (by decide)), (el (elem_in (ev_int (hsets _ (List.mem_of_getElem? (i := 59) rfl))) et (Term.int_eval _) hc).2 (by decide)), (el (elem_in (ev_int (hsets _ (List.mem_of_getElem? (i := 60) rfl))) et (Term.int_eval _) hc).2 (by decide)), (el (elem_in (ev_int (hsets _ (List.mem_of_getElem? (i := 61) rfl))) et (Term.int_eval _) hc).2 (by decide)), (el (elem_in (ev_int (hsets _ (List.mem_of_getElem? (i := 62) rfl))) et (Term.int_eval _) hc).2 (by decide)), (el (elem_in (ev_int (hsets _ (List.mem_of_getElem? (i := 63) rfl))) et (Term.int_eval _) hc).2 (by decide)), (el (elem_in (ev_int (hsets _ (List.mem_of_getElem? (i := 64) rfl))) et (Term.int_eval _) hc).2 (by decide)), (el (elem_in (ev_int (hsets _ (List.mem_of_getElem? (i := 65) rfl))) et (Term.int_eval _) hc).2 (by decide)), (el (elem_in (ev_int (hsets _ (List.mem_of_getElem? (i := 66) rfl))) et (Term.int_eval _) hc).2 (by decide)), (el (elem_in (ev_int (hsets _ (List.mem_of_getElem? (i := 67) rfl))) et (Term.int_eval _) hc).2 (by decide)), (el (elem_in (ev_int (hsets _ (List.mem_of_getElem? (i := 68) rfl))) et (Term.int_eval _) hc).2 (by decide)), (el (elem_in (ev_int (hsets _ (List.mem_of_getElem? (i := 69) rfl))) et (Term.int_eval _) hc).2 (by decide)), (el (elem_in (ev_int (hsets _ (List.mem_of_getElem? (i := 70) rfl))) et (Term.int_eval _) hc).2 (by decide)), (el (elem_in (ev_int (hsets _ (List.mem_of_getElem? (i := 71) rfl))) et (Term.int_eval _) hc).2 (by decide)), (el (elem_in (ev_int (hsets _ (List.mem_of_getElem? (i := 72) rfl))) et (Term.int_eval _) hc).2 (by decide)), (el (elem_in (ev_int (hsets _ (List.mem_of_getElem? (i := 73) rfl))) et (Term.int_eval _) hc).2 (by decide)), (el (elem_in (ev_int (hsets _ (List.mem_of_getElem? (i := 74) rfl))) et (Term.int_eval _) hc).2 (by decide)), (el (elem_in (ev_int (hsets _ (List.mem_of_getElem? (i := 75) rfl))) et (Term.int_eval _) hc).2 (by decide)), trivial⟩)
  have hY : More s e0 tb kt := ⟨s_e, x_e, f_u, f_n, f_l, f_p, s_t, a_t⟩
  have hX : Ctx s _ G1 G3 := ⟨hw, hE, S1, P1, S3, P3⟩
  obtain ⟨n, o, h1, h2, h3, v, L, bk', rfl, ⟨⟨rfl, -⟩, N, -⟩, hq⟩ := rm_law l s _ G1 G3 e0 tb kt hX hY s.heap.size s.heap (Old.start s) i0 i1 i2 i3  tables_1 p e ha hc hk s m _ below hf ((Spec.applies_iff_loose hf).mp happ).1 ⟨rfl, State.Warmed39.refl s, rfl, (fun _ hp => nomatch hp), (fun _ ⟨_, hp, _⟩ => nomatch hp)⟩ trivial
  refine ⟨n, _, h1, h2, h3, hpost _ _ _ _ _ _ ⟨Cond.after_iff.mpr rfl, Cond.after_iff.mpr (eq_i res_at (Term.int_eval (1)) rfl), trivial⟩ ⟨hq.1.1, hq.2, (hq.1.2.2.2.sift fun y hy => Or.inr (N y hy)).mono (by decide) (by decide)⟩⟩
theorem main_1_1 : Claimed_1_1 := comes_1 fun _ _ _ _ _ _ h hF => ⟨h.1, hF⟩
theorem main_1_2 : Claimed_1_2 := comes_1 fun _ _ _ _ _ _ h hF => ⟨h.2.1, hF⟩
end Jvm.Pilot.@@N@@
namespace Jvm.Pilot.@@N@@
open Jvm Jvm.ClassFile Sem Op Lib Jvm.Free Jvm.Stand Jvm.Pilot.@@N@@.Jvm.D
/-! MADE BY PROGRAM (witnessworld.py) out of the Statement's table words and the real class files: 24 classes; the members and pool entries that the words name. The judged class is class 1, her method 2. -/
namespace start1
open Jvm.ClassFile
def u (s : String) : CpInfo := .utf8 (stringToUtf16 s)
/-- a pool by its gaps: so many unusable entries, then the entry; so many at the end -/
def gap : Nat → List CpInfo → List CpInfo
  | 0, r => r
  | n + 1, r => .unusable :: gap n r
def poolList (es : List (Nat × CpInfo)) (last : Nat) : List CpInfo := es.foldr (fun e r => gap e.1 (e.2 :: r)) (gap last [])
def pool (es : List (Nat × CpInfo)) (last : Nat) : Array CpInfo := ⟨poolList es last⟩
def fileOf (pool : Array CpInfo) (this : Nat) (attrs : Array Attribute := #[]) (ms : Array MethodInfo := #[]) (fl : Nat := 33) (sup : Nat := 0) (ifs : Array Nat := #[]) (fds : Array FieldInfo := #[]) : ClassFile where
  minorVersion := 0
  majorVersion := 65
  constantPool := pool
  accessFlags := fl
  thisClass := this
  superClass := sup
  interfaces := ifs
  fields := fds
  methods := ms
  attributes := attrs
def plain (name : String) (sup : Option ClassId) : Class where
  name := name
  kind := .ordinary
  loader := none
  accessFlags := 33
  super := sup
  interfaces := #[]
  cf := none
  fields := #[]
  methods := #[]
  instanceTypes := #[]
  staticTypes := #[]
  resolved := #[]
  callSites := []
  init := .initialized
  statics := none
  mirror := none

def pool0 : Array CpInfo := pool [(5, u "<init>"), (0, u "()V"), (1, .class_ 10), (1, u "java/lang/Object"), (85, u "clone"), (0, u "()Ljava/lang/Object;")] 26

def k0c0 : Code := { maxStack := 0, maxLocals := 1, code := object_method_1_code, exceptionTable := #[], attributes := #[] }
def k0m0 : Method := { name := "<init>", desc := "()V", sig := { parameters := [], returnType := none }, accessFlags := 1, code := some k0c0 }
def k0m1 : Method := { name := "clone", desc := "()Ljava/lang/Object;", sig := { parameters := [], returnType := some (.object "java/lang/Object") }, accessFlags := 260, code := none }
/-- java/lang/Object -/
def k0 : Class := { plain "java/lang/Object" none with
  accessFlags := 33
  interfaces := #[]
  cf := some (fileOf pool0 8 #[] #[{ accessFlags := 1, nameIndex := 5, descriptorIndex := 6, attributes := #[] }, { accessFlags := 260, nameIndex := 96, descriptorIndex := 97, attributes := #[] }] 33 0 #[] #[])
  fields := #[]
  methods := #[k0m0, k0m1]
  instanceTypes := #[]
  staticTypes := #[]
  resolved := Array.replicate 124 none
  statics := none }

def pool1 : Array CpInfo := pool [(2, .class_ 4), (1, u "java/lang/Object"), (0, u "<init>"), (0, u "()V"), (0, .class_ 8), (0, u "com/example/lean_entities/leanentities/session/Cursor"), (0, .methodref 7 10), (0, .nameAndType 5 11), (0, u "([B)V"), (0, .methodref 7 13), (0, .nameAndType 14 15), (0, u "toWebSafeString"), (0, u "()Ljava/lang/String;"), (0, .methodref 17 18), (0, .class_ 19), (0, .nameAndType 20 21), (0, u "com/example/lean_entities/leanentities/session/CursorToWebSafeStringPinLaw"), (0, u "enc"), (0, u "(I)C"), (0, .methodref 23 24), (0, .class_ 25), (0, .nameAndType 26 27), (0, u "java/lang/String"), (0, u "length"), (0, u "()I"), (0, .methodref 23 29), (0, .nameAndType 30 21), (0, u "charAt"), (3, u "law"), (0, u "(IIII)Z")] 4

def k1m0 : Method := { name := "<init>", desc := "()V", sig := { parameters := [], returnType := none }, accessFlags := 1, code := none }
def k1c1 : Code := { maxStack := 3, maxLocals := 1, code := method_2_code, exceptionTable := #[], attributes := #[] }
def k1m1 : Method := { name := "enc", desc := "(I)C", sig := { parameters := [.int], returnType := some .char }, accessFlags := 10, code := some k1c1 }
def k1c2 : Code := { maxStack := 4, maxLocals := 19, code := code, exceptionTable := #[], attributes := #[] }
def k1m2 : Method := { name := "law", desc := "(IIII)Z", sig := { parameters := [.int, .int, .int, .int], returnType := some .boolean }, accessFlags := 9, code := some k1c2 }
/-- com/example/lean_entities/leanentities/session/CursorToWebSafeStringPinLaw -/
def k1 : Class := { plain "com/example/lean_entities/leanentities/session/CursorToWebSafeStringPinLaw" (some 0) with
  accessFlags := 49
  interfaces := #[]
  cf := some (fileOf pool1 17 #[] #[{ accessFlags := 1, nameIndex := 5, descriptorIndex := 6, attributes := #[] }, { accessFlags := 10, nameIndex := 20, descriptorIndex := 21, attributes := #[] }, { accessFlags := 9, nameIndex := 34, descriptorIndex := 35, attributes := #[] }] 49 2 #[] #[])
  fields := #[]
  methods := #[k1m0, k1m1, k1m2]
  instanceTypes := #[]
  staticTypes := #[]
  resolved := Array.replicate 40 none
  statics := none }

def pool2 : Array CpInfo := pool [(1, .methodref 2 3), (0, .class_ 4), (0, .nameAndType 5 6), (0, u "java/lang/Object"), (0, u "<init>"), (0, u "()V"), (0, .methodref 8 9), (0, .class_ 10), (0, .nameAndType 11 12), (0, u "[B"), (0, u "clone"), (0, u "()Ljava/lang/Object;"), (0, .fieldref 14 15), (0, .class_ 16), (0, .nameAndType 17 10), (0, u "com/example/lean_entities/leanentities/session/Cursor"), (0, u "position"), (1, .class_ 21), (1, u "java/util/Base64"), (39, u "([B)V"), (0, .methodref 63 64), (0, .class_ 65), (0, .nameAndType 66 67), (0, u "java/lang/System"), (0, u "arraycopy"), (0, u "(Ljava/lang/Object;ILjava/lang/Object;II)V"), (0, .methodref 19 69), (0, .nameAndType 70 71), (0, u "getUrlEncoder"), (0, u "()Ljava/util/Base64$Encoder;"), (0, .methodref 73 74), (0, .class_ 75), (0, .nameAndType 76 71), (0, u "java/util/Base64$Encoder"), (0, u "withoutPadding"), (0, .methodref 73 78), (0, .nameAndType 79 80), (0, u "encodeToString"), (0, u "([B)Ljava/lang/String;"), (10, u "toWebSafeString"), (0, u "()Ljava/lang/String;"), (2, u "START"), (0, u "Lcom/example/lean_entities/leanentities/session/Cursor;"), (0, u "FORMAT"), (0, u "B")] 30

def k2c0 : Code := { maxStack := 2, maxLocals := 2, code := prog_18_method_1_code, exceptionTable := #[], attributes := #[] }
def k2m0 : Method := { name := "<init>", desc := "([B)V", sig := { parameters := [(.array .byte)], returnType := none }, accessFlags := 0, code := some k2c0 }
def k2c1 : Code := { maxStack := 5, maxLocals := 2, code := prog_18_method_3_code, exceptionTable := #[], attributes := #[] }
def k2m1 : Method := { name := "toWebSafeString", desc := "()Ljava/lang/String;", sig := { parameters := [], returnType := some (.object "java/lang/String") }, accessFlags := 1, code := some k2c1 }
/-- com/example/lean_entities/leanentities/session/Cursor -/
def k2 : Class := { plain "com/example/lean_entities/leanentities/session/Cursor" (some 0) with
  accessFlags := 49
  interfaces := #[]
  cf := some (fileOf pool2 14 #[] #[{ accessFlags := 0, nameIndex := 5, descriptorIndex := 61, attributes := #[] }, { accessFlags := 1, nameIndex := 91, descriptorIndex := 92, attributes := #[] }] 49 2 #[] #[{ accessFlags := 24, nameIndex := 95, descriptorIndex := 96, attributes := #[] }, { accessFlags := 26, nameIndex := 97, descriptorIndex := 98, attributes := #[] }, { accessFlags := 18, nameIndex := 17, descriptorIndex := 10, attributes := #[] }])
  fields := #[{ name := "START", type := (.object "com/example/lean_entities/leanentities/session/Cursor"), accessFlags := 24, slot := 0, constantValue := 0 }, { name := "FORMAT", type := .byte, accessFlags := 26, slot := 1, constantValue := 0 }, { name := "position", type := (.array .byte), accessFlags := 18, slot := 0, constantValue := 0 }]
  methods := #[k2m0, k2m1]
  instanceTypes := #[(.array .byte)]
  staticTypes := #[(.object "com/example/lean_entities/leanentities/session/Cursor"), .byte]
  resolved := Array.replicate 129 none
  statics := none }

def pool3 : Array CpInfo := pool [(1, .class_ 2), (0, u "java/lang/Cloneable"), (0, .class_ 4), (0, u "java/lang/Object")] 2

/-- java/lang/Cloneable -/
def k3 : Class := { plain "java/lang/Cloneable" (some 0) with
  accessFlags := 1537
  interfaces := #[]
  cf := some (fileOf pool3 1 #[] #[] 1537 3 #[] #[])
  fields := #[]
  methods := #[]
  instanceTypes := #[]
  staticTypes := #[]
  resolved := Array.replicate 7 none
  statics := none }

def pool4 : Array CpInfo := pool [(2, .class_ 4), (1, u "java/lang/Object"), (0, u "<init>"), (0, u "()V"), (1, .class_ 10), (1, u "java/lang/System"), (0, u "allowSecurityManager"), (0, u "I"), (16, u "cons"), (0, u "Ljava/io/Console;"), (77, .class_ 110), (1, u "java/lang/System$CallersHolder"), (43, u "initialErrStream"), (0, u "Ljava/io/PrintStream;"), (19, u "security"), (0, u "Ljava/lang/SecurityManager;"), (31, .class_ 209), (0, u "java/lang/System$1"), (7, u "props"), (0, u "Ljava/util/Properties;"), (2, u "lineSeparator"), (0, u "Ljava/lang/String;"), (96, .class_ 321), (1, u "java/lang/System$LoggerFinder"), (5, .class_ 328), (0, u "java/lang/System$Logger"), (67, u "err"), (2, u "out"), (91, u "notSupportedJnuEncoding"), (15, u "in"), (17, u "initialIn"), (0, u "Ljava/io/InputStream;"), (35, u "bootLayer"), (0, u "Ljava/lang/ModuleLayer;"), (99, .class_ 664), (0, u "java/lang/System$2"), (9, u "NEVER"), (2, u "MAYBE"), (49, u "arraycopy"), (0, u "(Ljava/lang/Object;ILjava/lang/Object;II)V"), (72, .class_ 802), (0, u "java/lang/System$Logger$Level")] 31

def k4m0 : Method := { name := "<init>", desc := "()V", sig := { parameters := [], returnType := none }, accessFlags := 2, code := none }
def k4m1 : Method := { name := "arraycopy", desc := "(Ljava/lang/Object;ILjava/lang/Object;II)V", sig := { parameters := [(.object "java/lang/Object"), .int, (.object "java/lang/Object"), .int, .int], returnType := none }, accessFlags := 265, code := none }
/-- java/lang/System -/
def k4 : Class := { plain "java/lang/System" (some 0) with
  accessFlags := 49
  interfaces := #[]
  cf := some (fileOf pool4 8 #[.nestMembers #[319, 327, 801, 108, 663, 208]] #[{ accessFlags := 2, nameIndex := 5, descriptorIndex := 6, attributes := #[] }, { accessFlags := 265, nameIndex := 727, descriptorIndex := 728, attributes := #[] }] 49 2 #[] #[{ accessFlags := 25, nameIndex := 507, descriptorIndex := 526, attributes := #[] }, { accessFlags := 25, nameIndex := 399, descriptorIndex := 155, attributes := #[] }, { accessFlags := 25, nameIndex := 396, descriptorIndex := 155, attributes := #[] }, { accessFlags := 10, nameIndex := 525, descriptorIndex := 526, attributes := #[] }, { accessFlags := 26, nameIndex := 674, descriptorIndex := 12, attributes := #[] }, { accessFlags := 26, nameIndex := 677, descriptorIndex := 12, attributes := #[] }, { accessFlags := 10, nameIndex := 11, descriptorIndex := 12, attributes := #[] }, { accessFlags := 74, nameIndex := 175, descriptorIndex := 176, attributes := #[] }, { accessFlags := 10, nameIndex := 491, descriptorIndex := 222, attributes := #[] }, { accessFlags := 74, nameIndex := 29, descriptorIndex := 30, attributes := #[] }, { accessFlags := 74, nameIndex := 154, descriptorIndex := 155, attributes := #[] }, { accessFlags := 10, nameIndex := 217, descriptorIndex := 218, attributes := #[] }, { accessFlags := 10, nameIndex := 221, descriptorIndex := 222, attributes := #[] }, { accessFlags := 8, nameIndex := 562, descriptorIndex := 563, attributes := #[] }])
  fields := #[{ name := "in", type := (.object "java/io/InputStream"), accessFlags := 25, slot := 0, constantValue := 0 }, { name := "out", type := (.object "java/io/PrintStream"), accessFlags := 25, slot := 1, constantValue := 0 }, { name := "err", type := (.object "java/io/PrintStream"), accessFlags := 25, slot := 2, constantValue := 0 }, { name := "initialIn", type := (.object "java/io/InputStream"), accessFlags := 10, slot := 3, constantValue := 0 }, { name := "NEVER", type := .int, accessFlags := 26, slot := 4, constantValue := 0 }, { name := "MAYBE", type := .int, accessFlags := 26, slot := 5, constantValue := 0 }, { name := "allowSecurityManager", type := .int, accessFlags := 10, slot := 6, constantValue := 0 }, { name := "security", type := (.object "java/lang/SecurityManager"), accessFlags := 74, slot := 7, constantValue := 0 }, { name := "notSupportedJnuEncoding", type := (.object "java/lang/String"), accessFlags := 10, slot := 8, constantValue := 0 }, { name := "cons", type := (.object "java/io/Console"), accessFlags := 74, slot := 9, constantValue := 0 }, { name := "initialErrStream", type := (.object "java/io/PrintStream"), accessFlags := 74, slot := 10, constantValue := 0 }, { name := "props", type := (.object "java/util/Properties"), accessFlags := 10, slot := 11, constantValue := 0 }, { name := "lineSeparator", type := (.object "java/lang/String"), accessFlags := 10, slot := 12, constantValue := 0 }, { name := "bootLayer", type := (.object "java/lang/ModuleLayer"), accessFlags := 8, slot := 13, constantValue := 0 }]
  methods := #[k4m0, k4m1]
  instanceTypes := #[]
  staticTypes := #[(.object "java/io/InputStream"), (.object "java/io/PrintStream"), (.object "java/io/PrintStream"), (.object "java/io/InputStream"), .int, .int, .int, (.object "java/lang/SecurityManager"), (.object "java/lang/String"), (.object "java/io/Console"), (.object "java/io/PrintStream"), (.object "java/util/Properties"), (.object "java/lang/String"), (.object "java/lang/ModuleLayer")]
  resolved := Array.replicate 834 none
  statics := none }

def pool5 : Array CpInfo := pool [(2, .class_ 4), (1, u "java/lang/Object"), (0, u "<init>"), (0, u "()V"), (1, .class_ 10), (1, u "java/util/Base64$Encoder"), (1, u "Ljava/util/Base64$Encoder;"), (0, .fieldref 8 14), (0, .nameAndType 15 12), (0, u "RFC4648_URLSAFE"), (10, .class_ 28), (1, u "java/util/Base64$Decoder"), (35, .class_ 65), (0, u "java/util/Base64"), (6, u "()Ljava/util/Base64$Encoder;"), (0, u "getUrlEncoder"), (19, .class_ 94), (0, u "java/util/Base64$DecInputStream"), (0, .class_ 96), (0, u "java/util/Base64$EncOutputStream")] 5

def k5m0 : Method := { name := "<init>", desc := "()V", sig := { parameters := [], returnType := none }, accessFlags := 2, code := none }
def k5c1 : Code := { maxStack := 1, maxLocals := 0, code := jdk_2448_method_3_code, exceptionTable := #[], attributes := #[] }
def k5m1 : Method := { name := "getUrlEncoder", desc := "()Ljava/util/Base64$Encoder;", sig := { parameters := [], returnType := some (.object "java/util/Base64$Encoder") }, accessFlags := 9, code := some k5c1 }
/-- java/util/Base64 -/
def k5 : Class := { plain "java/util/Base64" (some 0) with
  accessFlags := 33
  interfaces := #[]
  cf := some (fileOf pool5 64 #[.nestMembers #[93, 95, 26, 8]] #[{ accessFlags := 2, nameIndex := 5, descriptorIndex := 6, attributes := #[] }, { accessFlags := 9, nameIndex := 73, descriptorIndex := 72, attributes := #[] }] 33 2 #[] #[])
  fields := #[]
  methods := #[k5m0, k5m1]
  instanceTypes := #[]
  staticTypes := #[]
  resolved := Array.replicate 102 none
  statics := none }

def pool6 : Array CpInfo := pool [(1, .methodref 2 3), (0, .class_ 4), (0, .nameAndType 5 6), (0, u "java/lang/Object"), (0, u "<init>"), (0, u "()V"), (0, .fieldref 8 9), (0, .class_ 10), (0, .nameAndType 11 12), (0, u "java/util/Base64$Encoder"), (0, u "isURL"), (0, u "Z"), (0, .fieldref 8 14), (0, .nameAndType 15 16), (0, u "newline"), (0, u "[B"), (0, .fieldref 8 18), (0, .nameAndType 19 20), (0, u "linemax"), (0, u "I"), (0, .fieldref 8 22), (0, .nameAndType 23 12), (0, u "doPadding"), (0, .methodref 25 26), (0, .class_ 27), (0, .nameAndType 28 29), (0, u "java/lang/Math"), (0, u "addExact"), (0, u "(II)I"), (0, .methodref 25 31), (0, .nameAndType 32 29), (0, u "multiplyExact"), (9, .methodref 8 43), (0, .nameAndType 44 45), (0, u "encodedOutLength"), (0, u "(IZ)I"), (0, .methodref 8 47), (0, .nameAndType 48 49), (0, u "encode0"), (0, u "([BII[B)I"), (11, .methodref 8 62), (0, .nameAndType 63 64), (0, u "encode"), (0, u "([B)[B"), (0, .class_ 66), (0, u "java/lang/String"), (0, .methodref 65 68), (0, .nameAndType 5 69), (0, u "([BIII)V"), (41, .fieldref 8 112), (0, .nameAndType 113 114), (0, u "toBase64URL"), (0, u "[C"), (2, u "toBase64"), (3, .methodref 8 122), (0, .nameAndType 5 123), (0, u "(Z[BIZ)V"), (0, .methodref 25 125), (0, .nameAndType 126 29), (0, u "min"), (0, .methodref 8 128), (0, .nameAndType 129 130), (0, u "encodeBlock"), (0, u "([BII[BIZ)V"), (2, u "CRLF"), (2, u "RFC4648"), (0, u "Ljava/util/Base64$Encoder;"), (2, u "RFC4648_URLSAFE"), (2, u "RFC2045"), (0, u "MIMELINEMAX"), (18, u "encodeToString"), (0, u "([B)Ljava/lang/String;"), (10, u "withoutPadding"), (0, u "()Ljava/util/Base64$Encoder;"), (22, .class_ 200), (0, u "java/util/Base64")] 3

def k6c0 : Code := { maxStack := 2, maxLocals := 5, code := jdk_2452_method_1_code, exceptionTable := #[], attributes := #[] }
def k6m0 : Method := { name := "<init>", desc := "(Z[BIZ)V", sig := { parameters := [.boolean, (.array .byte), .int, .boolean], returnType := none }, accessFlags := 2, code := some k6c0 }
def k6c1 : Code := { maxStack := 3, maxLocals := 5, code := jdk_2452_method_2_code, exceptionTable := #[{ startPc := 2, endPc := 79, handlerPc := 82, catchType := 33 }], attributes := #[] }
def k6m1 : Method := { name := "encodedOutLength", desc := "(IZ)I", sig := { parameters := [.int, .boolean], returnType := some .int }, accessFlags := 18, code := some k6c1 }
def k6c2 : Code := { maxStack := 5, maxLocals := 5, code := jdk_2452_method_3_code, exceptionTable := #[], attributes := #[] }
def k6m2 : Method := { name := "encode", desc := "([B)[B", sig := { parameters := [(.array .byte)], returnType := some (.array .byte) }, accessFlags := 1, code := some k6c2 }
def k6c3 : Code := { maxStack := 6, maxLocals := 3, code := jdk_2452_method_5_code, exceptionTable := #[], attributes := #[] }
def k6m3 : Method := { name := "encodeToString", desc := "([B)Ljava/lang/String;", sig := { parameters := [(.array .byte)], returnType := some (.object "java/lang/String") }, accessFlags := 1, code := some k6c3 }
def k6c4 : Code := { maxStack := 6, maxLocals := 1, code := jdk_2452_method_8_code, exceptionTable := #[], attributes := #[] }
def k6m4 : Method := { name := "withoutPadding", desc := "()Ljava/util/Base64$Encoder;", sig := { parameters := [], returnType := some (.object "java/util/Base64$Encoder") }, accessFlags := 1, code := some k6c4 }
def k6c5 : Code := { maxStack := 5, maxLocals := 11, code := jdk_2452_method_9_code, exceptionTable := #[], attributes := #[] }
def k6m5 : Method := { name := "encodeBlock", desc := "([BII[BIZ)V", sig := { parameters := [(.array .byte), .int, .int, (.array .byte), .int, .boolean], returnType := none }, accessFlags := 2, code := some k6c5 }
def k6c6 : Code := { maxStack := 7, maxLocals := 16, code := jdk_2452_method_10_code, exceptionTable := #[], attributes := #[] }
def k6m6 : Method := { name := "encode0", desc := "([BII[B)I", sig := { parameters := [(.array .byte), .int, .int, (.array .byte)], returnType := some .int }, accessFlags := 2, code := some k6c6 }
/-- java/util/Base64$Encoder -/
def k6 : Class := { plain "java/util/Base64$Encoder" (some 0) with
  accessFlags := 33
  interfaces := #[]
  cf := some (fileOf pool6 8 #[.nestHost 199] #[{ accessFlags := 2, nameIndex := 5, descriptorIndex := 123, attributes := #[] }, { accessFlags := 18, nameIndex := 44, descriptorIndex := 45, attributes := #[] }, { accessFlags := 1, nameIndex := 63, descriptorIndex := 64, attributes := #[] }, { accessFlags := 1, nameIndex := 163, descriptorIndex := 164, attributes := #[] }, { accessFlags := 1, nameIndex := 175, descriptorIndex := 176, attributes := #[] }, { accessFlags := 2, nameIndex := 129, descriptorIndex := 130, attributes := #[] }, { accessFlags := 2, nameIndex := 48, descriptorIndex := 49, attributes := #[] }] 33 2 #[] #[{ accessFlags := 18, nameIndex := 15, descriptorIndex := 16, attributes := #[] }, { accessFlags := 18, nameIndex := 19, descriptorIndex := 20, attributes := #[] }, { accessFlags := 18, nameIndex := 11, descriptorIndex := 12, attributes := #[] }, { accessFlags := 18, nameIndex := 23, descriptorIndex := 12, attributes := #[] }, { accessFlags := 26, nameIndex := 117, descriptorIndex := 114, attributes := #[] }, { accessFlags := 26, nameIndex := 113, descriptorIndex := 114, attributes := #[] }, { accessFlags := 26, nameIndex := 144, descriptorIndex := 20, attributes := #[] }, { accessFlags := 26, nameIndex := 133, descriptorIndex := 16, attributes := #[] }, { accessFlags := 24, nameIndex := 136, descriptorIndex := 137, attributes := #[] }, { accessFlags := 24, nameIndex := 140, descriptorIndex := 137, attributes := #[] }, { accessFlags := 24, nameIndex := 143, descriptorIndex := 137, attributes := #[] }])
  fields := #[{ name := "newline", type := (.array .byte), accessFlags := 18, slot := 0, constantValue := 0 }, { name := "linemax", type := .int, accessFlags := 18, slot := 1, constantValue := 0 }, { name := "isURL", type := .boolean, accessFlags := 18, slot := 2, constantValue := 0 }, { name := "doPadding", type := .boolean, accessFlags := 18, slot := 3, constantValue := 0 }, { name := "toBase64", type := (.array .char), accessFlags := 26, slot := 0, constantValue := 0 }, { name := "toBase64URL", type := (.array .char), accessFlags := 26, slot := 1, constantValue := 0 }, { name := "MIMELINEMAX", type := .int, accessFlags := 26, slot := 2, constantValue := 0 }, { name := "CRLF", type := (.array .byte), accessFlags := 26, slot := 3, constantValue := 0 }, { name := "RFC4648", type := (.object "java/util/Base64$Encoder"), accessFlags := 24, slot := 4, constantValue := 0 }, { name := "RFC4648_URLSAFE", type := (.object "java/util/Base64$Encoder"), accessFlags := 24, slot := 5, constantValue := 0 }, { name := "RFC2045", type := (.object "java/util/Base64$Encoder"), accessFlags := 24, slot := 6, constantValue := 0 }]
  methods := #[k6m0, k6m1, k6m2, k6m3, k6m4, k6m5, k6m6]
  instanceTypes := #[(.array .byte), .int, .boolean, .boolean]
  staticTypes := #[(.array .char), (.array .char), .int, (.array .byte), (.object "java/util/Base64$Encoder"), (.object "java/util/Base64$Encoder"), (.object "java/util/Base64$Encoder")]
  resolved := Array.replicate 204 none
  statics := some 0 }

def pool7 : Array CpInfo := pool [(1, .class_ 2), (0, u "java/lang/Math"), (1, .class_ 6), (1, u "java/lang/Object"), (0, u "<init>"), (0, u "()V"), (89, .class_ 100), (1, u "java/lang/Math$RandomNumberGeneratorHolder"), (19, u "multiplyExact"), (51, u "negativeZeroFloatBits"), (0, u "J"), (2, u "negativeZeroDoubleBits"), (24, u "min"), (43, u "$assertionsDisabled"), (0, u "Z"), (88, u "(II)I"), (2, u "twoToTheDoubleScaleDown"), (0, u "D"), (4, u "twoToTheDoubleScaleUp"), (9, u "E"), (3, u "PI"), (2, u "TAU"), (2, u "DEGREES_TO_RADIANS"), (0, u "RADIANS_TO_DEGREES"), (27, u "addExact")] 66

def k7m0 : Method := { name := "<init>", desc := "()V", sig := { parameters := [], returnType := none }, accessFlags := 2, code := none }
def k7c1 : Code := { maxStack := 3, maxLocals := 3, code := jdk_29_method_24_code, exceptionTable := #[], attributes := #[] }
def k7m1 : Method := { name := "addExact", desc := "(II)I", sig := { parameters := [.int, .int], returnType := some .int }, accessFlags := 9, code := some k7c1 }
def k7c2 : Code := { maxStack := 4, maxLocals := 4, code := jdk_29_method_28_code, exceptionTable := #[], attributes := #[] }
def k7m2 : Method := { name := "multiplyExact", desc := "(II)I", sig := { parameters := [.int, .int], returnType := some .int }, accessFlags := 9, code := some k7c2 }
def k7c3 : Code := { maxStack := 2, maxLocals := 2, code := jdk_29_method_69_code, exceptionTable := #[], attributes := #[] }
def k7m3 : Method := { name := "min", desc := "(II)I", sig := { parameters := [.int, .int], returnType := some .int }, accessFlags := 9, code := some k7c3 }
/-- java/lang/Math -/
def k7 : Class := { plain "java/lang/Math" (some 0) with
  accessFlags := 49
  interfaces := #[]
  cf := some (fileOf pool7 1 #[.nestMembers #[98]] #[{ accessFlags := 2, nameIndex := 7, descriptorIndex := 8, attributes := #[] }, { accessFlags := 9, nameIndex := 393, descriptorIndex := 335, attributes := #[] }, { accessFlags := 9, nameIndex := 120, descriptorIndex := 335, attributes := #[] }, { accessFlags := 9, nameIndex := 201, descriptorIndex := 335, attributes := #[] }] 49 4 #[] #[{ accessFlags := 25, nameIndex := 354, descriptorIndex := 339, attributes := #[] }, { accessFlags := 25, nameIndex := 358, descriptorIndex := 339, attributes := #[] }, { accessFlags := 25, nameIndex := 361, descriptorIndex := 339, attributes := #[] }, { accessFlags := 26, nameIndex := 364, descriptorIndex := 339, attributes := #[] }, { accessFlags := 26, nameIndex := 365, descriptorIndex := 339, attributes := #[] }, { accessFlags := 26, nameIndex := 172, descriptorIndex := 173, attributes := #[] }, { accessFlags := 26, nameIndex := 176, descriptorIndex := 173, attributes := #[] }, { accessFlags := 8, nameIndex := 344, descriptorIndex := 339, attributes := #[] }, { accessFlags := 8, nameIndex := 338, descriptorIndex := 339, attributes := #[] }, { accessFlags := 4120, nameIndex := 245, descriptorIndex := 246, attributes := #[] }])
  fields := #[{ name := "E", type := .double, accessFlags := 25, slot := 0, constantValue := 0 }, { name := "PI", type := .double, accessFlags := 25, slot := 1, constantValue := 0 }, { name := "TAU", type := .double, accessFlags := 25, slot := 2, constantValue := 0 }, { name := "DEGREES_TO_RADIANS", type := .double, accessFlags := 26, slot := 3, constantValue := 0 }, { name := "RADIANS_TO_DEGREES", type := .double, accessFlags := 26, slot := 4, constantValue := 0 }, { name := "negativeZeroFloatBits", type := .long, accessFlags := 26, slot := 5, constantValue := 0 }, { name := "negativeZeroDoubleBits", type := .long, accessFlags := 26, slot := 6, constantValue := 0 }, { name := "twoToTheDoubleScaleUp", type := .double, accessFlags := 8, slot := 7, constantValue := 0 }, { name := "twoToTheDoubleScaleDown", type := .double, accessFlags := 8, slot := 8, constantValue := 0 }, { name := "$assertionsDisabled", type := .boolean, accessFlags := 4120, slot := 9, constantValue := 0 }]
  methods := #[k7m0, k7m1, k7m2, k7m3]
  instanceTypes := #[]
  staticTypes := #[.double, .double, .double, .double, .double, .long, .long, .double, .double, .boolean]
  resolved := Array.replicate 460 none
  statics := none }

def pool8 : Array CpInfo := pool [(1, .class_ 2), (0, u "java/io/Serializable"), (0, .class_ 4), (0, u "java/lang/Object")] 2

/-- java/io/Serializable -/
def k8 : Class := { plain "java/io/Serializable" (some 0) with
  accessFlags := 1537
  interfaces := #[]
  cf := some (fileOf pool8 1 #[] #[] 1537 3 #[] #[])
  fields := #[]
  methods := #[]
  instanceTypes := #[]
  staticTypes := #[]
  resolved := Array.replicate 7 none
  statics := none }

def pool9 : Array CpInfo := pool [(1, .class_ 2), (0, u "java/lang/Comparable"), (0, .class_ 4), (0, u "java/lang/Object")] 7

/-- java/lang/Comparable -/
def k9 : Class := { plain "java/lang/Comparable" (some 0) with
  accessFlags := 1537
  interfaces := #[]
  cf := some (fileOf pool9 1 #[] #[] 1537 3 #[] #[])
  fields := #[]
  methods := #[]
  instanceTypes := #[]
  staticTypes := #[]
  resolved := Array.replicate 12 none
  statics := none }

def pool10 : Array CpInfo := pool [(2, .class_ 4), (1, u "java/lang/CharSequence"), (42, .class_ 48), (0, u "java/lang/CharSequence$1CodePointIterator"), (10, .class_ 60), (0, u "java/lang/CharSequence$1CharIterator"), (5, .class_ 67), (0, u "java/lang/Object")] 63

/-- java/lang/CharSequence -/
def k10 : Class := { plain "java/lang/CharSequence" (some 0) with
  accessFlags := 1537
  interfaces := #[]
  cf := some (fileOf pool10 2 #[.nestMembers #[47, 59]] #[] 1537 66 #[] #[])
  fields := #[]
  methods := #[]
  instanceTypes := #[]
  staticTypes := #[]
  resolved := Array.replicate 131 none
  statics := none }

def pool11 : Array CpInfo := pool [(1, .class_ 2), (0, u "java/lang/constant/Constable"), (0, .class_ 4), (0, u "java/lang/Object")] 6

/-- java/lang/constant/Constable -/
def k11 : Class := { plain "java/lang/constant/Constable" (some 0) with
  accessFlags := 1537
  interfaces := #[]
  cf := some (fileOf pool11 1 #[] #[] 1537 3 #[] #[])
  fields := #[]
  methods := #[]
  instanceTypes := #[]
  staticTypes := #[]
  resolved := Array.replicate 11 none
  statics := none }

def pool12 : Array CpInfo := pool [(1, .class_ 2), (0, u "java/lang/constant/ConstantDesc"), (0, .class_ 4), (0, u "java/lang/Object")] 32

/-- java/lang/constant/ConstantDesc -/
def k12 : Class := { plain "java/lang/constant/ConstantDesc" (some 0) with
  accessFlags := 1537
  interfaces := #[]
  cf := some (fileOf pool12 1 #[] #[] 1537 3 #[] #[])
  fields := #[]
  methods := #[]
  instanceTypes := #[]
  staticTypes := #[]
  resolved := Array.replicate 37 none
  statics := none }

def pool13 : Array CpInfo := pool [(1, .methodref 2 3), (0, .class_ 4), (0, .nameAndType 5 6), (0, u "java/lang/Object"), (0, u "<init>"), (0, u "()V"), (2, .fieldref 10 11), (0, .class_ 12), (0, .nameAndType 13 14), (0, u "java/lang/String"), (0, u "value"), (0, u "[B"), (0, .fieldref 10 16), (0, .nameAndType 17 18), (0, u "coder"), (0, u "B"), (2, u "hash"), (0, u "I"), (2, u "hashIsZero"), (0, u "Z"), (7, .methodref 10 35), (0, .nameAndType 36 37), (0, u "checkBoundsOffCount"), (0, u "(III)I"), (0, .fieldref 10 39), (0, .nameAndType 40 26), (0, u "COMPACT_STRINGS"), (13, .methodref 55 56), (0, .class_ 57), (0, .nameAndType 58 59), (0, u "java/util/Arrays"), (0, u "copyOfRange"), (0, u "([BII)[B"), (10, u "([BIII)V"), (36, .class_ 109), (1, u "java/lang/StringLatin1"), (32, u "()Z"), (191, u "()I"), (0, .methodref 10 336), (0, .nameAndType 17 337), (0, u "()B"), (25, u "([BI)C"), (27, u "(II)V"), (35, u "(I)C"), (64, .methodref 10 493), (0, .nameAndType 494 142), (0, u "isLatin1"), (0, .methodref 107 496), (0, .nameAndType 497 363), (0, u "charAt"), (3, u "checkIndex"), (5, u "length"), (67, .class_ 576), (0, u "java/lang/CharSequence"), (22, u "CASE_INSENSITIVE_ORDER"), (0, u "Ljava/util/Comparator;"), (452, .fieldref 1054 1055), (0, .class_ 1056), (0, .nameAndType 1057 1058), (0, u "jdk/internal/util/Preconditions"), (0, u "SIOOBE_FORMATTER"), (0, u "Ljava/util/function/BiFunction;"), (0, .methodref 1054 1060), (0, .nameAndType 501 1061), (0, u "(IILjava/util/function/BiFunction;)I"), (2, u "(IIILjava/util/function/BiFunction;)I"), (0, .methodref 1054 1066), (0, .nameAndType 1067 1064), (0, u "checkFromIndexSize"), (33, u "serialPersistentFields"), (0, u "[Ljava/io/ObjectStreamField;"), (0, .class_ 1104), (0, u "java/lang/String$CaseInsensitiveComparator"), (1, .class_ 1107), (0, u "java/io/Serializable"), (0, .class_ 1109), (0, u "java/lang/Comparable"), (0, .class_ 1111), (0, u "java/lang/constant/Constable"), (0, .class_ 1113), (0, u "java/lang/constant/ConstantDesc"), (2, u "serialVersionUID"), (0, u "J"), (3, u "REPL"), (0, u "C"), (2, u "LATIN1"), (1, u "UTF16")] 323

def k13m0 : Method := { name := "<init>", desc := "()V", sig := { parameters := [], returnType := none }, accessFlags := 1, code := none }
def k13c1 : Code := { maxStack := 5, maxLocals := 7, code := jdk_42_method_7_code, exceptionTable := #[], attributes := #[] }
def k13m1 : Method := { name := "<init>", desc := "([BIII)V", sig := { parameters := [(.array .byte), .int, .int, .int], returnType := none }, accessFlags := 1, code := some k13c1 }
def k13c2 : Code := { maxStack := 2, maxLocals := 1, code := jdk_42_method_54_code, exceptionTable := #[], attributes := #[] }
def k13m2 : Method := { name := "length", desc := "()I", sig := { parameters := [], returnType := some .int }, accessFlags := 1, code := some k13c2 }
def k13c3 : Code := { maxStack := 2, maxLocals := 2, code := jdk_42_method_56_code, exceptionTable := #[], attributes := #[] }
def k13m3 : Method := { name := "charAt", desc := "(I)C", sig := { parameters := [.int], returnType := some .char }, accessFlags := 1, code := some k13c3 }
def k13c4 : Code := { maxStack := 1, maxLocals := 1, code := jdk_42_method_152_code, exceptionTable := #[], attributes := #[] }
def k13m4 : Method := { name := "coder", desc := "()B", sig := { parameters := [], returnType := some .byte }, accessFlags := 0, code := some k13c4 }
def k13c5 : Code := { maxStack := 1, maxLocals := 1, code := jdk_42_method_154_code, exceptionTable := #[], attributes := #[] }
def k13m5 : Method := { name := "isLatin1", desc := "()Z", sig := { parameters := [], returnType := some .boolean }, accessFlags := 0, code := some k13c5 }
def k13c6 : Code := { maxStack := 3, maxLocals := 2, code := jdk_42_method_155_code, exceptionTable := #[], attributes := #[] }
def k13m6 : Method := { name := "checkIndex", desc := "(II)V", sig := { parameters := [.int, .int], returnType := none }, accessFlags := 8, code := some k13c6 }
def k13c7 : Code := { maxStack := 4, maxLocals := 3, code := jdk_42_method_157_code, exceptionTable := #[], attributes := #[] }
def k13m7 : Method := { name := "checkBoundsOffCount", desc := "(III)I", sig := { parameters := [.int, .int, .int], returnType := some .int }, accessFlags := 8, code := some k13c7 }
/-- java/lang/String -/
def k13 : Class := { plain "java/lang/String" (some 0) with
  accessFlags := 49
  interfaces := #[8, 9, 10, 11, 12]
  cf := some (fileOf pool13 10 #[.nestMembers #[1103]] #[{ accessFlags := 1, nameIndex := 5, descriptorIndex := 6, attributes := #[] }, { accessFlags := 1, nameIndex := 5, descriptorIndex := 70, attributes := #[] }, { accessFlags := 1, nameIndex := 507, descriptorIndex := 334, attributes := #[] }, { accessFlags := 1, nameIndex := 497, descriptorIndex := 427, attributes := #[] }, { accessFlags := 0, nameIndex := 17, descriptorIndex := 337, attributes := #[] }, { accessFlags := 0, nameIndex := 494, descriptorIndex := 142, attributes := #[] }, { accessFlags := 8, nameIndex := 501, descriptorIndex := 391, attributes := #[] }, { accessFlags := 8, nameIndex := 36, descriptorIndex := 37, attributes := #[] }] 49 2 #[1106, 1108, 575, 1110, 1112] #[{ accessFlags := 18, nameIndex := 13, descriptorIndex := 14, attributes := #[] }, { accessFlags := 18, nameIndex := 17, descriptorIndex := 18, attributes := #[] }, { accessFlags := 2, nameIndex := 21, descriptorIndex := 22, attributes := #[] }, { accessFlags := 2, nameIndex := 25, descriptorIndex := 26, attributes := #[] }, { accessFlags := 26, nameIndex := 1116, descriptorIndex := 1117, attributes := #[] }, { accessFlags := 24, nameIndex := 40, descriptorIndex := 26, attributes := #[] }, { accessFlags := 26, nameIndex := 1101, descriptorIndex := 1102, attributes := #[] }, { accessFlags := 26, nameIndex := 1121, descriptorIndex := 1122, attributes := #[] }, { accessFlags := 25, nameIndex := 599, descriptorIndex := 600, attributes := #[] }, { accessFlags := 24, nameIndex := 1125, descriptorIndex := 18, attributes := #[] }, { accessFlags := 24, nameIndex := 1127, descriptorIndex := 18, attributes := #[] }])
  fields := #[{ name := "value", type := (.array .byte), accessFlags := 18, slot := 0, constantValue := 0 }, { name := "coder", type := .byte, accessFlags := 18, slot := 1, constantValue := 0 }, { name := "hash", type := .int, accessFlags := 2, slot := 2, constantValue := 0 }, { name := "hashIsZero", type := .boolean, accessFlags := 2, slot := 3, constantValue := 0 }, { name := "serialVersionUID", type := .long, accessFlags := 26, slot := 0, constantValue := 0 }, { name := "COMPACT_STRINGS", type := .boolean, accessFlags := 24, slot := 1, constantValue := 0 }, { name := "serialPersistentFields", type := (.array (.object "java/io/ObjectStreamField")), accessFlags := 26, slot := 2, constantValue := 0 }, { name := "REPL", type := .char, accessFlags := 26, slot := 3, constantValue := 0 }, { name := "CASE_INSENSITIVE_ORDER", type := (.object "java/util/Comparator"), accessFlags := 25, slot := 4, constantValue := 0 }, { name := "LATIN1", type := .byte, accessFlags := 24, slot := 5, constantValue := 0 }, { name := "UTF16", type := .byte, accessFlags := 24, slot := 6, constantValue := 0 }]
  methods := #[k13m0, k13m1, k13m2, k13m3, k13m4, k13m5, k13m6, k13m7]
  instanceTypes := #[(.array .byte), .byte, .int, .boolean]
  staticTypes := #[.long, .boolean, (.array (.object "java/io/ObjectStreamField")), .char, (.object "java/util/Comparator"), .byte, .byte]
  resolved := Array.replicate 1451 none
  statics := some 1 }

def pool14 : Array CpInfo := pool [(2, .class_ 4), (1, u "java/lang/Object"), (0, u "<init>"), (0, u "()V"), (17, .class_ 26), (1, u "jdk/internal/util/Preconditions"), (6, u "checkIndex"), (15, u "checkFromIndexSize"), (5, .class_ 56), (0, u "jdk/internal/util/Preconditions$4"), (57, .class_ 115), (0, u "jdk/internal/util/Preconditions$1"), (7, u "SIOOBE_FORMATTER"), (0, u "Ljava/util/function/BiFunction;"), (0, .class_ 126), (0, u "jdk/internal/util/Preconditions$2"), (3, u "AIOOBE_FORMATTER"), (0, .class_ 132), (0, u "jdk/internal/util/Preconditions$3"), (3, u "IOOBE_FORMATTER"), (41, u "(IILjava/util/function/BiFunction;)I"), (4, u "(IIILjava/util/function/BiFunction;)I")] 10

def k14m0 : Method := { name := "<init>", desc := "()V", sig := { parameters := [], returnType := none }, accessFlags := 1, code := none }
def k14c1 : Code := { maxStack := 3, maxLocals := 3, code := jdk_41_method_11_code, exceptionTable := #[], attributes := #[] }
def k14m1 : Method := { name := "checkIndex", desc := "(IILjava/util/function/BiFunction;)I", sig := { parameters := [.int, .int, (.object "java/util/function/BiFunction")], returnType := some .int }, accessFlags := 9, code := some k14c1 }
def k14c2 : Code := { maxStack := 4, maxLocals := 4, code := jdk_41_method_13_code, exceptionTable := #[], attributes := #[] }
def k14m2 : Method := { name := "checkFromIndexSize", desc := "(IIILjava/util/function/BiFunction;)I", sig := { parameters := [.int, .int, .int, (.object "java/util/function/BiFunction")], returnType := some .int }, accessFlags := 9, code := some k14c2 }
/-- jdk/internal/util/Preconditions -/
def k14 : Class := { plain "jdk/internal/util/Preconditions" (some 0) with
  accessFlags := 33
  interfaces := #[]
  cf := some (fileOf pool14 24 #[.nestMembers #[55, 131, 125, 114]] #[{ accessFlags := 1, nameIndex := 5, descriptorIndex := 6, attributes := #[] }, { accessFlags := 9, nameIndex := 33, descriptorIndex := 178, attributes := #[] }, { accessFlags := 9, nameIndex := 49, descriptorIndex := 183, attributes := #[] }] 33 2 #[] #[{ accessFlags := 25, nameIndex := 123, descriptorIndex := 124, attributes := #[] }, { accessFlags := 25, nameIndex := 130, descriptorIndex := 124, attributes := #[] }, { accessFlags := 25, nameIndex := 136, descriptorIndex := 124, attributes := #[] }])
  fields := #[{ name := "SIOOBE_FORMATTER", type := (.object "java/util/function/BiFunction"), accessFlags := 25, slot := 0, constantValue := 0 }, { name := "AIOOBE_FORMATTER", type := (.object "java/util/function/BiFunction"), accessFlags := 25, slot := 1, constantValue := 0 }, { name := "IOOBE_FORMATTER", type := (.object "java/util/function/BiFunction"), accessFlags := 25, slot := 2, constantValue := 0 }]
  methods := #[k14m0, k14m1, k14m2]
  instanceTypes := #[]
  staticTypes := #[(.object "java/util/function/BiFunction"), (.object "java/util/function/BiFunction"), (.object "java/util/function/BiFunction")]
  resolved := Array.replicate 194 none
  statics := some 2 }

def pool15 : Array CpInfo := pool [(2, .class_ 4), (1, u "java/lang/Object"), (0, u "<init>"), (0, u "()V"), (7, .class_ 16), (1, u "java/util/Arrays"), (57, .class_ 76), (1, u "java/util/Arrays$NaturalOrder"), (32, u "()Ljava/lang/Object;"), (3, .class_ 115), (1, u "java/util/Arrays$LegacyMergeSort"), (1, u "Z"), (10, .nameAndType 129 109), (0, u "clone"), (9, u "copyOfRange"), (170, .methodref 311 128), (0, .class_ 312), (0, u "[B"), (29, u "([BII)[B"), (32, .class_ 376), (0, u "java/util/Arrays$ArrayList"), (68, u "$assertionsDisabled"), (269, u "MIN_ARRAY_SORT_GRAN"), (0, u "I"), (2, u "INSERTIONSORT_THRESHOLD"), (255, .class_ 976), (0, u "java/util/Arrays$ArrayItr")] 52

def k15m0 : Method := { name := "<init>", desc := "()V", sig := { parameters := [], returnType := none }, accessFlags := 2, code := none }
def k15c1 : Code := { maxStack := 3, maxLocals := 3, code := jdk_65_method_132_code, exceptionTable := #[], attributes := #[] }
def k15m1 : Method := { name := "copyOfRange", desc := "([BII)[B", sig := { parameters := [(.array .byte), .int, .int], returnType := some (.array .byte) }, accessFlags := 9, code := some k15c1 }
/-- java/util/Arrays -/
def k15 : Class := { plain "java/util/Arrays" (some 0) with
  accessFlags := 49
  interfaces := #[]
  cf := some (fileOf pool15 14 #[.nestMembers #[975, 375, 113, 74]] #[{ accessFlags := 2, nameIndex := 5, descriptorIndex := 6, attributes := #[] }, { accessFlags := 9, nameIndex := 139, descriptorIndex := 342, attributes := #[] }] 49 2 #[] #[{ accessFlags := 26, nameIndex := 715, descriptorIndex := 716, attributes := #[] }, { accessFlags := 26, nameIndex := 719, descriptorIndex := 716, attributes := #[] }, { accessFlags := 4120, nameIndex := 445, descriptorIndex := 117, attributes := #[] }])
  fields := #[{ name := "MIN_ARRAY_SORT_GRAN", type := .int, accessFlags := 26, slot := 0, constantValue := 0 }, { name := "INSERTIONSORT_THRESHOLD", type := .int, accessFlags := 26, slot := 1, constantValue := 0 }, { name := "$assertionsDisabled", type := .boolean, accessFlags := 4120, slot := 2, constantValue := 0 }]
  methods := #[k15m0, k15m1]
  instanceTypes := #[]
  staticTypes := #[.int, .int, .boolean]
  resolved := Array.replicate 1029 none
  statics := none }

def pool16 : Array CpInfo := pool [(1, .class_ 2), (0, u "java/lang/String"), (1, .class_ 6), (1, u "java/lang/Object"), (0, u "<init>"), (0, u "()V"), (0, .methodref 1 10), (0, .nameAndType 11 12), (0, u "checkIndex"), (0, u "(II)V"), (1, .class_ 16), (1, u "java/lang/StringLatin1"), (36, u "([BI)C"), (67, u "$assertionsDisabled"), (0, u "Z"), (98, .class_ 223), (1, u "java/lang/StringLatin1$LinesSpliterator"), (28, u "charAt"), (137, .class_ 391), (0, u "java/lang/StringLatin1$CharsSpliterator")] 3

def k16m0 : Method := { name := "<init>", desc := "()V", sig := { parameters := [], returnType := none }, accessFlags := 0, code := none }
def k16c1 : Code := { maxStack := 2, maxLocals := 2, code := jdk_43_method_2_code, exceptionTable := #[], attributes := #[] }
def k16m1 : Method := { name := "charAt", desc := "([BI)C", sig := { parameters := [(.array .byte), .int], returnType := some .char }, accessFlags := 9, code := some k16c1 }
/-- java/lang/StringLatin1 -/
def k16 : Class := { plain "java/lang/StringLatin1" (some 0) with
  accessFlags := 48
  interfaces := #[]
  cf := some (fileOf pool16 14 #[.nestMembers #[390, 221]] #[{ accessFlags := 0, nameIndex := 7, descriptorIndex := 8, attributes := #[] }, { accessFlags := 9, nameIndex := 252, descriptorIndex := 53, attributes := #[] }] 48 4 #[] #[{ accessFlags := 4120, nameIndex := 121, descriptorIndex := 122, attributes := #[] }])
  fields := #[{ name := "$assertionsDisabled", type := .boolean, accessFlags := 4120, slot := 0, constantValue := 0 }]
  methods := #[k16m0, k16m1]
  instanceTypes := #[]
  staticTypes := #[.boolean]
  resolved := Array.replicate 395 none
  statics := none }

def pool17 : Array CpInfo := pool [(9, u "<init>"), (6, .class_ 18), (1, u "java/lang/Object"), (0, u "()V"), (1, .class_ 23), (1, u "jdk/internal/util/ArraysSupport"), (0, u "LOG2_ARRAY_LONG_INDEX_SCALE"), (0, u "I"), (2, u "U"), (0, u "Ljdk/internal/misc/Unsafe;"), (8, u "BIG_ENDIAN"), (0, u "Z"), (8, u "LOG2_BYTE_BIT_SIZE"), (4, u "LOG2_ARRAY_INT_INDEX_SCALE"), (54, u "JLA"), (0, u "Ljdk/internal/access/JavaLangAccess;"), (11, u "LOG2_ARRAY_BOOLEAN_INDEX_SCALE"), (9, u "LOG2_ARRAY_BYTE_INDEX_SCALE"), (5, u "LOG2_ARRAY_CHAR_INDEX_SCALE"), (5, u "LOG2_ARRAY_SHORT_INDEX_SCALE"), (18, u "LOG2_ARRAY_FLOAT_INDEX_SCALE"), (24, u "LOG2_ARRAY_DOUBLE_INDEX_SCALE"), (89, u "T_BOOLEAN"), (2, u "T_CHAR"), (1, u "T_FLOAT"), (1, u "T_DOUBLE"), (1, u "T_BYTE"), (1, u "T_SHORT"), (1, u "T_INT"), (1, u "T_LONG"), (1, u "SOFT_MAX_ARRAY_LENGTH")] 83

def k17m0 : Method := { name := "<init>", desc := "()V", sig := { parameters := [], returnType := none }, accessFlags := 2, code := none }
/-- jdk/internal/util/ArraysSupport -/
def k17 : Class := { plain "jdk/internal/util/ArraysSupport" (some 0) with
  accessFlags := 33
  interfaces := #[]
  cf := some (fileOf pool17 21 #[] #[{ accessFlags := 2, nameIndex := 9, descriptorIndex := 19, attributes := #[] }] 33 16 #[] #[{ accessFlags := 24, nameIndex := 28, descriptorIndex := 29, attributes := #[] }, { accessFlags := 26, nameIndex := 38, descriptorIndex := 39, attributes := #[] }, { accessFlags := 25, nameIndex := 121, descriptorIndex := 25, attributes := #[] }, { accessFlags := 25, nameIndex := 131, descriptorIndex := 25, attributes := #[] }, { accessFlags := 25, nameIndex := 137, descriptorIndex := 25, attributes := #[] }, { accessFlags := 25, nameIndex := 143, descriptorIndex := 25, attributes := #[] }, { accessFlags := 25, nameIndex := 53, descriptorIndex := 25, attributes := #[] }, { accessFlags := 25, nameIndex := 24, descriptorIndex := 25, attributes := #[] }, { accessFlags := 25, nameIndex := 162, descriptorIndex := 25, attributes := #[] }, { accessFlags := 25, nameIndex := 187, descriptorIndex := 25, attributes := #[] }, { accessFlags := 26, nameIndex := 48, descriptorIndex := 25, attributes := #[] }, { accessFlags := 25, nameIndex := 277, descriptorIndex := 25, attributes := #[] }, { accessFlags := 25, nameIndex := 280, descriptorIndex := 25, attributes := #[] }, { accessFlags := 25, nameIndex := 282, descriptorIndex := 25, attributes := #[] }, { accessFlags := 25, nameIndex := 284, descriptorIndex := 25, attributes := #[] }, { accessFlags := 25, nameIndex := 286, descriptorIndex := 25, attributes := #[] }, { accessFlags := 25, nameIndex := 288, descriptorIndex := 25, attributes := #[] }, { accessFlags := 25, nameIndex := 290, descriptorIndex := 25, attributes := #[] }, { accessFlags := 25, nameIndex := 292, descriptorIndex := 25, attributes := #[] }, { accessFlags := 26, nameIndex := 108, descriptorIndex := 109, attributes := #[] }, { accessFlags := 25, nameIndex := 294, descriptorIndex := 25, attributes := #[] }])
  fields := #[{ name := "U", type := (.object "jdk/internal/misc/Unsafe"), accessFlags := 24, slot := 0, constantValue := 0 }, { name := "BIG_ENDIAN", type := .boolean, accessFlags := 26, slot := 1, constantValue := 0 }, { name := "LOG2_ARRAY_BOOLEAN_INDEX_SCALE", type := .int, accessFlags := 25, slot := 2, constantValue := 0 }, { name := "LOG2_ARRAY_BYTE_INDEX_SCALE", type := .int, accessFlags := 25, slot := 3, constantValue := 0 }, { name := "LOG2_ARRAY_CHAR_INDEX_SCALE", type := .int, accessFlags := 25, slot := 4, constantValue := 0 }, { name := "LOG2_ARRAY_SHORT_INDEX_SCALE", type := .int, accessFlags := 25, slot := 5, constantValue := 0 }, { name := "LOG2_ARRAY_INT_INDEX_SCALE", type := .int, accessFlags := 25, slot := 6, constantValue := 0 }, { name := "LOG2_ARRAY_LONG_INDEX_SCALE", type := .int, accessFlags := 25, slot := 7, constantValue := 0 }, { name := "LOG2_ARRAY_FLOAT_INDEX_SCALE", type := .int, accessFlags := 25, slot := 8, constantValue := 0 }, { name := "LOG2_ARRAY_DOUBLE_INDEX_SCALE", type := .int, accessFlags := 25, slot := 9, constantValue := 0 }, { name := "LOG2_BYTE_BIT_SIZE", type := .int, accessFlags := 26, slot := 10, constantValue := 0 }, { name := "T_BOOLEAN", type := .int, accessFlags := 25, slot := 11, constantValue := 0 }, { name := "T_CHAR", type := .int, accessFlags := 25, slot := 12, constantValue := 0 }, { name := "T_FLOAT", type := .int, accessFlags := 25, slot := 13, constantValue := 0 }, { name := "T_DOUBLE", type := .int, accessFlags := 25, slot := 14, constantValue := 0 }, { name := "T_BYTE", type := .int, accessFlags := 25, slot := 15, constantValue := 0 }, { name := "T_SHORT", type := .int, accessFlags := 25, slot := 16, constantValue := 0 }, { name := "T_INT", type := .int, accessFlags := 25, slot := 17, constantValue := 0 }, { name := "T_LONG", type := .int, accessFlags := 25, slot := 18, constantValue := 0 }, { name := "JLA", type := (.object "jdk/internal/access/JavaLangAccess"), accessFlags := 26, slot := 19, constantValue := 0 }, { name := "SOFT_MAX_ARRAY_LENGTH", type := .int, accessFlags := 25, slot := 20, constantValue := 0 }]
  methods := #[k17m0]
  instanceTypes := #[]
  staticTypes := #[(.object "jdk/internal/misc/Unsafe"), .boolean, .int, .int, .int, .int, .int, .int, .int, .int, .int, .int, .int, .int, .int, .int, .int, .int, .int, (.object "jdk/internal/access/JavaLangAccess"), .int]
  resolved := Array.replicate 378 none
  statics := none }

/-- the primitive byte -/
def k18 : Class := { plain "byte" none with kind := .primitive 'B', accessFlags := 0x411 }
/-- [B -/
def k19 : Class := { plain "[B" (some 0) with kind := .array 18 .byte, interfaces := #[3, 8], accessFlags := 1041 }

/-- the primitive char -/
def k20 : Class := { plain "char" none with kind := .primitive 'C', accessFlags := 0x411 }
/-- [C -/
def k21 : Class := { plain "[C" (some 0) with kind := .array 20 .char, interfaces := #[3, 8], accessFlags := 1041 }

/-- the primitive int -/
def k22 : Class := { plain "int" none with kind := .primitive 'I', accessFlags := 0x411 }
/-- [I -/
def k23 : Class := { plain "[I" (some 0) with kind := .array 22 .int, interfaces := #[3, 8], accessFlags := 1041 }

def heap : Heap := #[{ cls := 6, slots := #[.null, .ref 4, .int 0, .null, .null, .ref 3, .null], vm := .statics 6 },
  { cls := 13, slots := #[.long 0, .int 1, .null, .int 0, .null, .int 0, .int 0], vm := .statics 13 },
  { cls := 14, slots := #[.null, .null, .null], vm := .statics 14 },
  { cls := 6, slots := #[.null, .int (-1), .int 1, .int 1], vm := .none },
  { cls := 21, slots := #[.int 65, .int 66, .int 67, .int 68, .int 69, .int 70, .int 71, .int 72, .int 73, .int 74, .int 75, .int 76, .int 77, .int 78, .int 79, .int 80, .int 81, .int 82, .int 83, .int 84, .int 85, .int 86, .int 87, .int 88, .int 89, .int 90, .int 97, .int 98, .int 99, .int 100, .int 101, .int 102, .int 103, .int 104, .int 105, .int 106, .int 107, .int 108, .int 109, .int 110, .int 111, .int 112, .int 113, .int 114, .int 115, .int 116, .int 117, .int 118, .int 119, .int 120, .int 121, .int 122, .int 48, .int 49, .int 50, .int 51, .int 52, .int 53, .int 54, .int 55, .int 56, .int 57, .int 45, .int 95], vm := .none }]
def classes : Array Class := #[k0, k1, k2, k3, k4, k5, k6, k7, k8, k9, k10, k11, k12, k13, k14, k15, k16, k17, k18, k19, k20, k21, k22, k23]
def interned : List (Array UInt16 × Addr) := []
def slotsUsed : Nat := 85
def theMethod : MethodId := ⟨1, 2⟩
def args0 : Array Value := #[.int 5, .int 5, .int 5, .int 5]
def aboutOver (below : List Frame) : State where
  vm := { classes := classes, interned := interned.toArray }
  heap := heap
  slotsUsed := slotsUsed
  threads := #[{ frames := .invoking theMethod args0 :: below }]
def below0 : List Frame := [.native { method := ⟨0, 0⟩, args := #[] }]
def about1 : State := aboutOver below0
def p0 : Program := .bare "" "" ""
def e0 : Env := launch0.env 0 0 0
theorem w_frames : about1.frames = Frame.invoking theMethod args0 :: below0 := rfl
set_option maxRecDepth 65536 in
theorem w_args : argsFit about1.vm theMethod args0 = true := by decide +kernel
set_option maxRecDepth 65536 in
theorem w_heap : heapFits about1 = true := by decide +kernel
set_option maxRecDepth 65536 in
theorem w_runnable : about1.curStatus? = some .runnable := by decide +kernel
set_option maxRecDepth 65536 in
theorem w_alone : about1.alone = true := by decide +kernel
set_option maxRecDepth 65536 in
theorem w_named : about1.methodNamed? x = some theMethod := by decide +kernel
set_option maxRecDepth 65536 in
theorem w_hears : about1.hears theMethod below0 = true := by decide +kernel
set_option maxRecDepth 65536 in
theorem w_ripe : about1.ripe theMethod args0 below0 = true := by decide +kernel
theorem w_running : about1.status = .running := rfl
set_option maxRecDepth 65536 in
theorem w_room : about1.hasRoom e0.platform room_1 = true :=
  launch0.hasRoom_least _ room_1 (by decide +kernel) (by decide +kernel) (by decide +kernel) (by decide +kernel) (by decide +kernel) (by decide +kernel)
theorem allAtoms_all (ts : List Jvm.Cond) (a : Array Jvm.Value) (st : Jvm.State) : (allAtoms ts).before a st = ts.all (fun c => c.before a st) := by
  induction ts with
  | nil => rfl
  | cons c t ih =>
    show (Jvm.Cond.and c (allAtoms t)).before a st = _
    rw [Jvm.Cond.before_and, ih, List.all_cons]
def words1 : List Jvm.Cond := Jvm.Cond.code x code maxLocals ret :: tables_1
/-- a 'code' word, met by the world's own term for the bytes: nothing is compared byte by byte -/
theorem code_word {y : MethodName} {bytes : ByteArray} {mx : Nat} {rt : Option FieldType} {a : Array Value} {s : State} {m : MethodId} {meth : Method} {c : Code} (h1 : s.methodNamed? y = some m) (h2 : s.vm.method? m = some meth) (h3 : meth.code = some c) (h4 : c.code = bytes)
    (h5 : (c.maxLocals == mx && c.exceptionTable.isEmpty && decide (c.maxStack ≤ mostOperands) && decide (meth.sig.returnType = rt) && !meth.locks && decide (parseMethodDescriptor y.desc = some meth.sig)) = true) : (Jvm.Cond.code y bytes mx rt).before a s = true := by
  simp only [Bool.and_eq_true, beq_iff_eq, Bool.not_eq_true', decide_eq_true_eq] at h5
  obtain ⟨⟨⟨⟨⟨g1, g2⟩, g3⟩, g4⟩, g5⟩, g6⟩ := h5
  simp [Cond.before, Cond.holds, Cond.value, h1, h2, h3, h4, g1, g2, g3, g4, g5, g6]
def isCode : Jvm.Cond → Bool
  | .code _ _ _ _ => true
  | _ => false
theorem all_split {L : List Jvm.Cond} {P : Jvm.Cond → Bool} (h1 : L.all (fun c => isCode c || P c) = true) (h2 : ∀ c ∈ L.filter isCode, P c = true) : L.all P = true := by
  refine List.all_eq_true.mpr fun c hc => ?_
  have h := List.all_eq_true.mp h1 c hc
  rcases Bool.eq_false_or_eq_true (isCode c) with hi | hi
  · exact h2 c (List.mem_filter.mpr ⟨hc, hi⟩)
  · simpa [hi] using h
set_option maxRecDepth 65536 in
theorem w_c0 : (Jvm.Cond.code x code maxLocals ret).before args0 about1 = true := code_word (m := ⟨1, 2⟩) (meth := k1m2) (c := k1c2) (by decide +kernel) rfl rfl rfl (by decide +kernel)
set_option maxRecDepth 65536 in
theorem w_c1 : (Jvm.Cond.code ({ cls := "com/example/lean_entities/leanentities/session/Cursor", name := "<init>", desc := "([B)V" } : Jvm.MethodName) prog_18_method_1_code (2 : Nat) (Option.none : Option Jvm.ClassFile.FieldType)).before args0 about1 = true := code_word (m := ⟨2, 0⟩) (meth := k2m0) (c := k2c0) (by decide +kernel) rfl rfl rfl (by decide +kernel)
set_option maxRecDepth 65536 in
theorem w_c2 : (Jvm.Cond.code ({ cls := "java/lang/Object", name := "<init>", desc := "()V" } : Jvm.MethodName) object_method_1_code (1 : Nat) (Option.none : Option Jvm.ClassFile.FieldType)).before args0 about1 = true := code_word (m := ⟨0, 0⟩) (meth := k0m0) (c := k0c0) (by decide +kernel) rfl rfl rfl (by decide +kernel)
set_option maxRecDepth 65536 in
theorem w_c3 : (Jvm.Cond.code ({ cls := "com/example/lean_entities/leanentities/session/Cursor", name := "toWebSafeString", desc := "()Ljava/lang/String;" } : Jvm.MethodName) prog_18_method_3_code (2 : Nat) (Option.some (Jvm.ClassFile.FieldType.object "java/lang/String"))).before args0 about1 = true := code_word (m := ⟨2, 1⟩) (meth := k2m1) (c := k2c1) (by decide +kernel) rfl rfl rfl (by decide +kernel)
set_option maxRecDepth 65536 in
theorem w_c4 : (Jvm.Cond.code ({ cls := "java/util/Base64", name := "getUrlEncoder", desc := "()Ljava/util/Base64$Encoder;" } : Jvm.MethodName) jdk_2448_method_3_code (0 : Nat) (Option.some (Jvm.ClassFile.FieldType.object "java/util/Base64$Encoder"))).before args0 about1 = true := code_word (m := ⟨5, 1⟩) (meth := k5m1) (c := k5c1) (by decide +kernel) rfl rfl rfl (by decide +kernel)
set_option maxRecDepth 65536 in
theorem w_c5 : (Jvm.Cond.code ({ cls := "java/util/Base64$Encoder", name := "withoutPadding", desc := "()Ljava/util/Base64$Encoder;" } : Jvm.MethodName) jdk_2452_method_8_code (1 : Nat) (Option.some (Jvm.ClassFile.FieldType.object "java/util/Base64$Encoder"))).before args0 about1 = true := code_word (m := ⟨6, 4⟩) (meth := k6m4) (c := k6c4) (by decide +kernel) rfl rfl rfl (by decide +kernel)
set_option maxRecDepth 65536 in
theorem w_c6 : (Jvm.Cond.code ({ cls := "java/util/Base64$Encoder", name := "<init>", desc := "(Z[BIZ)V" } : Jvm.MethodName) jdk_2452_method_1_code (5 : Nat) (Option.none : Option Jvm.ClassFile.FieldType)).before args0 about1 = true := code_word (m := ⟨6, 0⟩) (meth := k6m0) (c := k6c0) (by decide +kernel) rfl rfl rfl (by decide +kernel)
set_option maxRecDepth 65536 in
theorem w_c7 : (Jvm.Cond.code ({ cls := "java/util/Base64$Encoder", name := "encodeToString", desc := "([B)Ljava/lang/String;" } : Jvm.MethodName) jdk_2452_method_5_code (3 : Nat) (Option.some (Jvm.ClassFile.FieldType.object "java/lang/String"))).before args0 about1 = true := code_word (m := ⟨6, 3⟩) (meth := k6m3) (c := k6c3) (by decide +kernel) rfl rfl rfl (by decide +kernel)
set_option maxRecDepth 65536 in
theorem w_c8 : (Jvm.Cond.code ({ cls := "java/util/Base64$Encoder", name := "encode", desc := "([B)[B" } : Jvm.MethodName) jdk_2452_method_3_code (5 : Nat) (Option.some (Jvm.ClassFile.FieldType.array Jvm.ClassFile.FieldType.byte))).before args0 about1 = true := code_word (m := ⟨6, 2⟩) (meth := k6m2) (c := k6c2) (by decide +kernel) rfl rfl rfl (by decide +kernel)
set_option maxRecDepth 65536 in
theorem w_c9 : (Jvm.Cond.code ({ cls := "java/lang/Math", name := "multiplyExact", desc := "(II)I" } : Jvm.MethodName) jdk_29_method_28_code (4 : Nat) (Option.some Jvm.ClassFile.FieldType.int)).before args0 about1 = true := code_word (m := ⟨7, 2⟩) (meth := k7m2) (c := k7c2) (by decide +kernel) rfl rfl rfl (by decide +kernel)
set_option maxRecDepth 65536 in
theorem w_c10 : (Jvm.Cond.code ({ cls := "java/lang/Math", name := "addExact", desc := "(II)I" } : Jvm.MethodName) jdk_29_method_24_code (3 : Nat) (Option.some Jvm.ClassFile.FieldType.int)).before args0 about1 = true := code_word (m := ⟨7, 1⟩) (meth := k7m1) (c := k7c1) (by decide +kernel) rfl rfl rfl (by decide +kernel)
set_option maxRecDepth 65536 in
theorem w_c11 : (Jvm.Cond.code ({ cls := "java/util/Base64$Encoder", name := "encode0", desc := "([BII[B)I" } : Jvm.MethodName) jdk_2452_method_10_code (16 : Nat) (Option.some Jvm.ClassFile.FieldType.int)).before args0 about1 = true := code_word (m := ⟨6, 6⟩) (meth := k6m6) (c := k6c6) (by decide +kernel) rfl rfl rfl (by decide +kernel)
set_option maxRecDepth 65536 in
theorem w_c12 : (Jvm.Cond.code ({ cls := "java/lang/String", name := "<init>", desc := "([BIII)V" } : Jvm.MethodName) jdk_42_method_7_code (7 : Nat) (Option.none : Option Jvm.ClassFile.FieldType)).before args0 about1 = true := code_word (m := ⟨13, 1⟩) (meth := k13m1) (c := k13c1) (by decide +kernel) rfl rfl rfl (by decide +kernel)
set_option maxRecDepth 65536 in
theorem w_c13 : (Jvm.Cond.code ({ cls := "java/lang/String", name := "checkBoundsOffCount", desc := "(III)I" } : Jvm.MethodName) jdk_42_method_157_code (3 : Nat) (Option.some Jvm.ClassFile.FieldType.int)).before args0 about1 = true := code_word (m := ⟨13, 7⟩) (meth := k13m7) (c := k13c7) (by decide +kernel) rfl rfl rfl (by decide +kernel)
set_option maxRecDepth 65536 in
theorem w_c14 : (Jvm.Cond.code ({ cls := "jdk/internal/util/Preconditions", name := "checkFromIndexSize", desc := "(IIILjava/util/function/BiFunction;)I" } : Jvm.MethodName) jdk_41_method_13_code (4 : Nat) (Option.some Jvm.ClassFile.FieldType.int)).before args0 about1 = true := code_word (m := ⟨14, 2⟩) (meth := k14m2) (c := k14c2) (by decide +kernel) rfl rfl rfl (by decide +kernel)
set_option maxRecDepth 65536 in
theorem w_c15 : (Jvm.Cond.code ({ cls := "java/util/Arrays", name := "copyOfRange", desc := "([BII)[B" } : Jvm.MethodName) jdk_65_method_132_code (3 : Nat) (Option.some (Jvm.ClassFile.FieldType.array Jvm.ClassFile.FieldType.byte))).before args0 about1 = true := code_word (m := ⟨15, 1⟩) (meth := k15m1) (c := k15c1) (by decide +kernel) rfl rfl rfl (by decide +kernel)
set_option maxRecDepth 65536 in
theorem w_c16 : (Jvm.Cond.code ({ cls := "com/example/lean_entities/leanentities/session/CursorToWebSafeStringPinLaw", name := "enc", desc := "(I)C" } : Jvm.MethodName) method_2_code (1 : Nat) (Option.some Jvm.ClassFile.FieldType.char)).before args0 about1 = true := code_word (m := ⟨1, 1⟩) (meth := k1m1) (c := k1c1) (by decide +kernel) rfl rfl rfl (by decide +kernel)
set_option maxRecDepth 65536 in
theorem w_c17 : (Jvm.Cond.code ({ cls := "java/lang/String", name := "length", desc := "()I" } : Jvm.MethodName) jdk_42_method_54_code (1 : Nat) (Option.some Jvm.ClassFile.FieldType.int)).before args0 about1 = true := code_word (m := ⟨13, 2⟩) (meth := k13m2) (c := k13c2) (by decide +kernel) rfl rfl rfl (by decide +kernel)
set_option maxRecDepth 65536 in
theorem w_c18 : (Jvm.Cond.code ({ cls := "java/lang/String", name := "coder", desc := "()B" } : Jvm.MethodName) jdk_42_method_152_code (1 : Nat) (Option.some Jvm.ClassFile.FieldType.byte)).before args0 about1 = true := code_word (m := ⟨13, 4⟩) (meth := k13m4) (c := k13c4) (by decide +kernel) rfl rfl rfl (by decide +kernel)
set_option maxRecDepth 65536 in
theorem w_c19 : (Jvm.Cond.code ({ cls := "java/lang/String", name := "charAt", desc := "(I)C" } : Jvm.MethodName) jdk_42_method_56_code (2 : Nat) (Option.some Jvm.ClassFile.FieldType.char)).before args0 about1 = true := code_word (m := ⟨13, 3⟩) (meth := k13m3) (c := k13c3) (by decide +kernel) rfl rfl rfl (by decide +kernel)
set_option maxRecDepth 65536 in
theorem w_c20 : (Jvm.Cond.code ({ cls := "java/lang/String", name := "isLatin1", desc := "()Z" } : Jvm.MethodName) jdk_42_method_154_code (1 : Nat) (Option.some Jvm.ClassFile.FieldType.boolean)).before args0 about1 = true := code_word (m := ⟨13, 5⟩) (meth := k13m5) (c := k13c5) (by decide +kernel) rfl rfl rfl (by decide +kernel)
set_option maxRecDepth 65536 in
theorem w_c21 : (Jvm.Cond.code ({ cls := "java/lang/StringLatin1", name := "charAt", desc := "([BI)C" } : Jvm.MethodName) jdk_43_method_2_code (2 : Nat) (Option.some Jvm.ClassFile.FieldType.char)).before args0 about1 = true := code_word (m := ⟨16, 1⟩) (meth := k16m1) (c := k16c1) (by decide +kernel) rfl rfl rfl (by decide +kernel)
set_option maxRecDepth 65536 in
theorem w_c22 : (Jvm.Cond.code ({ cls := "java/lang/String", name := "checkIndex", desc := "(II)V" } : Jvm.MethodName) jdk_42_method_155_code (2 : Nat) (Option.none : Option Jvm.ClassFile.FieldType)).before args0 about1 = true := code_word (m := ⟨13, 6⟩) (meth := k13m6) (c := k13c6) (by decide +kernel) rfl rfl rfl (by decide +kernel)
set_option maxRecDepth 65536 in
theorem w_c23 : (Jvm.Cond.code ({ cls := "jdk/internal/util/Preconditions", name := "checkIndex", desc := "(IILjava/util/function/BiFunction;)I" } : Jvm.MethodName) jdk_41_method_11_code (3 : Nat) (Option.some Jvm.ClassFile.FieldType.int)).before args0 about1 = true := code_word (m := ⟨14, 1⟩) (meth := k14m1) (c := k14c1) (by decide +kernel) rfl rfl rfl (by decide +kernel)
set_option maxRecDepth 65536 in
theorem w_c24 : (Jvm.Cond.code ({ cls := "java/lang/Math", name := "min", desc := "(II)I" } : Jvm.MethodName) jdk_29_method_69_code (2 : Nat) (Option.some Jvm.ClassFile.FieldType.int)).before args0 about1 = true := code_word (m := ⟨7, 3⟩) (meth := k7m3) (c := k7c3) (by decide +kernel) rfl rfl rfl (by decide +kernel)
set_option maxRecDepth 65536 in
theorem w_c25 : (Jvm.Cond.code ({ cls := "java/util/Base64$Encoder", name := "encodeBlock", desc := "([BII[BIZ)V" } : Jvm.MethodName) jdk_2452_method_9_code (11 : Nat) (Option.none : Option Jvm.ClassFile.FieldType)).before args0 about1 = true := code_word (m := ⟨6, 5⟩) (meth := k6m5) (c := k6c5) (by decide +kernel) rfl rfl rfl (by decide +kernel)
def codes1 : List Jvm.Cond := [Jvm.Cond.code x code maxLocals ret, Jvm.Cond.code ({ cls := "com/example/lean_entities/leanentities/session/Cursor", name := "<init>", desc := "([B)V" } : Jvm.MethodName) prog_18_method_1_code (2 : Nat) (Option.none : Option Jvm.ClassFile.FieldType), Jvm.Cond.code ({ cls := "java/lang/Object", name := "<init>", desc := "()V" } : Jvm.MethodName) object_method_1_code (1 : Nat) (Option.none : Option Jvm.ClassFile.FieldType), Jvm.Cond.code ({ cls := "com/example/lean_entities/leanentities/session/Cursor", name := "toWebSafeString", desc := "()Ljava/lang/String;" } : Jvm.MethodName) prog_18_method_3_code (2 : Nat) (Option.some (Jvm.ClassFile.FieldType.object "java/lang/String")), Jvm.Cond.code ({ cls := "java/util/Base64", name := "getUrlEncoder", desc := "()Ljava/util/Base64$Encoder;" } : Jvm.MethodName) jdk_2448_method_3_code (0 : Nat) (Option.some (Jvm.ClassFile.FieldType.object "java/util/Base64$Encoder")), Jvm.Cond.code ({ cls := "java/util/Base64$Encoder", name := "withoutPadding", desc := "()Ljava/util/Base64$Encoder;" } : Jvm.MethodName) jdk_2452_method_8_code (1 : Nat) (Option.some (Jvm.ClassFile.FieldType.object "java/util/Base64$Encoder")), Jvm.Cond.code ({ cls := "java/util/Base64$Encoder", name := "<init>", desc := "(Z[BIZ)V" } : Jvm.MethodName) jdk_2452_method_1_code (5 : Nat) (Option.none : Option Jvm.ClassFile.FieldType), Jvm.Cond.code ({ cls := "java/util/Base64$Encoder", name := "encodeToString", desc := "([B)Ljava/lang/String;" } : Jvm.MethodName) jdk_2452_method_5_code (3 : Nat) (Option.some (Jvm.ClassFile.FieldType.object "java/lang/String")), Jvm.Cond.code ({ cls := "java/util/Base64$Encoder", name := "encode", desc := "([B)[B" } : Jvm.MethodName) jdk_2452_method_3_code (5 : Nat) (Option.some (Jvm.ClassFile.FieldType.array Jvm.ClassFile.FieldType.byte)), Jvm.Cond.code ({ cls := "java/lang/Math", name := "multiplyExact", desc := "(II)I" } : Jvm.MethodName) jdk_29_method_28_code (4 : Nat) (Option.some Jvm.ClassFile.FieldType.int), Jvm.Cond.code ({ cls := "java/lang/Math", name := "addExact", desc := "(II)I" } : Jvm.MethodName) jdk_29_method_24_code (3 : Nat) (Option.some Jvm.ClassFile.FieldType.int), Jvm.Cond.code ({ cls := "java/util/Base64$Encoder", name := "encode0", desc := "([BII[B)I" } : Jvm.MethodName) jdk_2452_method_10_code (16 : Nat) (Option.some Jvm.ClassFile.FieldType.int), Jvm.Cond.code ({ cls := "java/lang/String", name := "<init>", desc := "([BIII)V" } : Jvm.MethodName) jdk_42_method_7_code (7 : Nat) (Option.none : Option Jvm.ClassFile.FieldType), Jvm.Cond.code ({ cls := "java/lang/String", name := "checkBoundsOffCount", desc := "(III)I" } : Jvm.MethodName) jdk_42_method_157_code (3 : Nat) (Option.some Jvm.ClassFile.FieldType.int), Jvm.Cond.code ({ cls := "jdk/internal/util/Preconditions", name := "checkFromIndexSize", desc := "(IIILjava/util/function/BiFunction;)I" } : Jvm.MethodName) jdk_41_method_13_code (4 : Nat) (Option.some Jvm.ClassFile.FieldType.int), Jvm.Cond.code ({ cls := "java/util/Arrays", name := "copyOfRange", desc := "([BII)[B" } : Jvm.MethodName) jdk_65_method_132_code (3 : Nat) (Option.some (Jvm.ClassFile.FieldType.array Jvm.ClassFile.FieldType.byte)), Jvm.Cond.code ({ cls := "com/example/lean_entities/leanentities/session/CursorToWebSafeStringPinLaw", name := "enc", desc := "(I)C" } : Jvm.MethodName) method_2_code (1 : Nat) (Option.some Jvm.ClassFile.FieldType.char), Jvm.Cond.code ({ cls := "java/lang/String", name := "length", desc := "()I" } : Jvm.MethodName) jdk_42_method_54_code (1 : Nat) (Option.some Jvm.ClassFile.FieldType.int), Jvm.Cond.code ({ cls := "java/lang/String", name := "coder", desc := "()B" } : Jvm.MethodName) jdk_42_method_152_code (1 : Nat) (Option.some Jvm.ClassFile.FieldType.byte), Jvm.Cond.code ({ cls := "java/lang/String", name := "charAt", desc := "(I)C" } : Jvm.MethodName) jdk_42_method_56_code (2 : Nat) (Option.some Jvm.ClassFile.FieldType.char), Jvm.Cond.code ({ cls := "java/lang/String", name := "isLatin1", desc := "()Z" } : Jvm.MethodName) jdk_42_method_154_code (1 : Nat) (Option.some Jvm.ClassFile.FieldType.boolean), Jvm.Cond.code ({ cls := "java/lang/StringLatin1", name := "charAt", desc := "([BI)C" } : Jvm.MethodName) jdk_43_method_2_code (2 : Nat) (Option.some Jvm.ClassFile.FieldType.char), Jvm.Cond.code ({ cls := "java/lang/String", name := "checkIndex", desc := "(II)V" } : Jvm.MethodName) jdk_42_method_155_code (2 : Nat) (Option.none : Option Jvm.ClassFile.FieldType), Jvm.Cond.code ({ cls := "jdk/internal/util/Preconditions", name := "checkIndex", desc := "(IILjava/util/function/BiFunction;)I" } : Jvm.MethodName) jdk_41_method_11_code (3 : Nat) (Option.some Jvm.ClassFile.FieldType.int), Jvm.Cond.code ({ cls := "java/lang/Math", name := "min", desc := "(II)I" } : Jvm.MethodName) jdk_29_method_69_code (2 : Nat) (Option.some Jvm.ClassFile.FieldType.int), Jvm.Cond.code ({ cls := "java/util/Base64$Encoder", name := "encodeBlock", desc := "([BII[BIZ)V" } : Jvm.MethodName) jdk_2452_method_9_code (11 : Nat) (Option.none : Option Jvm.ClassFile.FieldType)]
set_option maxRecDepth 65536 in
theorem codes_eq : words1.filter isCode = codes1 := rfl
theorem w_codes : ∀ c ∈ words1.filter isCode, c.before args0 about1 = true := by
  rw [codes_eq]
  intro c hc
  simp only [codes1, List.mem_cons, List.not_mem_nil, or_false] at hc
  rcases hc with rfl | rfl | rfl | rfl | rfl | rfl | rfl | rfl | rfl | rfl | rfl | rfl | rfl | rfl | rfl | rfl | rfl | rfl | rfl | rfl | rfl | rfl | rfl | rfl | rfl | rfl
  · exact w_c0
  · exact w_c1
  · exact w_c2
  · exact w_c3
  · exact w_c4
  · exact w_c5
  · exact w_c6
  · exact w_c7
  · exact w_c8
  · exact w_c9
  · exact w_c10
  · exact w_c11
  · exact w_c12
  · exact w_c13
  · exact w_c14
  · exact w_c15
  · exact w_c16
  · exact w_c17
  · exact w_c18
  · exact w_c19
  · exact w_c20
  · exact w_c21
  · exact w_c22
  · exact w_c23
  · exact w_c24
  · exact w_c25
set_option maxRecDepth 65536 in
theorem w_t1 : (words1.take 24).all (fun c => isCode c || c.before args0 about1) = true := by decide +kernel
set_option maxRecDepth 65536 in
theorem w_t2 : ((words1.drop 24).take 24).all (fun c => isCode c || c.before args0 about1) = true := by decide +kernel
set_option maxRecDepth 65536 in
theorem w_t3 : (((words1.drop 24).drop 24).take 24).all (fun c => isCode c || c.before args0 about1) = true := by decide +kernel
set_option maxRecDepth 65536 in
theorem w_t4 : ((((words1.drop 24).drop 24).drop 24).take 24).all (fun c => isCode c || c.before args0 about1) = true := by decide +kernel
set_option maxRecDepth 65536 in
theorem w_t5 : (((((words1.drop 24).drop 24).drop 24).drop 24).take 24).all (fun c => isCode c || c.before args0 about1) = true := by decide +kernel
set_option maxRecDepth 65536 in
theorem w_t6 : ((((((words1.drop 24).drop 24).drop 24).drop 24).drop 24).take 24).all (fun c => isCode c || c.before args0 about1) = true := by decide +kernel
set_option maxRecDepth 65536 in
theorem w_t7 : ((((((words1.drop 24).drop 24).drop 24).drop 24).drop 24).drop 24).all (fun c => isCode c || c.before args0 about1) = true := by decide +kernel
theorem w_tables : (allAtoms (Jvm.Cond.code x code maxLocals ret :: tables_1)).before args0 about1 = true := by
  rw [allAtoms_all]
  show words1.all (fun c => c.before args0 about1) = true
  refine all_split ?_ w_codes
  rw [← List.take_append_drop 24 words1, List.all_append, w_t1, ← List.take_append_drop 24 (words1.drop 24), List.all_append, w_t2, ← List.take_append_drop 24 ((words1.drop 24).drop 24), List.all_append, w_t3, ← List.take_append_drop 24 (((words1.drop 24).drop 24).drop 24), List.all_append, w_t4, ← List.take_append_drop 24 ((((words1.drop 24).drop 24).drop 24).drop 24), List.all_append, w_t5, ← List.take_append_drop 24 (((((words1.drop 24).drop 24).drop 24).drop 24).drop 24), List.all_append, w_t6, w_t7]
  rfl
set_option maxRecDepth 65536 in
theorem w_rest : rest_1_c.before args0 about1 = true := by decide +kernel
set_option maxRecDepth 65536 in
theorem w_case : (Jvm.Cond.and given_1 narrow_1).before args0 about1 = true := by decide +kernel
theorem w_applies : (headSpec (Jvm.Cond.code x code maxLocals ret :: tables_1) room_1).applies x e0.platform about1 = true :=
  (Spec.applies_iff w_frames).mpr ⟨w_running, w_runnable, w_alone, w_named, w_hears, w_ripe, w_room, w_tables⟩
theorem atStart : AtStart classFile x code maxLocals ret World_1 tables_1 room_1 Calls_1 rest_1 Pre_1 launch0 p0 e0 about1 theMethod args0 below0 :=
  ⟨lists_1, trivial, launch0.admits_env _ _ _, launch0.least_env, fairChoices_fair.cas, fairChoices_fair.clock, w_frames, w_args, w_heap, w_applies, trivial, w_rest, w_case⟩
end start1
theorem witness_1 : WitnessClaimed_1 := ⟨start1.p0, start1.e0, start1.about1, start1.theMethod, start1.args0, start1.below0, start1.atStart⟩
end Jvm.Pilot.@@N@@
