import JvmDerived
import JvmDerived.Pilot.@@N@@Statement
import JvmDerived.Pilot.@@N@@Code
set_option linter.unusedVariables false
set_option linter.unusedSimpArgs false
namespace Jvm.Pilot.@@N@@
open Jvm Jvm.ClassFile Sem Op Lib Jvm.Free Jvm.Stand Jvm.LawKit Jvm.RoadKit Bundle Jvm.Pilot.@@N@@.Jvm.D
section Kit
variable {p : Program} {l : Launch} {e : Env} {R : Room} {s : State} {m : MethodId} {args : Array Value} {below : List Frame} {meth : Method} {c : Code} {Z : State} {EL : List (String × Nat)} {own : String} {n0 : Nat} {bk : Addr → Prop} {h : Heap} {cells slots : Nat} {g g' : JFrame} {a0 : Array Value} {Q : Option Value → Heap → (Addr → Prop) → Prop}
/-- what a walk leaves: its answer, its heap, what may be booked -/
def EndW (s : State) (R : Room) (Z : State) (EL : List (String × Nat)) (n0 : Nat) (Q : Option Value → Heap → (Addr → Prop) → Prop) (o : Outcome) (U : State) : Prop :=
  ∃ v L bk', o = .returned v ∧ (Q v U.heap bk' ∧ Fr n0 L ∧ Old Z n0 U.heap ∧ CHv Z EL U.vm U.heap ∧ ∀ y, Bk Z EL U.vm U.heap y → bk' y) ∧ ReturnedEndW s o U L R.cells R.slots
/-- where a walk stands -/
def Pos (p : Program) (l : Launch) (e : Env) (R : Room) (s : State) (m : MethodId) (args : Array Value) (below : List Frame) (meth : Method) (c : Code) (Z : State) (EL : List (String × Nat)) (own : String) (n0 : Nat) (bk : Addr → Prop) (h : Heap) (cells slots : Nat) (vm0 : Vm) (T : State) (locs : List Loc) : Prop :=
  Stand p l e R (s.setVm vm0) m args below meth c T locs cells slots ∧ T.heap = h ∧ (∃ k0, s.Since vm0 k0 ∧ k0 ≤ h.size) ∧ Z.Warmed39 vm0 ∧ vm0.findClass own = some m.cls ∧ Fr n0 locs ∧ Old Z n0 h ∧ CHv Z EL vm0 h ∧ (∀ y, Bk Z EL vm0 h y → bk y) ∧ ∃ a0, EW Z a0 EL
/-- from here the walk ends, and leaves Q -/
def Run (p : Program) (l : Launch) (e : Env) (R : Room) (s : State) (m : MethodId) (args : Array Value) (below : List Frame) (meth : Method) (c : Code) (Z : State) (EL : List (String × Nat)) (own : String) (n0 : Nat) (bk : Addr → Prop) (h : Heap) (cells slots : Nat) (g : JFrame) (Q : Option Value → Heap → (Addr → Prop) → Prop) : Prop :=
  ∀ vm0 T locs, Pos p l e R s m args below meth c Z EL own n0 bk h cells slots vm0 T locs → ∃ U o, Steps p.tables e below (T.setTop g) U ∧ U.status = .running ∧ Ended U below o ∧ EndW s R Z EL n0 Q o U
/-- a body's contract -/
def Met (l : Launch) (Z : State) (EL : List (String × Nat)) (n0 : Nat) (bk : Addr → Prop) (y : MethodName) (bytes : ByteArray) (maxL : Nat) (ret : Option FieldType) (rm : Room) (as' : Array Value) (h : Heap) (Q : Option Value → Heap → (Addr → Prop) → Prop) (ws : List Jvm.Cond) : Prop :=
  MetFree l y (head1 (Jvm.Cond.code y bytes maxL ret :: ws) rm) (fun a U => a = as' ∧ Z.Warmed39 U.vm ∧ U.heap = h ∧ CHv Z EL U.vm h ∧ ∀ x, Bk Z EL U.vm h x → bk x) (fun _ _ _ _ _ => True) (fun _ U o U' => EndW U rm Z EL n0 Q o U')
theorem end_mono {s t : State} {o : Outcome} {L : List Loc} {k n k' n' : Nat} (H : ReturnedEndW s o t L k n) (hk : k ≤ k') (hn : n ≤ n') : ReturnedEndW s o t L k' n' := ⟨H.1, H.2.1, H.2.2.1, H.2.2.2.mono hk hn⟩
theorem Met.of {y : MethodName} {bytes : ByteArray} {maxL : Nat} {ret : Option FieldType} {rm : Room} {as' : Array Value} {ws : List Jvm.Cond} (hp : plainFor y = true) (hO : Old Z n0 h) (hE : EW Z a0 EL)
    (H : ∀ p e s m below meth c, p.tables.exec = Jvm.exec → c.code = bytes → c.maxLocals = maxL → meth.sig.returnType = ret → meth.locks = false → meth.name = y.name → Run p l e rm s m as' below meth c Z EL y.cls n0 bk h 0 0 (entryFrame m as' maxL) Q) : Met l Z EL n0 bk y bytes maxL ret rm as' h Q ws := by
  refine MetFree.of_bodySF hp hisR ?_
  intro p e s m args below meth c s₁ Bd hml hP hK
  obtain ⟨rfl, hZ, hh, hC, hB⟩ := hP
  have e0 : s₁.heap = h := by rw [← hh, Bd.state]; rfl
  exact H p e s m below meth c Bd.exec Bd.bytes hml Bd.returns Bd.notSynchronized (name_of_methodNamed Bd.named Bd.method).1 s.vm s₁ [] ⟨Stand.of_body Bd, e0, ⟨0, (State.WarmedH.refl s).since _, Nat.zero_le _⟩, hZ, findClass_of_methodNamed Bd.named, Fr.nil _, hO, hC, hB, _, hE⟩
/-- one pure step -/
theorem k_pure (st : ∀ T, At T m c below → ∀ t, Steps p.tables e below (T.setTop g') t → Steps p.tables e below (T.setTop g) t)
    (k : Run p l e R s m args below meth c Z EL own n0 bk h cells slots g' Q) : Run p l e R s m args below meth c Z EL own n0 bk h cells slots g Q := fun vm0 T locs P => by
  obtain ⟨U, o, h1, r⟩ := k vm0 T locs P
  exact ⟨U, o, st T P.1.here _ h1, r⟩
theorem k_cast (q : g = g') (k : Run p l e R s m args below meth c Z EL own n0 bk h cells slots g' Q) : Run p l e R s m args below meth c Z EL own n0 bk h cells slots g Q := q ▸ k
/-- one step that looks at the tables or the heap and moves no cell -/
theorem k_still (st : ∀ s' T locs, Stand p l e R s' m args below meth c T locs cells slots → T.heap = h → Z.Warmed39 s'.vm → s'.vm.findClass own = some m.cls → ∃ T', Stand p l e R s' m args below meth c T' locs cells slots ∧ T'.heap = h ∧ ∀ t, Steps p.tables e below (T'.setTop g') t → Steps p.tables e below (T.setTop g) t)
    (k : Run p l e R s m args below meth c Z EL own n0 bk h cells slots g' Q) : Run p l e R s m args below meth c Z EL own n0 bk h cells slots g Q := fun vm0 T locs P => by
  obtain ⟨X, e1, hS, hZ, ho, N, O, C, B, hE⟩ := P
  obtain ⟨T', X', e2, st'⟩ := st _ T locs X e1 hZ ho
  obtain ⟨U, o, h1, r⟩ := k vm0 T' locs ⟨X', e2, hS, hZ, ho, N, O, C, B, hE⟩
  exact ⟨U, o, st' _ h1, r⟩
/-- one step that makes cells -/
theorem k_grow {kc ks : Nat} {F : Heap → JFrame → Prop} (st : ∀ s' T locs, Stand p l e R s' m args below meth c T locs cells slots → T.heap = h → Z.Warmed39 s'.vm → s'.vm.findClass own = some m.cls → ∃ T' h' g', Stand p l e R s' m args below meth c T' locs (cells + kc) (slots + ks) ∧ T'.heap = h' ∧ Ext h h' ∧ F h' g' ∧ ∀ t, Steps p.tables e below (T'.setTop g') t → Steps p.tables e below (T.setTop g) t)
    (k : ∀ h' g', Old Z n0 h' → Ext h h' → F h' g' → Run p l e R s m args below meth c Z EL own n0 bk h' (cells + kc) (slots + ks) g' Q) : Run p l e R s m args below meth c Z EL own n0 bk h cells slots g Q := fun vm0 T locs P => by
  obtain ⟨X, e1, ⟨k0, hS, hk⟩, hZ, ho, N, O, C, B, hE⟩ := P
  obtain ⟨T', h', g', X', e2, E, hF, st'⟩ := st _ T locs X e1 hZ ho
  have hC := CHr.ext E C
  obtain ⟨U, o, h1, r⟩ := k h' g' (O.ext E) E hF vm0 T' locs ⟨X', e2, ⟨k0, hS, Nat.le_trans hk E.1⟩, hZ, ho, N, O.ext E, hC.1, fun y q => B y ((C.step fun _ _ _ q => E.2 _ _ q).2 y q), hE⟩
  exact ⟨U, o, st' _ h1, r⟩
/-- one step that writes one place of a cell that is ours -/
theorem k_write {a : Addr} {sl : Nat} {v : Value} (ge : n0 ≤ a) (nb : ¬ bk a)
    (st : ∀ s' T locs, Stand p l e R s' m args below meth c T locs cells slots → T.heap = h → Z.Warmed39 s'.vm → s'.vm.findClass own = some m.cls → ∃ T' h', Stand p l e R s' m args below meth c T' (locs ++ [⟨a, sl⟩]) cells slots ∧ T'.heap = h' ∧ Wr h h' a sl v ∧ ∀ t, Steps p.tables e below (T'.setTop g') t → Steps p.tables e below (T.setTop g) t)
    (k : ∀ h', Old Z n0 h' → Wr h h' a sl v → Run p l e R s m args below meth c Z EL own n0 bk h' cells slots g' Q) : Run p l e R s m args below meth c Z EL own n0 bk h cells slots g Q := fun vm0 T locs P => by
  obtain ⟨X, e1, ⟨k0, hS, hk⟩, hZ, ho, N, O, C, B, hE⟩ := P
  obtain ⟨T', h', X', e2, W, st'⟩ := st _ T locs X e1 hZ ho
  have sa : Safe Z EL vm0 h a := fun q => nb (B a q)
  have hC := C.wrStep W sa
  obtain ⟨U, o, h1, r⟩ := k h' (O.wr W ge) W vm0 T' _ ⟨X', e2, ⟨k0, hS, by rw [W.size]; exact hk⟩, hZ, ho, Fr.snoc X' N ge, O.wr W ge, hC.1, fun y q => B y (hC.2 y q), hE⟩
  exact ⟨U, o, st' _ h1, r⟩
/-- the end of a walk -/
theorem k_end {v : Option Value} (hlk : meth.locks = false) (hv : meth.sig.returnType = none → v = none) (hc : cells ≤ R.cells) (hs : slots ≤ R.slots) (hQ : Q v h bk)
    (st : ∀ s' T locs fs, Stand p l e R s' m args below meth c T locs cells slots → (∀ (f : JFrame) (acts : List Action), f.method = m → f.locked = none → f.entered = [] → (doReturn e (T.setTop f) acts v).1 = T.setFrames fs) → Steps p.tables e below (T.setTop g) (T.setFrames fs)) :
    Run p l e R s m args below meth c Z EL own n0 bk h cells slots g Q := fun vm0 T locs P => by
  obtain ⟨X, e1, ⟨k0, hS, hk⟩, hZ, ho, N, O, C, B, a0, hE⟩ := P
  obtain ⟨fs, hr, hrun, hended, hW⟩ := X.leaveW hS (by rw [e1]; exact hk) (v := v) hv hlk
  have A := CHv.at X hZ hE C
  have eh : (T.setFrames fs).heap = h := e1
  refine ⟨_, _, st _ T locs fs X hr, hrun, hended, v, locs, bk, rfl, ⟨?_, N, ?_, ?_, ?_⟩, end_mono hW hc hs⟩
  · rw [eh]; exact hQ
  · rw [eh]; exact O
  · rw [eh]; exact A.1
  · rw [eh]; exact fun y q => (A.2.2 y q).elim (B y) (fun z => absurd (Array.getElem?_eq_some_iff.mp (Bk.there q).choose_spec).1 (Nat.not_lt.mpr z))
/-! the steps -/
theorem k_getF (hx : p.tables.exec = Jvm.exec) {R0 O n d host : String} {index : Nat} (w : (Jvm.Cond.fieldLink own index R0 n d).before a0 Z = true ∨ (Jvm.Cond.fieldLinkNest own index R0 n d host).before a0 Z = true) (via : Via Z R0 O n d) {a : Addr} {v : Value} (F : Fld Z h a O n d v)
    (hg : g.method = m) {rest : List Value} (hs : g.stack = .ref a :: rest) (hd : decode c.code g.pc = .ok (.getfield index, 3)) (k : Run p l e R s m args below meth c Z EL own n0 bk h cells slots { g with pc := g.pc + 3, stack := v :: rest } Q) : Run p l e R s m args below meth c Z EL own n0 bk h cells slots g Q :=
  k_still (fun s' T locs X e1 hZ ho => getF X hx hZ ho w via e1 F hg hs hd) k
theorem k_getS (hx : p.tables.exec = Jvm.exec) {R0 O n d host : String} {index : Nat} (w : (Jvm.Cond.fieldLink own index R0 n d).before a0 Z = true ∨ (Jvm.Cond.fieldLinkNest own index R0 n d host).before a0 Z = true) (via : Via Z R0 O n d) {v : Value} (F : Sta Z h O n d v)
    (hg : g.method = m) (hd : decode c.code g.pc = .ok (.getstatic index, 3)) (k : Run p l e R s m args below meth c Z EL own n0 bk h cells slots { g with pc := g.pc + 3, stack := v :: g.stack } Q) : Run p l e R s m args below meth c Z EL own n0 bk h cells slots g Q :=
  k_still (fun s' T locs X e1 hZ ho => getS2 X hx hZ ho w via e1 F hg hd) k
theorem k_cast' (hx : p.tables.exec = Jvm.exec) {K : String} {index : Nat} (w : (Jvm.Cond.classLink own index K).before a0 Z = true) {a : Addr} (F : Ins Z h a K true) (hg : g.method = m) {rest : List Value} (hs : g.stack = .ref a :: rest) (hd : decode c.code g.pc = .ok (.checkcast index, 3))
    (k : Run p l e R s m args below meth c Z EL own n0 bk h cells slots { g with pc := g.pc + 3 } Q) : Run p l e R s m args below meth c Z EL own n0 bk h cells slots g Q :=
  k_still (fun s' T locs X e1 hZ ho => castY X hx hZ ho w e1 F hg hs hd) k
theorem k_instY (hx : p.tables.exec = Jvm.exec) {K : String} {index : Nat} (w : (Jvm.Cond.classLink own index K).before a0 Z = true) {a : Addr} (F : Ins Z h a K true) (hg : g.method = m) {rest : List Value} (hs : g.stack = .ref a :: rest) (hd : decode c.code g.pc = .ok (.instanceof index, 3))
    (k : Run p l e R s m args below meth c Z EL own n0 bk h cells slots { g with pc := g.pc + 3, stack := .int 1 :: rest } Q) : Run p l e R s m args below meth c Z EL own n0 bk h cells slots g Q :=
  k_still (fun s' T locs X e1 hZ ho => instY X hx hZ ho w e1 F hg hs hd) k
theorem k_instNo (hx : p.tables.exec = Jvm.exec) {K C : String} {index : Nat} (w : (Jvm.Cond.classLink own index K).before a0 Z = true) {a : Addr} (E : Exa Z h a C) (F : ∃ c t, Z.vm.findClass C = some c ∧ Z.vm.findClass K = some t ∧ Z.vm.assignable c t = false) (hg : g.method = m) {rest : List Value} (hs : g.stack = .ref a :: rest) (hd : decode c.code g.pc = .ok (.instanceof index, 3))
    (k : Run p l e R s m args below meth c Z EL own n0 bk h cells slots { g with pc := g.pc + 3, stack := .int 0 :: rest } Q) : Run p l e R s m args below meth c Z EL own n0 bk h cells slots g Q :=
  k_still (fun s' T locs X e1 hZ ho => instNo X hx hZ ho w e1 E F hg hs hd) k
theorem k_initO (hx : p.tables.exec = Jvm.exec) {idx : Nat} (w1 : (Jvm.Cond.methodLink own idx Lib.objectInit).before a0 Z = true) (w2 : (Jvm.Cond.instanceMethod Lib.objectInit).before a0 Z = true) (w3 : (Jvm.Cond.code Lib.objectInit ⟨#[0xb1]⟩ 1 none).before a0 Z = true)
    (hg : g.method = m) (hsize : g.locals.size = c.maxLocals) {a : Addr} {rest : List Value} (hs : g.stack = .ref a :: rest) (hd : decode c.code g.pc = .ok (.invokespecial idx, 3)) (hf : 1 ≤ R.frames) {W : Nat} (hW : 2 * g.monitorRoom + (rest.map fun v => v.category).sum ≤ W) (hl : W + 12 ≤ R.locals)
    (k : Run p l e R s m args below meth c Z EL own n0 bk h cells slots { g with pc := g.pc + 3, stack := rest } Q) : Run p l e R s m args below meth c Z EL own n0 bk h cells slots g Q :=
  k_still (fun s' T locs X e1 hZ ho => initO X hx hZ ho w1 w2 w3 e1 hg hsize hs hd hf hW hl) k
theorem k_ldcI (hx : p.tables.exec = Jvm.exec) {index : Nat} {v : Int32} (w : (Jvm.Cond.constant own index v).before a0 Z = true) (hg : g.method = m) (hd : decode c.code g.pc = .ok (.ldc index, 2))
    (k : Run p l e R s m args below meth c Z EL own n0 bk h cells slots { g with pc := g.pc + 2, stack := .int v :: g.stack } Q) : Run p l e R s m args below meth c Z EL own n0 bk h cells slots g Q :=
  k_still (fun s' T locs X e1 hZ ho => ⟨T, X, e1, fun t => X.ldcInt hx ho (mv hZ w) hg hd t⟩) k
theorem k_ldcWI (hx : p.tables.exec = Jvm.exec) {index : Nat} {v : Int32} (w : (Jvm.Cond.constant own index v).before a0 Z = true) (hg : g.method = m) (hd : decode c.code g.pc = .ok (.ldc_w index, 3))
    (k : Run p l e R s m args below meth c Z EL own n0 bk h cells slots { g with pc := g.pc + 3, stack := .int v :: g.stack } Q) : Run p l e R s m args below meth c Z EL own n0 bk h cells slots g Q :=
  k_still (fun s' T locs X e1 hZ ho => ⟨T, X, e1, fun t => X.ldcWInt hx ho (mv hZ w) hg hd t⟩) k
theorem k_ldc2J (hx : p.tables.exec = Jvm.exec) {index : Nat} {v : Int64} (w : (Jvm.Cond.constantLong own index v).before a0 Z = true) (hg : g.method = m) (hd : decode c.code g.pc = .ok (.ldc2_w index, 3))
    (k : Run p l e R s m args below meth c Z EL own n0 bk h cells slots { g with pc := g.pc + 3, stack := .long v :: g.stack } Q) : Run p l e R s m args below meth c Z EL own n0 bk h cells slots g Q :=
  k_still (fun s' T locs X e1 hZ ho => ⟨T, X, e1, fun t => X.ldc2Long hx ho (mv hZ w) hg hd t⟩) k
theorem k_instNull (hx : p.tables.exec = Jvm.exec) {K : String} {index : Nat} (w : (Jvm.Cond.classLink own index K).before a0 Z = true) (hg : g.method = m) {rest : List Value} (hs : g.stack = .null :: rest) (hd : decode c.code g.pc = .ok (.instanceof index, 3))
    (k : Run p l e R s m args below meth c Z EL own n0 bk h cells slots { g with pc := g.pc + 3, stack := .int 0 :: rest } Q) : Run p l e R s m args below meth c Z EL own n0 bk h cells slots g Q :=
  k_still (fun s' T locs X e1 hZ ho => ⟨T, X, e1, fun t => X.instanceofNull hx hg hs hd t⟩) k
theorem k_newO (hx : p.tables.exec = Jvm.exec) {C : String} {index n : Nat} (w : (Jvm.Cond.classLink own index C).before a0 Z = true) (wi : (Jvm.Cond.instantiable C n).before a0 Z = true) (wz : (Jvm.Cond.initialized C).before a0 Z = true)
    (hg : g.method = m) (hd : decode c.code g.pc = .ok (.new index, 3)) (hc : cells + 1 ≤ R.cells) (hl : slots + n ≤ R.slots)
    (k : ∀ h' a, a = h.size → Old Z n0 h' → Ext h h' → Exa Z h' a C → (∀ {O nm d : String} {ty : FieldType}, RoadKit.Laid Z a0 C O nm d → parseFieldDescriptor d = some ty → Fld Z h' a O nm d (defaultValue ty)) → (∃ cell : Cell, h'[a]? = some cell ∧ cell.vm = .none ∧ cell.monitor = {}) →
      Run p l e R s m args below meth c Z EL own n0 bk h' (cells + 1) (slots + n) { g with pc := g.pc + 3, stack := .ref a :: g.stack } Q) : Run p l e R s m args below meth c Z EL own n0 bk h cells slots g Q :=
  k_grow (F := fun h' g' => g' = { g with pc := g.pc + 3, stack := .ref h.size :: g.stack } ∧ Exa Z h' h.size C ∧ (∀ {O nm d : String} {ty : FieldType}, RoadKit.Laid Z a0 C O nm d → parseFieldDescriptor d = some ty → Fld Z h' h.size O nm d (defaultValue ty)) ∧ ∃ cell : Cell, h'[h.size]? = some cell ∧ cell.vm = .none ∧ cell.monitor = {})
    (fun s' T locs X e1 hZ ho => by
      obtain ⟨T', h', X', e2, E, A, D, N, st⟩ := newO X hx hZ ho w wi wz e1 hg hd hc hl
      exact ⟨T', h', _, X', e2, E, ⟨rfl, A, D, N⟩, st⟩)
    (fun h' g' O E ⟨q, A, D, N⟩ => by subst q; exact k h' _ rfl O E A D N)
theorem k_newP (hx : p.tables.exec = Jvm.exec) {aty : ArrayType} (w : (Jvm.Cond.arrayClass (newarray.typeOf aty)).before a0 Z = true) (hg : g.method = m) (hd : decode c.code g.pc = .ok (.newarray aty, 2)) {n : Int32} {rest : List Value} (hs : g.stack = .int n :: rest)
    (hn : ¬ n < 0) {cap : Nat} (hcap : n.toNatClampNeg ≤ cap) (hb : cap * 8 ≤ 536870912) (hc : cells + 1 ≤ R.cells) (hl : slots + cap ≤ R.slots) (ad : String) (had : "[" ++ (newarray.typeOf aty).toString = ad)
    (k : ∀ h' a kA, a = h.size → Old Z n0 h' → Ext h h' → Arv Z h' a kA (newarray.typeOf aty) n [] (defaultValue (newarray.typeOf aty)) → Exa Z h' a ad → Run p l e R s m args below meth c Z EL own n0 bk h' (cells + 1) (slots + cap) { g with pc := g.pc + 2, stack := .ref a :: rest } Q) : Run p l e R s m args below meth c Z EL own n0 bk h cells slots g Q :=
  k_grow (F := fun h' g' => g' = { g with pc := g.pc + 2, stack := .ref h.size :: rest } ∧ Exa Z h' h.size ad ∧ ∃ kA, Arv Z h' h.size kA (newarray.typeOf aty) n [] (defaultValue (newarray.typeOf aty)))
    (fun s' T locs X e1 hZ ho => by
      obtain ⟨T', h', cA, X', e2, E, A, D, st⟩ := newPE X hx hZ w e1 hg hd hs hn hcap hb hc hl had
      exact ⟨T', h', _, X', e2, E, ⟨rfl, D, cA, Arv.new A hn⟩, st⟩)
    (fun h' g' O E ⟨q, D, kA, A⟩ => by subst q; exact k h' _ kA rfl O E A D)
theorem k_newR (hx : p.tables.exec = Jvm.exec) {C : String} {index : Nat} (w1 : (Jvm.Cond.classLink own index C).before a0 Z = true) (w2 : (Jvm.Cond.arrayOver (.object C)).before a0 Z = true) (hg : g.method = m) (hd : decode c.code g.pc = .ok (.anewarray index, 3)) {n : Int32} {rest : List Value} (hs : g.stack = .int n :: rest)
    (hn : ¬ n < 0) {cap : Nat} (hcap : n.toNatClampNeg ≤ cap) (hb : cap * 8 ≤ 536870912) (hc : cells + 1 ≤ R.cells) (hl : slots + cap ≤ R.slots) (ad : String) (had : "[" ++ (FieldType.object C).toString = ad)
    (k : ∀ h' a kA, a = h.size → Old Z n0 h' → Ext h h' → Arv Z h' a kA (.object C) n [] .null → Exa Z h' a ad → Ovr Z kA C → Run p l e R s m args below meth c Z EL own n0 bk h' (cells + 1) (slots + cap) { g with pc := g.pc + 3, stack := .ref a :: rest } Q) : Run p l e R s m args below meth c Z EL own n0 bk h cells slots g Q :=
  k_grow (F := fun h' g' => g' = { g with pc := g.pc + 3, stack := .ref h.size :: rest } ∧ Exa Z h' h.size ad ∧ ∃ kA, Arv Z h' h.size kA (.object C) n [] .null ∧ Ovr Z kA C)
    (fun s' T locs X e1 hZ ho => by
      obtain ⟨T', h', cA, X', e2, E, A, D, Ov, st⟩ := newRE X hx hZ ho w1 w2 e1 hg hd hs hn hcap hb hc hl had
      exact ⟨T', h', _, X', e2, E, ⟨rfl, D, cA, Arv.new A hn, Ov⟩, st⟩)
    (fun h' g' O E ⟨q, D, kA, A, Ov⟩ => by subst q; exact k h' _ kA rfl O E A D Ov)
theorem k_putF (hx : p.tables.exec = Jvm.exec) {R0 O n d host C : String} {index kk : Nat} {ty : FieldType} (w : (Jvm.Cond.fieldLink own index R0 n d).before a0 Z = true ∨ (Jvm.Cond.fieldLinkNest own index R0 n d host).before a0 Z = true) (via : Via Z R0 O n d)
    {a : Addr} {v old : Value} (F : Fld Z h a O n d old) (E : Exa Z h a C) (L : (Jvm.Cond.lays C O n d).before a0 Z = true ∨ ((Jvm.Cond.laysFinal C O n d).before a0 Z = true ∧ own = O ∧ meth.name = "<init>")) (wi : (Jvm.Cond.instantiable C kk).before a0 Z = true)
    (hty : parseFieldDescriptor d = some ty) (hn : narrow ty v = v) (hf : fits ty v = true) (ge : n0 ≤ a) (nb : ¬ bk a) (hg : g.method = m) {rest : List Value} (hs : g.stack = v :: .ref a :: rest) (hd : decode c.code g.pc = .ok (.putfield index, 3))
    (k : ∀ h', Old Z n0 h' → Wr h h' a (RoadKit.slotOf Z O n d) v → Run p l e R s m args below meth c Z EL own n0 bk h' cells slots { g with pc := g.pc + 3, stack := rest } Q) : Run p l e R s m args below meth c Z EL own n0 bk h cells slots g Q :=
  k_write ge nb (fun s' T locs X e1 hZ ho => putF X hx hZ ho w via e1 F E L wi hty hn hf hg hs hd) k
theorem k_alen (hx : p.tables.exec = Jvm.exec) {a : Addr} {kA : ClassId} {ty : FieldType} {n : Int32} {vs : List Value} {d : Value} (V : Arv Z h a kA ty n vs d) (hg : g.method = m) {rest : List Value} (hs : g.stack = .ref a :: rest) (hd : decode c.code g.pc = .ok (.arraylength, 1))
    (k : Run p l e R s m args below meth c Z EL own n0 bk h cells slots { g with pc := g.pc + 1, stack := .int n :: rest } Q) : Run p l e R s m args below meth c Z EL own n0 bk h cells slots g Q :=
  k_still (fun s' T locs X e1 hZ ho => ⟨T, X, e1, fun t => by
    obtain ⟨cl, A, -, S, q, -⟩ := V
    have := X.arraylength hx (a := a) (cell := cl) (by rw [e1]; exact A.1) (State.isArrayOf_alike hZ.alike A.2.1) hg hs hd t
    rw [len_of S q] at this; exact this⟩) k
theorem k_aget (hx : p.tables.exec = Jvm.exec) {a : Addr} {kA : ClassId} {ty : FieldType} {n j : Int32} {vs : List Value} {d v : Value} {i : Instr} (V : Arv Z h a kA ty n vs d) (hj : ¬ j < 0 ∧ j < n) (hv : vs.getD j.toNatClampNeg d = v)
    (hi : (i = .iaload ∧ ty = .int) ∨ (i = .laload ∧ ty = .long) ∨ (i = .caload ∧ ty = .char) ∨ (i = .baload ∧ ty = .byte) ∨ (i = .aaload ∧ ty.isReference = true)) (hg : g.method = m) {rest : List Value} (hs : g.stack = .int j :: .ref a :: rest) (hd : decode c.code g.pc = .ok (i, 1))
    (k : Run p l e R s m args below meth c Z EL own n0 bk h cells slots { g with pc := g.pc + 1, stack := v :: rest } Q) : Run p l e R s m args below meth c Z EL own n0 bk h cells slots g Q :=
  k_still (fun s' T locs X e1 hZ ho => ⟨T, X, e1, fun t => by
    obtain ⟨cl, A, -, S, q, H, -⟩ := V
    have A1 : T.heap[a]? = some cl := by rw [e1]; exact A.1
    have A2 := State.isArrayOf_alike hZ.alike A.2.1
    have hin := inb_of S hj
    have hv' := Has.at H hin hv
    rcases hi with ⟨rfl, rfl⟩ | ⟨rfl, rfl⟩ | ⟨rfl, rfl⟩ | ⟨rfl, rfl⟩ | ⟨rfl, ht⟩
    · exact X.iaload hx A1 A2 A.2.2 hin hv' hg hs hd t
    · exact X.laload hx A1 A2 A.2.2 hin hv' hg hs hd t
    · exact X.caload hx A1 A2 A.2.2 hin hv' hg hs hd t
    · exact X.baloadBytes hx A1 A2 A.2.2 hin hv' hg hs hd t
    · exact X.aaload hx A1 A2 ht A.2.2 hin hv' hg hs hd t⟩) k
theorem k_stC (hx : p.tables.exec = Jvm.exec) {a : Addr} {kA : ClassId} {n j x : Int32} {vs : List Value} {d : Value} (V : Arv Z h a kA .char n vs d) (hj : ¬ j < 0 ∧ j < n) (i : Nat) (hi : j.toNatClampNeg = i) (hl : i < vs.length) (ge : n0 ≤ a) (nb : ¬ bk a) (hg : g.method = m) {rest : List Value} (hs : g.stack = .int x :: .int j :: .ref a :: rest) (hd : decode c.code g.pc = .ok (.castore, 1))
    (k : ∀ h', Old Z n0 h' → Wr h h' a j.toNatClampNeg (.int (nar .char x)) → Arv Z h' a kA .char n (vs.set i (.int (nar .char x))) d → Run p l e R s m args below meth c Z EL own n0 bk h' cells slots { g with pc := g.pc + 1, stack := rest } Q) : Run p l e R s m args below meth c Z EL own n0 bk h cells slots g Q := by
  obtain ⟨cl, A, q1, S, q3, H, G⟩ := V
  exact k_write ge nb (fun s' T locs X e1 hZ ho => stC X hx hZ e1 A (inb_of S hj) hg hs hd) fun h' O W => k h' O W (Arv.set A q1 S q3 H G (fits_nar_char _) W i hi hl)
theorem k_stB (hx : p.tables.exec = Jvm.exec) {a : Addr} {kA : ClassId} {n j x : Int32} {vs : List Value} {d : Value} (V : Arv Z h a kA .byte n vs d) (hj : ¬ j < 0 ∧ j < n) (i : Nat) (hi : j.toNatClampNeg = i) (hl : i < vs.length) (ge : n0 ≤ a) (nb : ¬ bk a) (hg : g.method = m) {rest : List Value} (hs : g.stack = .int x :: .int j :: .ref a :: rest) (hd : decode c.code g.pc = .ok (.bastore, 1))
    (k : ∀ h', Old Z n0 h' → Wr h h' a j.toNatClampNeg (.int (nar .byte x)) → Arv Z h' a kA .byte n (vs.set i (.int (nar .byte x))) d → Run p l e R s m args below meth c Z EL own n0 bk h' cells slots { g with pc := g.pc + 1, stack := rest } Q) : Run p l e R s m args below meth c Z EL own n0 bk h cells slots g Q := by
  obtain ⟨cl, A, q1, S, q3, H, G⟩ := V
  exact k_write ge nb (fun s' T locs X e1 hZ ho => stB X hx hZ e1 A (inb_of S hj) hg hs hd) fun h' O W => k h' O W (Arv.set A q1 S q3 H G (fits_nar_byte _) W i hi hl)
theorem k_stR (hx : p.tables.exec = Jvm.exec) {a : Addr} {kA : ClassId} {ty : FieldType} {n j : Int32} {v : Value} {vs : List Value} {d : Value} (V : Arv Z h a kA ty n vs d) (hty : ty.isReference = true) (hfv : fits ty v = true) (F : Sto Z h a v) (hj : ¬ j < 0 ∧ j < n) (i : Nat) (hi : j.toNatClampNeg = i) (hl : i < vs.length) (ge : n0 ≤ a) (nb : ¬ bk a) (hg : g.method = m) {rest : List Value} (hs : g.stack = v :: .int j :: .ref a :: rest) (hd : decode c.code g.pc = .ok (.aastore, 1))
    (k : ∀ h', Old Z n0 h' → Wr h h' a j.toNatClampNeg v → Arv Z h' a kA ty n (vs.set i v) d → Run p l e R s m args below meth c Z EL own n0 bk h' cells slots { g with pc := g.pc + 1, stack := rest } Q) : Run p l e R s m args below meth c Z EL own n0 bk h cells slots g Q := by
  obtain ⟨cl, A, q1, S, q3, H, G⟩ := V
  exact k_write ge nb (fun s' T locs X e1 hZ ho => stR X hx hZ e1 A (inb_of S hj) hty F hg hs hd) fun h' O W => k h' O W (Arv.set A q1 S q3 H G hfv W i hi hl)
/-! the ends -/
theorem k_ret0 (hx : p.tables.exec = Jvm.exec) (hlk : meth.locks = false) (hret : meth.sig.returnType = none) {pc : Nat} {Ls : Array Slot} (hd : decode c.code pc = .ok (.return_, 1)) (hc : cells ≤ R.cells) (hs : slots ≤ R.slots) (hQ : Q none h bk) : Run p l e R s m args below meth c Z EL own n0 bk h cells slots (mkF m pc Ls []) Q :=
  k_end hlk (fun _ => rfl) hc hs hQ fun s' T locs fs X hr => X.returnOut hx hret hd hr
theorem k_retN (hx : p.tables.exec = Jvm.exec) (hlk : meth.locks = false) {t : FieldType} (hret : meth.sig.returnType = some t) (ht : t = .boolean ∨ t = .byte ∨ t = .char ∨ t = .short) {pc : Nat} {Ls : Array Slot} {z : Int32} {rest : List Value} (hd : decode c.code pc = .ok (.ireturn, 1)) (hc : cells ≤ R.cells) (hs : slots ≤ R.slots) (hQ : Q (some (.int (nar t z))) h bk) : Run p l e R s m args below meth c Z EL own n0 bk h cells slots (mkF m pc Ls (.int z :: rest)) Q :=
  k_end hlk (fun q => by rw [hret] at q; cases q) hc hs hQ fun s' T locs fs X hr => retN X hx hret ht hd hr
theorem k_ret (hx : p.tables.exec = Jvm.exec) (hlk : meth.locks = false) {t : FieldType} {w : Value} {i : Instr} (hret : meth.sig.returnType = some t) (hn : narrow t w = w)
    (hi : (i = .ireturn ∧ (t = .int ∨ t = .boolean ∨ t = .byte ∨ t = .char ∨ t = .short) ∧ ∃ z, w = .int z) ∨ (i = .lreturn ∧ t = .long ∧ ∃ z, w = .long z) ∨ (i = .dreturn ∧ t = .double ∧ ∃ z, w = .double z) ∨ (i = .freturn ∧ t = .float ∧ ∃ z, w = .float z) ∨ (i = .areturn ∧ t.isReference = true ∧ w.isRef = true)) {pc : Nat} {Ls : Array Slot} {rest : List Value} (hd : decode c.code pc = .ok (i, 1)) (hc : cells ≤ R.cells) (hs : slots ≤ R.slots) (hQ : Q (some w) h bk) : Run p l e R s m args below meth c Z EL own n0 bk h cells slots (mkF m pc Ls (w :: rest)) Q :=
  k_end hlk (fun q => by rw [hret] at q; cases q) hc hs hQ fun s' T locs fs X hr => retOut X hx hret hn hi hd hr
theorem k_retI (hx : p.tables.exec = Jvm.exec) (hlk : meth.locks = false) (hret : meth.sig.returnType = some .int) {pc : Nat} {Ls : Array Slot} {z : Int32} {rest : List Value} (hd : decode c.code pc = .ok (.ireturn, 1)) (hc : cells ≤ R.cells) (hs : slots ≤ R.slots) (hQ : Q (some (.int z)) h bk) : Run p l e R s m args below meth c Z EL own n0 bk h cells slots (mkF m pc Ls (.int z :: rest)) Q :=
  k_ret hx hlk hret rfl (Or.inl ⟨rfl, Or.inl rfl, z, rfl⟩) hd hc hs hQ
theorem k_retL (hx : p.tables.exec = Jvm.exec) (hlk : meth.locks = false) (hret : meth.sig.returnType = some .long) {pc : Nat} {Ls : Array Slot} {z : Int64} {rest : List Value} (hd : decode c.code pc = .ok (.lreturn, 1)) (hc : cells ≤ R.cells) (hs : slots ≤ R.slots) (hQ : Q (some (.long z)) h bk) : Run p l e R s m args below meth c Z EL own n0 bk h cells slots (mkF m pc Ls (.long z :: rest)) Q :=
  k_ret hx hlk hret rfl (Or.inr (Or.inl ⟨rfl, rfl, z, rfl⟩)) hd hc hs hQ
theorem k_retA (hx : p.tables.exec = Jvm.exec) (hlk : meth.locks = false) {t : FieldType} {w : Value} (hret : meth.sig.returnType = some t) (hn : narrow t w = w) (ht : t.isReference = true) (hw : w.isRef = true) {pc : Nat} {Ls : Array Slot} {rest : List Value} (hd : decode c.code pc = .ok (.areturn, 1)) (hc : cells ≤ R.cells) (hs : slots ≤ R.slots) (hQ : Q (some w) h bk) : Run p l e R s m args below meth c Z EL own n0 bk h cells slots (mkF m pc Ls (w :: rest)) Q :=
  k_ret hx hlk hret hn (Or.inr (Or.inr (Or.inr (Or.inr ⟨rfl, ht, hw⟩)))) hd hc hs hQ
/-! the calls -/
/-- what a callee's law gives to a walk that stands at h -/
def Pays (l : Launch) (R : Room) (p : Program) (e : Env) (below : List Frame) (s : State) (args : Array Value) (Z : State) (EL : List (String × Nat)) (n0 : Nat) (bk : Addr → Prop) (h : Heap) (y : MethodName) (len W kc ks : Nat) (as' : Array Value) (Q : Option Value → Heap → (Addr → Prop) → Prop) : Prop :=
  ∀ vm0, Z.Warmed39 vm0 → (∃ a0, EW Z a0 EL) → Old Z n0 h → CHv Z EL vm0 h → (∀ y, Bk Z EL vm0 h y → bk y) →
    BackS l R p e below (s.setVm vm0) args y len W (fun A a => a = as' ∧ A.U.heap = h ∧ A.cells + kc ≤ R.cells ∧ A.slots + ks ≤ R.slots)
      (fun A _ v B => ∃ L bk', Q v B.U.heap bk' ∧ Fr n0 L ∧ Old Z n0 B.U.heap ∧ CHv Z EL B.U.vm B.U.heap ∧ (∀ y, Bk Z EL B.U.vm B.U.heap y → bk' y) ∧ B.locs = A.locs ++ L ∧ B.cells = A.cells + kc ∧ B.slots = A.slots + ks)
theorem at_bk {T : State} {locs : List Loc} {vm0 : Vm} (X : Stand p l e R (s.setVm vm0) m args below meth c T locs cells slots) (hZ : Z.Warmed39 vm0) (w : EW Z a0 EL) (C : CHv Z EL vm0 h) (B : ∀ y, Bk Z EL vm0 h y → bk y) : CHv Z EL T.vm h ∧ ∀ y, Bk Z EL T.vm h y → bk y := by
  have A := CHv.at X hZ w C
  exact ⟨A.1, fun y q => (A.2.2 y q).elim (B y) (fun z => absurd (Array.getElem?_eq_some_iff.mp (Bk.there q).choose_spec).1 (Nat.not_lt.mpr z))⟩
theorem Pays.of_met {y : MethodName} {bytes : ByteArray} {maxL : Nat} {ret : Option FieldType} {rm : Room} {len W : Nat} {as' : Array Value} {Qc : Option Value → Heap → (Addr → Prop) → Prop} (hM : Met l Z EL n0 bk y bytes maxL ret rm as' h Qc [])
    (wc : (Jvm.Cond.code y bytes maxL ret).before a0 Z = true) (wz : (Jvm.Cond.initialized y.cls).before a0 Z = true) (hf : rm.frames + 1 ≤ R.frames) (hl : W + (maxL + 11) + rm.locals ≤ R.locals) :
    Pays l R p e below s args Z EL n0 bk h y len W rm.cells rm.slots as' Qc := fun vm0 hZ ⟨a1, hEL⟩ hO H hB =>
  BackS.of_freeW (bytes := bytes) (maxL := maxL) (ret := ret) (E := fun _ _ o t L k n => k = rm.cells ∧ n = rm.slots ∧ ∃ v bk', o = .returned v ∧ Qc v t.heap bk' ∧ Fr n0 L ∧ Old Z n0 t.heap ∧ CHv Z EL t.vm t.heap ∧ ∀ y, Bk Z EL t.vm t.heap y → bk' y) hM hf hl
    (fun m meth c A a Y hp => have hU : Z.Warmed39 A.U.vm := wtrans (s := s.setVm vm0) hZ Y.warmed
      ⟨by show (Jvm.Cond.and _ .tt).before a A.U = true; rw [Jvm.Cond.before_and, mv hU wc]; rfl, mv hU wc, mv hU wz, hp.2.2.1, hp.2.2.2⟩)
    (fun m meth c A a g mk Y hp => have r := at_bk Y hZ hEL H hB; ⟨hp.1, wtrans (s := s.setVm vm0) hZ Y.warmed, hp.2.1, r.1, r.2⟩) (fun _ _ _ _ _ _ _ _ _ => trivial)
    (fun _ _ _ _ ⟨v, L, bk', h1, h2, h3⟩ => ⟨L, _, _, h3, rfl, rfl, v, bk', h1, h2⟩)
    (fun m meth c A a g mk v t L k n Y hp _ _ ⟨e1, e2, v', bk', e3, r1, r2, r3, r4, r5⟩ => by
      cases e3; subst e1 e2
      exact ⟨L, bk', r1, r2, r3, r4, r5, rfl, rfl, rfl⟩)
/-- a library law that moves nothing -/
theorem Pays.of_same {y : MethodName} {len W : Nat} {as' : Array Value} {v0 : Option Value} (hK : ∀ s' : State, Z.Warmed39 s'.vm → Back l R p e below s' args y len W (fun P a => a = as' ∧ P.U.heap = h ∧ P.cells + 0 ≤ R.cells ∧ P.slots + 0 ≤ R.slots) (fun P _ v B => ∃ L, (v = v0 ∧ L = [] ∧ B.U.heap = h) ∧ B.locs = P.locs ++ L ∧ B.cells = P.cells + 0 ∧ B.slots = P.slots + 0)) :
    Pays l R p e below s args Z EL n0 bk h y len W 0 0 as' (fun v h' bk' => v = v0 ∧ h = h' ∧ bk = bk') := fun vm0 hZ ⟨a1, hEL⟩ hO H hB => by
  intro m meth c A g ig mk a X hg hsize hdg hW hn hp
  obtain ⟨v, B, X', ⟨L, ⟨q1, q2, q3⟩, q4, q5, q6⟩, hsteps⟩ := hK (s.setVm vm0) hZ m meth c A g ig mk a X hg hsize hdg hW hn hp
  have r := at_bk X' hZ hEL H hB
  refine ⟨v, B, X'.retabled X'.warmed.wide, X'.warmed.since _, by rw [hp.2.1, q3]; exact Nat.le_refl _, ⟨L, bk, ⟨q1, q3.symm, rfl⟩, by rw [q2]; exact Fr.nil _, by rw [q3]; exact hO, by rw [q3]; exact r.1, by rw [q3]; exact r.2, q4, q5, q6⟩, hsteps⟩
theorem ne_of_keep {Z : State} {EL : List (String × Nat)} {vm : Vm} {h h' : Heap} {x : Addr} (K : Keep h h' [x]) (C : CHv Z EL vm h) (nb : ¬ Bk Z EL vm h x) : CHv Z EL vm h' ∧ ∀ y, Bk Z EL vm h' y → Bk Z EL vm h y := C.keepStep K (sfS nb sf0)
/-- a library law that writes one object of ours -/
theorem Pays.of_keep {y : MethodName} {len W kc ks : Nat} {as' : Array Value} {x : Addr} {Qk : Option Value → Heap → List Loc → Prop} (nb : ¬ bk x) (ge : n0 ≤ x) (hq : ∀ v h' L, Qk v h' L → Fr n0 L ∧ Keep h h' [x])
    (hK : ∀ s' : State, Z.Warmed39 s'.vm → Back l R p e below s' args y len W (fun P a => a = as' ∧ P.U.heap = h ∧ P.cells + kc ≤ R.cells ∧ P.slots + ks ≤ R.slots) (fun P _ v B => ∃ L, Qk v B.U.heap L ∧ B.locs = P.locs ++ L ∧ B.cells = P.cells + kc ∧ B.slots = P.slots + ks)) :
    Pays l R p e below s args Z EL n0 bk h y len W kc ks as' (fun v h' bk' => (∃ L, Qk v h' L) ∧ bk = bk') := fun vm0 hZ ⟨a1, hEL⟩ hO H hB => by
  intro m meth c A g ig mk a X hg hsize hdg hW hn hp
  obtain ⟨v, B, X', ⟨L, q1, q4, q5, q6⟩, hsteps⟩ := hK (s.setVm vm0) hZ m meth c A g ig mk a X hg hsize hdg hW hn hp
  obtain ⟨N, K⟩ := hq _ _ _ q1
  have r := at_bk X' hZ hEL H hB
  have r' := ne_of_keep K r.1 (fun q => nb (r.2 x q))
  refine ⟨v, B, X'.retabled X'.warmed.wide, X'.warmed.since _, by rw [hp.2.1]; exact K.1, ⟨L, bk, ⟨⟨L, q1⟩, rfl⟩, N, hO.keep K (allS ge all0), r'.1, fun z q => r.2 z (r'.2 z q), q4, q5, q6⟩, hsteps⟩
/-- behind a call -/
theorem k_back {vm0 : Vm} {T : State} {locs : List Loc} {len kc ks : Nat} {rest : List Value} {Qc : Option Value → Heap → (Addr → Prop) → Prop} (P : Pos p l e R s m args below meth c Z EL own n0 bk h cells slots vm0 T locs)
    (H : ∃ (v : Option Value) (vm₁ : Vm) (B : Pt), (s.setVm vm0).WarmedH vm₁ ∧ Stand p l e R ((s.setVm vm0).setVm B.U.vm) m args below meth c B.U B.locs B.cells B.slots ∧ (s.setVm vm0).Since B.U.vm B.U.heap.size ∧ T.heap.size ≤ B.U.heap.size ∧
      (∃ L bk', Qc v B.U.heap bk' ∧ Fr n0 L ∧ Old Z n0 B.U.heap ∧ CHv Z EL B.U.vm B.U.heap ∧ (∀ y, Bk Z EL B.U.vm B.U.heap y → bk' y) ∧ B.locs = locs ++ L ∧ B.cells = cells + kc ∧ B.slots = slots + ks) ∧ Steps p.tables e below (T.setTop g) (B.U.setTop { g with pc := g.pc + len, stack := v.toList ++ rest }))
    (k : ∀ v h' bk', Old Z n0 h' → h.size ≤ h'.size → Qc v h' bk' → Run p l e R s m args below meth c Z EL own n0 bk' h' (cells + kc) (slots + ks) { g with pc := g.pc + len, stack := v.toList ++ rest } Q) :
    ∃ U o, Steps p.tables e below (T.setTop g) U ∧ U.status = .running ∧ Ended U below o ∧ EndW s R Z EL n0 Q o U := by
  obtain ⟨X, e1, ⟨k0, hS, hk⟩, hZ, ho, N, O, C, B, hE⟩ := P
  obtain ⟨v, vm1, ⟨TB, LB, cB, sB⟩, -, X', hS', hgr, ⟨L, bk', q1, q2, q3, q4, q5, q6, q7, q8⟩, st⟩ := H
  dsimp only [Pt.U, Pt.locs, Pt.cells, Pt.slots] at X' hS' hgr q1 q3 q4 q5 q6 q7 q8 st
  subst q6 q7 q8
  obtain ⟨r1, r2, r3, r4⟩ := rebS hS (by rw [← e1] at hk; exact hk) X' hS' hgr hZ ho
  obtain ⟨U, o, h1, r⟩ := k v TB.heap bk' q3 (by rw [← e1]; exact hgr) q1 TB.vm TB _ ⟨r1, rfl, ⟨_, r2, Nat.le_refl _⟩, r3, r4, Fr.app N q2, q3, q4, q5, hE⟩
  exact ⟨U, o, st.trans h1, r⟩
theorem k_callS (hx : p.tables.exec = Jvm.exec) {index : Nat} {y : MethodName} {bytes : ByteArray} {maxL : Nat} {ret : Option FieldType} (w1 : (Jvm.Cond.methodLink own index y).before a0 Z = true) (w2 : (Jvm.Cond.static y).before a0 Z = true) (w3 : (Jvm.Cond.initialized y.cls).before a0 Z = true) (w4 : (Jvm.Cond.code y bytes maxL ret).before a0 Z = true)
    (hy : y.cls ≠ "java/lang/invoke/MethodHandle" ∧ y.cls ≠ "java/lang/invoke/VarHandle") {W kc ks : Nat} {Qc : Option Value → Heap → (Addr → Prop) → Prop} {argsL rest : List Value} (hK : Pays l R p e below s args Z EL n0 bk h y 3 W kc ks argsL.toArray Qc)
    (hg : g.method = m) (hsize : g.locals.size = c.maxLocals) (hlen : ∀ sig, parseMethodDescriptor y.desc = some sig → argsL.length = sig.parameters.length) (hstack : g.stack = argsL.reverse ++ rest) (hW : 2 * g.monitorRoom + (rest.map fun v => v.category).sum ≤ W) (hd : decode c.code g.pc = .ok (.invokestatic index, 3)) (hc : cells + kc ≤ R.cells) (hs : slots + ks ≤ R.slots)
    (k : ∀ v h' bk', Old Z n0 h' → h.size ≤ h'.size → Qc v h' bk' → Run p l e R s m args below meth c Z EL own n0 bk' h' (cells + kc) (slots + ks) { g with pc := g.pc + 3, stack := v.toList ++ rest } Q) : Run p l e R s m args below meth c Z EL own n0 bk h cells slots g Q := fun vm0 T locs P => by
  have P' := P
  obtain ⟨X, e1, hS, hZ, ho, N, O, C, B, hE⟩ := P'
  exact k_back P (callSS X hx ho (mv hZ w1) (mv hZ w2) (mv hZ w3) (mv hZ w4) hy (hK vm0 hZ hE O C B) hg hsize hlen hstack hW hd fun _ _ => ⟨rfl, e1, hc, hs⟩) k
theorem k_callI (hx : p.tables.exec = Jvm.exec) {index : Nat} {y : MethodName} {bytes : ByteArray} {maxL : Nat} (hy1 : y.name = "<init>") (w1 : (Jvm.Cond.methodLink own index y).before a0 Z = true) (w2 : (Jvm.Cond.instanceMethod y).before a0 Z = true) (w4 : (Jvm.Cond.code y bytes maxL none).before a0 Z = true)
    (hy : y.cls ≠ "java/lang/invoke/MethodHandle" ∧ y.cls ≠ "java/lang/invoke/VarHandle") {W kc ks : Nat} {Qc : Option Value → Heap → (Addr → Prop) → Prop} {a : Addr} {argsL rest : List Value} (hK : Pays l R p e below s args Z EL n0 bk h y 3 W kc ks (.ref a :: argsL).toArray Qc)
    (hg : g.method = m) (hsize : g.locals.size = c.maxLocals) (hlen : ∀ sig, parseMethodDescriptor y.desc = some sig → argsL.length = sig.parameters.length) (hstack : g.stack = argsL.reverse ++ .ref a :: rest) (hW : 2 * g.monitorRoom + (rest.map fun v => v.category).sum ≤ W) (hd : decode c.code g.pc = .ok (.invokespecial index, 3)) (hc : cells + kc ≤ R.cells) (hs : slots + ks ≤ R.slots)
    (k : ∀ v h' bk', Old Z n0 h' → h.size ≤ h'.size → Qc v h' bk' → Run p l e R s m args below meth c Z EL own n0 bk' h' (cells + kc) (slots + ks) { g with pc := g.pc + 3, stack := v.toList ++ rest } Q) : Run p l e R s m args below meth c Z EL own n0 bk h cells slots g Q := fun vm0 T locs P => by
  have P' := P
  obtain ⟨X, e1, hS, hZ, ho, N, O, C, B, hE⟩ := P'
  exact k_back P (X.specialBackS hx hy1 ho (mv hZ w1) (mv hZ w2) (mv hZ w4) hy (hK vm0 hZ hE O C B) hg hsize (Steps.refl _) hlen hstack hW hd fun _ _ => ⟨rfl, e1, hc, hs⟩) k
theorem k_callV (hx : p.tables.exec = Jvm.exec) {index : Nat} {C : String} {y z : MethodName} (w1 : (Jvm.Cond.methodLink own index y).before a0 Z = true) (w2 : (Jvm.Cond.declares y).before a0 Z = true) (nf : ∀ s' : State, Z.Warmed39 s'.vm → NotFace s' y) (w3 : (Jvm.Cond.selects C y z).before a0 Z = true) (w4 : (Jvm.Cond.instanceMethod z).before a0 Z = true)
    (hy : y.cls ≠ "java/lang/invoke/MethodHandle" ∧ y.cls ≠ "java/lang/invoke/VarHandle") {W kc ks : Nat} {Qc : Option Value → Heap → (Addr → Prop) → Prop} {a : Addr} {argsL rest : List Value} (hK : Pays l R p e below s args Z EL n0 bk h z 3 W kc ks (.ref a :: argsL).toArray Qc) (E : Exa Z h a C)
    (hg : g.method = m) (hsize : g.locals.size = c.maxLocals) (hlen : ∀ sig, parseMethodDescriptor y.desc = some sig → argsL.length = sig.parameters.length) (hstack : g.stack = argsL.reverse ++ .ref a :: rest) (hW : 2 * g.monitorRoom + (rest.map fun v => v.category).sum ≤ W) (hd : decode c.code g.pc = .ok (.invokevirtual index, 3)) (hc : cells + kc ≤ R.cells) (hs : slots + ks ≤ R.slots)
    (k : ∀ v h' bk', Old Z n0 h' → h.size ≤ h'.size → Qc v h' bk' → Run p l e R s m args below meth c Z EL own n0 bk' h' (cells + kc) (slots + ks) { g with pc := g.pc + 3, stack := v.toList ++ rest } Q) : Run p l e R s m args below meth c Z EL own n0 bk h cells slots g Q := fun vm0 T locs P => by
  have P' := P
  obtain ⟨X, e1, hS, hZ, ho, N, O, C, B, hE⟩ := P'
  obtain ⟨cq, kq, qa, qb, qc⟩ := isOf (s := s.setVm vm0) hZ e1 E
  exact k_back P (X.virtualBackS hx ho (mv hZ w1) (mv hZ w2) (nf _ hZ) (mv hZ w3) (mv hZ w4) hy (hK vm0 hZ hE O C B) qa qc hg hsize (Steps.refl _) hlen hstack hW hd fun _ _ => ⟨rfl, e1, hc, hs⟩) k
/-- invokevirtual of a method that a class above the named one declares -/
theorem k_callU (hx : p.tables.exec = Jvm.exec) {index : Nat} {C owner : String} {y z : MethodName} (w1 : (Jvm.Cond.methodLink own index y).before a0 Z = true) (w2 : (Jvm.Cond.sameMethod y.cls owner y.name y.desc).before a0 Z = true) (w5 : (Jvm.Cond.declares ⟨owner, y.name, y.desc⟩).before a0 Z = true) (how : owner ≠ "java/lang/invoke/MethodHandle" ∧ owner ≠ "java/lang/invoke/VarHandle") (w3 : (Jvm.Cond.selects C y z).before a0 Z = true) (w4 : (Jvm.Cond.instanceMethod z).before a0 Z = true)
    {W kc ks : Nat} {Qc : Option Value → Heap → (Addr → Prop) → Prop} {a : Addr} {argsL rest : List Value} (hK : Pays l R p e below s args Z EL n0 bk h z 3 W kc ks (.ref a :: argsL).toArray Qc) (E : Exa Z h a C)
    (hg : g.method = m) (hsize : g.locals.size = c.maxLocals) (hlen : ∀ sig, parseMethodDescriptor y.desc = some sig → argsL.length = sig.parameters.length) (hstack : g.stack = argsL.reverse ++ .ref a :: rest) (hW : 2 * g.monitorRoom + (rest.map fun v => v.category).sum ≤ W) (hd : decode c.code g.pc = .ok (.invokevirtual index, 3)) (hc : cells + kc ≤ R.cells) (hs : slots + ks ≤ R.slots)
    (k : ∀ v h' bk', Old Z n0 h' → h.size ≤ h'.size → Qc v h' bk' → Run p l e R s m args below meth c Z EL own n0 bk' h' (cells + kc) (slots + ks) { g with pc := g.pc + 3, stack := v.toList ++ rest } Q) : Run p l e R s m args below meth c Z EL own n0 bk h cells slots g Q := fun vm0 T locs P => by
  have P' := P
  obtain ⟨X, e1, hS, hZ, ho, N, O, C, B, hE⟩ := P'
  obtain ⟨cq, kq, qa, qb, qc⟩ := isOf (s := s.setVm vm0) hZ e1 E
  exact k_back P (X.virtualBackUpS hx ho (mv hZ w1) (mv hZ w2) (mv hZ w5) how (mv hZ w3) (mv hZ w4) (hK vm0 hZ hE O C B) qa qc hg hsize (Steps.refl _) hlen hstack hW hd fun _ _ => ⟨rfl, e1, hc, hs⟩) k
theorem decl_of {y : MethodName} {bytes : ByteArray} {maxL : Nat} {ret : Option FieldType} (w2 : (Jvm.Cond.instanceMethod y).before a0 Z = true) (w4 : (Jvm.Cond.code y bytes maxL ret).before a0 Z = true) : (Jvm.Cond.declares y).before a0 Z = true := by
  obtain ⟨mk, methM, hnamed, hmethM, hst, -⟩ := Jvm.Cond.instanceMethod_spec w2
  obtain ⟨m2, cM, q1, -, -, -, -, -, -, hsig⟩ := Jvm.Cond.code_spec hnamed w4
  cases hmethM.symm.trans q1
  simp [Jvm.Cond.before, Jvm.Cond.holds, Jvm.Cond.value, hnamed, hmethM, hst, hsig]
theorem nf_of' {s' : State} {C : String} {y y' : MethodName} (q : y'.cls = y.cls) (hZ : Z.Warmed39 s'.vm) (w : (Jvm.Cond.selects C y' y').before a0 Z = true) : NotFace s' y := fun r0 h0 => by
  obtain ⟨c2, r2, m2, q1, q2, q3, q4, kP, hkP, hkPi⟩ := Jvm.Cond.selects_spec (mv (args := #[]) hZ w)
  have e1 := findClass_of_methodNamed h0
  have e2 := findClass_of_methodNamed q3
  rw [q] at e2
  rw [show r0.cls = m2.cls from Option.some.inj (e1.symm.trans e2)]
  exact ⟨kP, hkP, hkPi⟩
theorem nf_of {C : String} {y y' : MethodName} (q : y'.cls = y.cls) (w : (Jvm.Cond.selects C y' y').before a0 Z = true) : NotFace Z y := nf_of' q (State.Warmed39.refl Z) w
theorem same_of {y : MethodName} (hy : y.cls ≠ "java/lang/invoke/MethodHandle" ∧ y.cls ≠ "java/lang/invoke/VarHandle") (w : (Jvm.Cond.declares y).before a0 Z = true) (nf : NotFace Z y) : (Jvm.Cond.sameMethod y.cls y.cls y.name y.desc).before a0 Z = true := by
  obtain ⟨mk, methM, hnamed, hmethM, -, -⟩ := Jvm.Cond.declares_spec w
  obtain ⟨kr, hk, hi⟩ := nf mk hnamed
  have e1 := State.methodFound?_of_named hnamed hy
  have e2 := findClass_of_methodNamed hnamed
  have e3 : Z.methodNamed? ⟨y.cls, y.name, y.desc⟩ = some mk := hnamed
  simp [Jvm.Cond.before, Jvm.Cond.holds, Jvm.Cond.value, e1, e2, e3, hk, hi]
/-- invokespecial of a method of the class above -/
theorem k_callX (hx : p.tables.exec = Jvm.exec) {index : Nat} {C K : String} {y : MethodName} {bytes : ByteArray} {maxL : Nat} {ret : Option FieldType} (w1 : (Jvm.Cond.methodLink own index y).before a0 Z = true) (w2 : (Jvm.Cond.sameMethod y.cls y.cls y.name y.desc).before a0 Z = true) (w3 : (Jvm.Cond.instanceMethod y).before a0 Z = true) (w4 : (Jvm.Cond.superclass own y.cls).before a0 Z = true) (hn : y.name ≠ "<init>") (wc : (Jvm.Cond.code y bytes maxL ret).before a0 Z = true)
    {W kc ks : Nat} {Qc : Option Value → Heap → (Addr → Prop) → Prop} {a : Addr} {argsL rest : List Value} (hK : Pays l R p e below s args Z EL n0 bk h y 3 W kc ks (.ref a :: argsL).toArray Qc) (E : Ins Z h a K true)
    (hg : g.method = m) (hsize : g.locals.size = c.maxLocals) (hlen : ∀ sig, parseMethodDescriptor y.desc = some sig → argsL.length = sig.parameters.length) (hstack : g.stack = argsL.reverse ++ .ref a :: rest) (hW : 2 * g.monitorRoom + (rest.map fun v => v.category).sum ≤ W) (hd : decode c.code g.pc = .ok (.invokespecial index, 3)) (hc : cells + kc ≤ R.cells) (hs : slots + ks ≤ R.slots)
    (k : ∀ v h' bk', Old Z n0 h' → h.size ≤ h'.size → Qc v h' bk' → Run p l e R s m args below meth c Z EL own n0 bk' h' (cells + kc) (slots + ks) { g with pc := g.pc + 3, stack := v.toList ++ rest } Q) : Run p l e R s m args below meth c Z EL own n0 bk h cells slots g Q := fun vm0 T locs P => by
  have P' := P
  obtain ⟨X, e1, hS, hZ, ho, N, O, C, B, hE⟩ := P'
  exact k_back P (superBackS X hx hZ ho w1 w2 w3 w4 hn (hK vm0 hZ hE O C B) e1 E hg hsize wc hlen hstack hW hd fun _ _ => ⟨rfl, e1, hc, hs⟩) k
/-- invokeinterface -/
theorem k_face (hx : p.tables.exec = Jvm.exec) {index count : Nat} {C : String} {y z : MethodName} (w1 : (Jvm.Cond.methodLink own index y).before a0 Z = true) (w2 : (Jvm.Cond.declares y).before a0 Z = true) (w3 : (Jvm.Cond.interfaceMethod y.cls y.cls y.name y.desc).before a0 Z = true) (w4 : (Jvm.Cond.selects C y z).before a0 Z = true) (w5 : (Jvm.Cond.instanceMethod z).before a0 Z = true) (w6 : (Jvm.Cond.publicMethod z).before a0 Z = true) (w7 : (Jvm.Cond.unhidden C y.name y.desc).before a0 Z = true) (w8 : (Jvm.Cond.castable C y.cls).before a0 Z = true)
    (hfa : ((Jvm.Cond.interfaceMethod y.cls y.cls y.name y.desc).onTables && (Jvm.Cond.interfaceMethod y.cls y.cls y.name y.desc).keepsFace) = true) (hy : y.cls ≠ "java/lang/invoke/MethodHandle" ∧ y.cls ≠ "java/lang/invoke/VarHandle") {W kc ks : Nat} {Qc : Option Value → Heap → (Addr → Prop) → Prop} {a : Addr} {argsL rest : List Value} (hK : Pays l R p e below s args Z EL n0 bk h z 5 W kc ks (.ref a :: argsL).toArray Qc) (E : Exa Z h a C)
    (hg : g.method = m) (hsize : g.locals.size = c.maxLocals) (hlen : ∀ sig, parseMethodDescriptor y.desc = some sig → argsL.length = sig.parameters.length) (hstack : g.stack = argsL.reverse ++ .ref a :: rest) (hW : 2 * g.monitorRoom + (rest.map fun v => v.category).sum ≤ W) (hd : decode c.code g.pc = .ok (.invokeinterface index count, 5)) (hc : cells + kc ≤ R.cells) (hs : slots + ks ≤ R.slots)
    (k : ∀ v h' bk', Old Z n0 h' → h.size ≤ h'.size → Qc v h' bk' → Run p l e R s m args below meth c Z EL own n0 bk' h' (cells + kc) (slots + ks) { g with pc := g.pc + 5, stack := v.toList ++ rest } Q) : Run p l e R s m args below meth c Z EL own n0 bk h cells slots g Q := fun vm0 T locs P => by
  have P' := P
  obtain ⟨X, e1, hS, hZ, ho, N, O, C, B, hE⟩ := P'
  obtain ⟨cq, kq, qa, qb, qc⟩ := isOf (s := s.setVm vm0) hZ e1 E
  exact k_back P (X.interfaceBackS hx ho (mv hZ w1) (mv hZ w2) (mv hZ w3 hfa) (mv hZ w4) (mv hZ w5) (mv hZ w6) (mv hZ w7) (mv hZ w8) hy (hK vm0 hZ hE O C B) qa qb qc hg hsize (Steps.refl _) hlen hstack hW hd fun _ _ => ⟨rfl, e1, hc, hs⟩) k
/-! String constants -/
theorem k_ldcO (hx : p.tables.exec = Jvm.exec) {text : String} {index : Nat} (w : (Jvm.Cond.stringLink own index text).before a0 Z = true) (wS : ∀ a ∈ Bundle.stringAtoms, a.before a0 Z = true) (hg : g.method = m) (hd : decode c.code g.pc = .ok (.ldc index, 2)) {n : Nat} (hn : 4 * text.toList.length ≤ n) (hbig : n ≤ 536870912) (hc : cells + 2 ≤ R.cells) (hl : slots + (n + 4) ≤ R.slots)
    (k : ∀ h' a bk', Old Z n0 h' → Ext h h' → (∀ y, bk' y → bk y ∨ (h.size ≤ y ∧ y < h'.size)) → Run p l e R s m args below meth c Z EL own n0 bk' h' (cells + 2) (slots + (n + 4)) { g with pc := g.pc + 2, stack := .ref a :: g.stack } Q) : Run p l e R s m args below meth c Z EL own n0 bk h cells slots g Q := fun vm0 T locs P => by
  obtain ⟨X, e1, ⟨k0, hS, hk⟩, hZ, ho, N, O, C, B, a1, hE⟩ := P
  obtain ⟨a, T', h', k1, X', e2, E, hS', hk', hZ', ho', hC, -, st⟩ := ldcOH X hx hZ ho w wS e1 hS hk hE C hg hd hn hbig hc hl
  obtain ⟨U, o, h1, r⟩ := k h' a (fun y => bk y ∨ (h.size ≤ y ∧ y < h'.size)) (O.ext E) E (fun _ q => q) T'.vm T' locs ⟨X', e2, ⟨k1, hS', hk'⟩, hZ', ho', N, O.ext E, hC.1, fun y q => (hC.2.2 y q).imp (B y) fun r => ⟨r, (Array.getElem?_eq_some_iff.mp (Bk.there q).choose_spec).1⟩, a1, hE⟩
  exact ⟨U, o, st _ h1, r⟩
/-- where no constant is read -/
theorem k_ldc0 (hEL : EL = []) (hx : p.tables.exec = Jvm.exec) {text : String} {index : Nat} (w : (Jvm.Cond.stringLink own index text).before a0 Z = true) (wS : ∀ a ∈ Bundle.stringAtoms, a.before a0 Z = true) (hg : g.method = m) (hd : decode c.code g.pc = .ok (.ldc index, 2)) {n : Nat} (hn : 4 * text.toList.length ≤ n) (hbig : n ≤ 536870912) (hc : cells + 2 ≤ R.cells) (hl : slots + (n + 4) ≤ R.slots)
    (k : ∀ h' a, Old Z n0 h' → Ext h h' → Run p l e R s m args below meth c Z EL own n0 bk h' (cells + 2) (slots + (n + 4)) { g with pc := g.pc + 2, stack := .ref a :: g.stack } Q) : Run p l e R s m args below meth c Z EL own n0 bk h cells slots g Q := fun vm0 T locs P => by
  subst hEL
  obtain ⟨X, e1, ⟨k0, hS, hk⟩, hZ, ho, N, O, C, B, a1, hE⟩ := P
  obtain ⟨a, T', h', k1, X', e2, E, hS', hk', hZ', ho', hC, -, st⟩ := ldcOH X hx hZ ho w wS e1 hS hk hE C hg hd hn hbig hc hl
  obtain ⟨U, o, h1, r⟩ := k h' a (O.ext E) E T'.vm T' locs ⟨X', e2, ⟨k1, hS', hk'⟩, hZ', ho', N, O.ext E, hC.1, (fun y q => by obtain ⟨p, hp, -⟩ := q; cases hp), a1, hE⟩
  exact ⟨U, o, st _ h1, r⟩
/-- a constant that is read -/
theorem k_ldcC (hx : p.tables.exec = Jvm.exec) {text : String} {index : Nat} (w : (Jvm.Cond.stringLink own index text).before a0 Z = true) (wS : ∀ a ∈ Bundle.stringAtoms, a.before a0 Z = true) (hmem : (own, index) ∈ EL) {vs : List Value} {z : Int32} (ht : (∀ c ∈ text.toList, c.toNat < 256) ∧ text.toList.map (fun c => Value.int (Jvm.Lit.byteI c.toNat.toUInt16)) = vs) (hz : ¬ z < 0) (hzl : z.toNatClampNeg = vs.length)
    (hg : g.method = m) (hd : decode c.code g.pc = .ok (.ldc index, 2)) {n : Nat} (hn : 4 * text.toList.length ≤ n) (hbig : n ≤ 536870912) (hc : cells + 2 ≤ R.cells) (hl : slots + (n + 4) ≤ R.slots)
    (k : ∀ h' a b kb bk', Old Z n0 h' → Ext h h' → (∀ y, bk' y → bk y ∨ (h.size ≤ y ∧ y < h'.size)) → Exa Z h' a "java/lang/String" → Fld Z h' a "java/lang/String" "coder" "B" (.int 0) → Fld Z h' a "java/lang/String" "value" "[B" (.ref b) → Arv Z h' b kb .byte z vs (.int 0) → (∀ x, x < h.size → ¬ bk x → x ≠ a ∧ x ≠ b) →
      Run p l e R s m args below meth c Z EL own n0 bk' h' (cells + 2) (slots + (n + 4)) { g with pc := g.pc + 2, stack := .ref a :: g.stack } Q) : Run p l e R s m args below meth c Z EL own n0 bk h cells slots g Q := fun vm0 T locs P => by
  obtain ⟨X, e1, ⟨k0, hS, hk⟩, hZ, ho, N, O, C, B, a1, hE⟩ := P
  obtain ⟨a, T', h', k1, b, kb, X', e2, E, hS', hk', hZ', ho', r1, r2, r3, r4, -, -, hC, -, r5, st⟩ := ldcCH X hx hZ ho w wS e1 hS hk hE hmem C ht hz hzl hg hd hn hbig hc hl
  obtain ⟨U, o, h1, r⟩ := k h' a b kb (fun y => bk y ∨ (h.size ≤ y ∧ y < h'.size)) (O.ext E) E (fun _ q => q) r1 r2 r3 r4 (fun x lt nb => r5 x fun q => (hC.2.2 x q).elim (fun q => nb (B x q)) fun q => absurd lt (Nat.not_lt.mpr q)) T'.vm T' locs ⟨X', e2, ⟨k1, hS', hk'⟩, hZ', ho', N, O.ext E, hC.1, fun y q => (hC.2.2 y q).imp (B y) fun r => ⟨r, (Array.getElem?_eq_some_iff.mp (Bk.there q).choose_spec).1⟩, a1, hE⟩
  exact ⟨U, o, st _ h1, r⟩
/-! two natives -/
theorem k_cpA (hx : p.tables.exec = Jvm.exec) {index : Nat} (w1 : (Jvm.Cond.methodLink own index Jvm.Stand.acN).before a0 Z = true) (w2 : (Jvm.Cond.native Jvm.Stand.acN).before a0 Z = true) (w3 : (Jvm.Cond.static Jvm.Stand.acN).before a0 Z = true) (w4 : (Jvm.Cond.initialized "java/lang/System").before a0 Z = true)
    {a b : Addr} {ka kb : ClassId} {ty ty' : FieldType} {z z' sp dp nn : Int32} {vs vd us : List Value} {dv dd : Value} (A : Arv Z h a ka ty z vs dv) (B : Arv Z h b kb ty' z' vd dd) (hty : (ty = ty' ∧ refKind ty = false) ∨ (refKind ty = true ∧ refKind ty' = true ∧ StoL Z h b us))
    (h1 : ¬ sp < 0) (h2 : ¬ dp < 0) (h3 : ¬ nn < 0) (h4 : sp.toNatClampNeg + nn.toNatClampNeg ≤ z.toNatClampNeg) (h5 : dp.toNatClampNeg + nn.toNatClampNeg ≤ z'.toNatClampNeg) (hus : us = (List.range nn.toNatClampNeg).map fun i => vs.getD (sp.toNatClampNeg + i) dv) (hvl : dp.toNatClampNeg + nn.toNatClampNeg ≤ vd.length) (ge : n0 ≤ b) (nb : ¬ bk b)
    (hg : g.method = m) (hsize : g.locals.size = c.maxLocals) {rest : List Value} (hs : g.stack = .int nn :: .int dp :: .ref b :: .int sp :: .ref a :: rest) (hd : decode c.code g.pc = .ok (.invokestatic index, 3)) (hf : 1 ≤ R.frames) {W : Nat} (hW : 2 * g.monitorRoom + (rest.map fun v => v.category).sum ≤ W) (hlo : W + (nativeFrameWords "java/lang/System" "arraycopy" 5 + 11) ≤ R.locals)
    (k : ∀ h', Old Z n0 h' → Keep h h' [b] → Arv Z h' b kb ty' z' (vd.take dp.toNatClampNeg ++ us ++ vd.drop (dp.toNatClampNeg + nn.toNatClampNeg)) dd → Run p l e R s m args below meth c Z EL own n0 bk h' cells slots { g with pc := g.pc + 3, stack := rest } Q) : Run p l e R s m args below meth c Z EL own n0 bk h cells slots g Q := fun vm0 T locs P => by
  obtain ⟨X, e1, ⟨k0, hS, hk⟩, hZ, ho, N, O, C, Bb, hE⟩ := P
  obtain ⟨T', h', L, X', e2, N', K, V, st⟩ := cpA X hx hZ ho w1 w2 w3 w4 e1 A B hty h1 h2 h3 h4 h5 hus hvl N ge hg hsize hs hd hf hW hlo
  have r' := ne_of_keep K C (fun q => nb (Bb b q))
  obtain ⟨U, o, q1, r⟩ := k h' (O.keep K (allS ge all0)) K V vm0 T' L ⟨X', e2, ⟨k0, hS, Nat.le_trans hk K.1⟩, hZ, ho, N', O.keep K (allS ge all0), r'.1, fun y q => Bb y (r'.2 y q), hE⟩
  exact ⟨U, o, st _ q1, r⟩
theorem k_clone (hx : p.tables.exec = Jvm.exec) {ad : String} {index : Nat} (w1 : (Jvm.Cond.methodLink own index ⟨ad, "clone", "()Ljava/lang/Object;"⟩).before a0 Z = true) (w2 : (Jvm.Cond.sameMethod ad "java/lang/Object" "clone" "()Ljava/lang/Object;").before a0 Z = true) (w3 : (Jvm.Cond.native ⟨"java/lang/Object", "clone", "()Ljava/lang/Object;"⟩).before a0 Z = true)
    (w4 : (Jvm.Cond.instanceMethod ⟨"java/lang/Object", "clone", "()Ljava/lang/Object;"⟩).before a0 Z = true) (w5 : (Jvm.Cond.selects ad ⟨ad, "clone", "()Ljava/lang/Object;"⟩ ⟨"java/lang/Object", "clone", "()Ljava/lang/Object;"⟩).before a0 Z = true) (w6 : (Jvm.Cond.castable ad "java/lang/Cloneable").before a0 Z = true)
    {a : Addr} {kA : ClassId} {ty : FieldType} {z : Int32} {vs : List Value} {dv : Value} (F : Arv Z h a kA ty z vs dv) (E : Exa Z h a ad) (hg : g.method = m) (hsize : g.locals.size = c.maxLocals) {rest : List Value} (hst : g.stack = .ref a :: rest) (hd : decode c.code g.pc = .ok (.invokevirtual index, 3)) (hf : 1 ≤ R.frames) {W cap : Nat} (hW : 2 * g.monitorRoom + (rest.map fun v => v.category).sum ≤ W) (hl : W + 14 ≤ R.locals) (hcap : z.toNatClampNeg ≤ cap) (hc : cells + 1 ≤ R.cells) (hsl : slots + cap ≤ R.slots)
    (k : ∀ h' a, a = h.size → Old Z n0 h' → Ext h h' → Arv Z h' a kA ty z vs dv → Exa Z h' a ad → Run p l e R s m args below meth c Z EL own n0 bk h' (cells + 1) (slots + cap) { g with pc := g.pc + 3, stack := .ref a :: rest } Q) : Run p l e R s m args below meth c Z EL own n0 bk h cells slots g Q :=
  k_grow (F := fun h' g' => g' = { g with pc := g.pc + 3, stack := .ref h.size :: rest } ∧ Arv Z h' h.size kA ty z vs dv ∧ Exa Z h' h.size ad)
    (fun s' T locs X e1 hZ ho => by
      obtain ⟨T', h', X', e2, E', A, D, st⟩ := cloneH X hx hZ ho w1 w2 w3 w4 w5 w6 e1 (Arv.arh F) E hg hsize hst hd hf hW hl hcap hc hsl
      exact ⟨T', h', _, X', e2, E', ⟨rfl, A, D⟩, st⟩)
    (fun h' g' O E ⟨q, A, D⟩ => by subst q; exact k h' _ rfl O E A D)
end Kit

theorem s_irem {tb : Tables} [Ours tb] {e : Env} {below : List Frame} {T target : State} {m : MethodId} {c : Code} {g : JFrame} (h : At T m c below) (hx : tb.exec = Jvm.exec) (hg : g.method = m) {x y : Int32} {rest : List Value} (hd : decode c.code g.pc = .ok (.irem, 1)) (hs : g.stack = .int y :: .int x :: rest) (hy : y ≠ 0)
    (hr : Steps tb e below (T.setTop { g with pc := g.pc + 1, stack := .int (x % y) :: rest }) target) : Steps tb e below (T.setTop g) target := by
  have q : x - x / y * y = x % y := irem_eq_mod x y
  exact XS.irem h hx hg hd hs hy (by rw [q]; exact hr)
theorem kk0 {ws : List Addr} {n : Nat} : ∀ x ∈ ([] : List Addr), x ∈ ws ∨ n ≤ x := fun _ q => nomatch q
theorem kkS {ws L : List Addr} {n : Nat} {y : Addr} (q : y ∈ ws ∨ n ≤ y) (r : ∀ x ∈ L, x ∈ ws ∨ n ≤ x) : ∀ x ∈ y :: L, x ∈ ws ∨ n ≤ x := fun x z => (List.mem_cons.mp z).elim (fun u => u ▸ q) (r x)
theorem no_asg {Z : State} {a0 : Array Value} {C O K : String} {n : Nat} (w : (Jvm.Cond.superclass C O).before a0 Z = true) (wo : (Jvm.Cond.noSuperclass O).before a0 Z = true) (wk : (Jvm.Cond.instantiable K n).before a0 Z = true) (h1 : C ≠ K) (h2 : O ≠ K) : ∃ c t, Z.vm.findClass C = some c ∧ Z.vm.findClass K = some t ∧ Z.vm.assignable c t = false := by
  obtain ⟨c, hc⟩ := found_sup w
  obtain ⟨cO, k, kO, q1, q2, q3, q4, q5, -⟩ := Jvm.Cond.superclass_spec hc w
  obtain ⟨cO', kO', r1, r2, r3, -⟩ := Jvm.Cond.noSuperclass_spec wo
  cases q1.symm.trans r1
  obtain ⟨t, kt, t1, t2, t3, t4, -⟩ := Jvm.Cond.instantiable_spec wk
  have n1 := ids_ne hc t1 h1
  have n2 := ids_ne q1 t1 h2
  have sub2 : ∀ f, Z.vm.isSubclassAux f cO t = false := fun f => by cases f <;> simp [Vm.isSubclassAux, n2, r2, r3]
  have sub1 : ∀ f, Z.vm.isSubclassAux f c t = false := fun f => by cases f <;> simp [Vm.isSubclassAux, n1, q2, q4, sub2]
  have ti : kt.isInterface = false := by simp only [Bool.or_eq_false_iff] at t4; exact t4.1
  refine ⟨c, t, hc, t1, ?_⟩
  show Z.vm.assignableAux (255 + 1) c t = false
  simp [Vm.assignableAux, n1, q2, t2, q5, t3, ti, Vm.isSubclass, sub1]
/-! from the words of a start to facts on its heap -/
theorem ev_int {args : Array Value} {s : State} {t : Term} {k : Int32} (h : (Jvm.Cond.eq t (.int k)).before args s = true) : t.eval args s none [] s = some (.int k) := by
  obtain ⟨x, y, e1, e2, k1, -⟩ := cmp_v (Or.inl (Cond.before_iff.mp h))
  rw [Term.int_eval] at e2
  cases e2
  cases x with
  | int z => have := gotT (Cond.eq_ints e1 (Term.int_eval k)) (Cond.before_iff.mp h); rw [e1, this]
  | _ => exact absurd k1 (by simp [Kin, Value.isRef])
theorem ev_long {args : Array Value} {s : State} {t : Term} {k : Int64} (h : (Jvm.Cond.eq t (.long k)).before args s = true) : t.eval args s none [] s = some (.long k) := by
  obtain ⟨x, y, e1, e2, k1, -⟩ := cmp_v (Or.inl (Cond.before_iff.mp h))
  rw [long_at] at e2
  cases e2
  cases x with
  | long z => have := gotT (eq_L e1 (long_at k)) (Cond.before_iff.mp h); rw [e1, this]
  | _ => exact absurd k1 (by simp [Kin, Value.isRef])
theorem exa_start {args : Array Value} {s : State} {t : Term} {C : String} (h : (Jvm.Cond.exactly t C).before args s = true) : ∃ a, t.eval args s none [] s = some (.ref a) ∧ Exa s s.heap a C := by
  obtain ⟨a, e⟩ := exa_v (Cond.before_iff.mp h)
  exact ⟨a, e, Exa.start e (Cond.before_iff.mp h)⟩
theorem fld_start {args : Array Value} {s : State} {t : Term} {a : Addr} {C n d : String} {v : Value} (ht : t.eval args s none [] s = some (.ref a)) (hv : (Term.field t C n d).eval args s none [] s = some v) : Fld s s.heap a C n d v := Fld.start (by rw [← fld_at ht]; exact hv)
theorem s_pop2L {tb : Tables} [Ours tb] {e : Env} {below : List Frame} {T target : State} {m : MethodId} {c : Code} {g : JFrame} (h : At T m c below) (hx : tb.exec = Jvm.exec) (hg : g.method = m) {x : Int64} {rest : List Value} (hd : decode c.code g.pc = .ok (.pop2, 1)) (hs : g.stack = .long x :: rest)
    (hr : Steps tb e below (T.setTop { g with pc := g.pc + 1, stack := rest }) target) : Steps tb e below (T.setTop g) target := by
  subst hg
  jvm_step h [h.top, hx, hd, hs, pop2.wp_sem, Value.category]
  exact hr
theorem ne_ad {a b : Addr} (h : @Ne Nat a b) : a ≠ b := h

def EL1 : List (String × Nat) := []
def NoB : Addr → Prop := fun _ => False
def Ctx (Z : State) (a0 : Array Value) : Prop := (∀ d ∈ tables_1, d.before a0 Z = true) ∧ EW Z a0 EL1
theorem sa_of {Z : State} {a0 : Array Value} (hw : ∀ d ∈ tables_1, d.before a0 Z = true) : ∀ a ∈ Bundle.stringAtoms, a.before a0 Z = true := fun d hd => hw d ((by decide +kernel : ∀ d ∈ Bundle.stringAtoms, d ∈ tables_1) d hd)
def More (Z : State) (gM gY rY gD rD : Addr) : Prop := (Sta Z Z.heap "java/time/Month" "MARCH" "Ljava/time/Month;" (.ref gM)) ∧ (Exa Z Z.heap gM "java/time/Month") ∧ (Fld Z Z.heap gM "java/lang/Enum" "ordinal" "I" (.int (2 : Int32))) ∧ (Sta Z Z.heap "java/time/temporal/ChronoField" "YEAR" "Ljava/time/temporal/ChronoField;" (.ref gY)) ∧ (Exa Z Z.heap gY "java/time/temporal/ChronoField") ∧ (Fld Z Z.heap gY "java/time/temporal/ChronoField" "range" "Ljava/time/temporal/ValueRange;" (.ref rY)) ∧ (Exa Z Z.heap rY "java/time/temporal/ValueRange") ∧ (Fld Z Z.heap rY "java/time/temporal/ValueRange" "minSmallest" "J" (.long ((-999999999) : Int64))) ∧ (Fld Z Z.heap rY "java/time/temporal/ValueRange" "maxLargest" "J" (.long (999999999 : Int64))) ∧ (Sta Z Z.heap "java/time/temporal/ChronoField" "DAY_OF_MONTH" "Ljava/time/temporal/ChronoField;" (.ref gD)) ∧ (Exa Z Z.heap gD "java/time/temporal/ChronoField") ∧ (Fld Z Z.heap gD "java/time/temporal/ChronoField" "range" "Ljava/time/temporal/ValueRange;" (.ref rD)) ∧ (Exa Z Z.heap rD "java/time/temporal/ValueRange") ∧ (Fld Z Z.heap rD "java/time/temporal/ValueRange" "minSmallest" "J" (.long (1 : Int64))) ∧ (Fld Z Z.heap rD "java/time/temporal/ValueRange" "maxLargest" "J" (.long (31 : Int64)))

theorem nar_s {z : Int32} (h : z.toInt16.toInt32 = z) : narrow .short (.int z) = .int z := by
  show Value.int z.toInt16.toInt32 = _; rw [h]
theorem fit_s {z : Int32} (h : z.toInt16.toInt32 = z) : fits .short (.int z) = true := by rw [← h]; exact fits_nar_short z

theorem y_lo {z : Int32} (h : 0 ≤ z.toInt) : ¬ z.toInt64 < ((-999999999) : Int64) := by
  rw [Int64.lt_iff_toInt_lt, c_i2l]; have e : ((-999999999) : Int64).toInt = (-999999999) := by decide
  omega
theorem y_hi {z : Int32} (h : z.toInt ≤ 5000) : ¬ (999999999 : Int64) < z.toInt64 := by
  rw [Int64.lt_iff_toInt_lt, c_i2l]; have e : (999999999 : Int64).toInt = 999999999 := by decide
  omega

theorem sh_ok {z : Int32} (h1 : 0 ≤ z.toInt) (h2 : z.toInt ≤ 100) : z.toInt16.toInt32 = z := by
  have q := c_i2s z
  apply Int32.toInt_inj.mp; omega
theorem dom22 {k : Int32} (h1 : 0 ≤ k.toInt) (h2 : k.toInt ≤ 34) : ((22 : Int64) + k.toInt64).toInt = 22 + k.toInt := by
  have q := c_ladd (22 : Int64) k.toInt64
  have e : (22 : Int64).toInt = 22 := by decide
  have r := c_i2l k
  have g := rng64 ((22 : Int64) + k.toInt64)
  omega
theorem gt22 {k : Int32} {N : Int64} {n : Int} (hN : N.toInt = n) (h1 : 0 ≤ k.toInt) (h2 : k.toInt ≤ 34) : (0 : Int32) < lcmpW ((22 : Int64) + k.toInt64) N ↔ n < 22 + k.toInt := by
  rw [lw_gt, Int64.lt_iff_toInt_lt, dom22 h1 h2, hN]
theorem day_a {k d : Int32} (h1 : 0 ≤ k.toInt) (h2 : k.toInt ≤ 34) (h : d.toInt = 22 + k.toInt) : ((22 : Int64) + k.toInt64).toInt32 = d := by
  have q := c_l2i ((22 : Int64) + k.toInt64)
  rw [dom22 h1 h2] at q
  have g := rng32 (((22 : Int64) + k.toInt64).toInt32)
  have g2 := rng32 d
  apply Int32.toInt_inj.mp; omega
theorem day_b {k d : Int32} (h1 : 0 ≤ k.toInt) (h2 : k.toInt ≤ 34) (h : d.toInt = k.toInt - 9) : (((22 : Int64) + k.toInt64) - (31 : Int64)).toInt32 = d := by
  have q := c_l2i (((22 : Int64) + k.toInt64) - (31 : Int64))
  have r := c_lsub ((22 : Int64) + k.toInt64) (31 : Int64)
  rw [dom22 h1 h2] at r
  have e : (31 : Int64).toInt = 31 := by decide
  have g := rng32 ((((22 : Int64) + k.toInt64) - (31 : Int64)).toInt32)
  have g2 := rng32 d
  have g3 := rng64 (((22 : Int64) + k.toInt64) - (31 : Int64))
  apply Int32.toInt_inj.mp; omega
def e1 (y : Int32) : Int32 := y % 19
def e2 (y : Int32) : Int32 := y / 100
def e3 (y : Int32) : Int32 := y % 100
def e4 (y : Int32) : Int32 := e2 y / 4
def e5 (y : Int32) : Int32 := e2 y % 4
def e6 (y : Int32) : Int32 := (e2 y + 8) / 25
def e7 (y : Int32) : Int32 := (e2 y - e6 y + 1) / 3
def e8 (y : Int32) : Int32 := (19 * e1 y + e2 y - e4 y - e7 y + 15) % 30
def e9 (y : Int32) : Int32 := e3 y / 4
def e10 (y : Int32) : Int32 := e3 y % 4
def e11 (y : Int32) : Int32 := (32 + 2 * e5 y + 2 * e9 y - e8 y - e10 y) % 7
def e12 (y : Int32) : Int32 := (e1 y + 11 * e8 y + 22 * e11 y) / 451
def e13 (y : Int32) : Int32 := e8 y + e11 y - 7 * e12 y
def lh (y : Int32) : Int32 := (19 * e1 y + 15 + e2 y - e2 y / 4 - (8 * e2 y + 13) / 25) % 30
def lp (y : Int32) : Int32 := if lh y = 29 then 28 else if lh y = 28 then (if 10 < e1 y then 27 else lh y) else lh y
def lw (y : Int32) : Int32 := (y + y / 4 - e2 y + e2 y / 4 + lp y + 2) % 7
def lf (y : Int32) : Int32 := lp y + 6 - lw y

def chk (y : Int32) : Bool := decide (e13 y = lf y) && decide (0 ≤ (lf y).toInt) && decide ((lf y).toInt ≤ 34)
def chks : Nat → Nat → Bool
  | 0, _ => true
  | n + 1, y => chk (Int32.ofNat y) && chks n (y + 1)
theorem chks_at : ∀ (n y k : Nat), chks n y = true → k < n → chk (Int32.ofNat (y + k)) = true
  | 0, _, _, _, hk => absurd hk (Nat.not_lt_zero _)
  | n + 1, y, k, h, hk => by
    have h' : (chk (Int32.ofNat y) && chks n (y + 1)) = true := h
    rw [Bool.and_eq_true] at h'
    cases k with
    | zero => exact h'.1
    | succ k => have q := chks_at n (y + 1) k h'.2 (by omega); rw [show y + 1 + k = y + (k + 1) by omega] at q; exact q
set_option maxRecDepth 100000 in
theorem all_years : chks 2517 1583 = true := by decide +kernel
theorem year_ok {y : Int32} (h1 : 1583 ≤ y.toInt) (h2 : y.toInt ≤ 4099) : e13 y = lf y ∧ 0 ≤ (lf y).toInt ∧ (lf y).toInt ≤ 34 := by
  have q := chks_at _ _ (y.toInt - 1583).toNat all_years (by omega)
  have e : Int32.ofNat (1583 + (y.toInt - 1583).toNat) = y := Int32.toInt_inj.mp (by rw [toInt_of rfl (by omega)]; omega)
  rw [e] at q
  simp only [chk, Bool.and_eq_true, decide_eq_true_eq] at q
  exact ⟨q.1.1, q.1.2, q.2⟩

def Q_gmn (Z : State) (r : Addr) (mn : Int64) (h0 : Heap) (n0 : Nat) (bk : Addr → Prop) (v : Option Value) (h : Heap) (bk' : Addr → Prop) : Prop := v = some (.long mn) ∧ h0 = h ∧ NoB = bk'
theorem d_jdk_2423_m_6_0 : decode jdk_2423_method_6_code 0 = .ok (.aload_n 0, 1) := by decide +kernel
theorem d_jdk_2423_m_6_1 : decode jdk_2423_method_6_code 1 = .ok (.getfield 33, 3) := by decide +kernel
theorem d_jdk_2423_m_6_4 : decode jdk_2423_method_6_code 4 = .ok (.lreturn, 1) := by decide +kernel
abbrev RM_gmn : Room := { frames := 0, cells := 0, slots := 0, locals := 0 }
theorem ef_gmn (m : MethodId) (x0 : Addr) : entryFrame m #[(.ref x0)] 1 = mkF m 0 #[.val (.ref x0)] [] := by first | (simp [entryFrame, mkF, argsToLocals, Value.category]; done) | rfl
set_option maxRecDepth 65536 in
set_option maxHeartbeats 40000000 in
theorem rm_gmn (l : Launch) (Z : State) (a0 : Array Value) (gM gY rY gD rD : Addr) (hX : Ctx Z a0) (hY : More Z gM gY rY gD rD) (n0 : Nat) (h0 : Heap) (O0 : Old Z n0 h0) (r : Addr) (mn : Int64) (pf_0 : Fld Z h0 r "java/time/temporal/ValueRange" "minSmallest" "J" (.long mn)) (ws : List Jvm.Cond) : Met l Z EL1 n0 NoB (⟨"java/time/temporal/ValueRange", "getMinimum", "()J"⟩ : MethodName) jdk_2423_method_6_code 1 (Option.some FieldType.long) RM_gmn #[(.ref r)] h0 (Q_gmn Z r mn h0 n0 NoB) ws := by
  have hX' := hX
  obtain ⟨hw, hE⟩ := hX'
  have hY' := hY
  obtain ⟨sM, xM, oM, sY, xY, fY, yY, iY, aY, sD, xD, fD, yD, iD, aD⟩ := hY'
  have hSA := sa_of hw
  have z0 : n0 ≤ h0.size := by rw [← O0.1]; exact O0.2.1
  refine Met.of (by decide +kernel) O0 hE ?_
  intro p e s m below meth c hx hby hml hret hlk hnm
  refine k_cast (ef_gmn m r) ?_
  show Run p l e _ s m _ below meth c Z EL1 _ n0 NoB h0 0 0 (mkF m 0 #[.val (.ref r)] []) _
  have lt_1 : @LT.lt Nat _ r (Array.size h0) := pf_0.lt
  refine k_pure (g' := (mkF m 1 #[.val (.ref r)] [(.ref r)])) (fun TT HH tt kk => XS.aloadN HH hx rfl (hb hby d_jdk_2423_m_6_0) rfl rfl kk) ?_
  refine k_getF hx (host := "") (Or.inl (hw _ (List.mem_of_getElem? (i := 41) rfl))) Via.refl pf_0 rfl rfl (hb hby d_jdk_2423_m_6_1) ?_
  show Run p l e _ s m _ below meth c Z EL1 _ n0 NoB h0 0 0 (mkF m 4 #[.val (.ref r)] [(.long mn)]) _
  exact k_retL hx hlk hret (hb hby d_jdk_2423_m_6_4) (by decide) (by decide) ⟨rfl, rfl, rfl⟩
def Q_gmx (Z : State) (r : Addr) (mx : Int64) (h0 : Heap) (n0 : Nat) (bk : Addr → Prop) (v : Option Value) (h : Heap) (bk' : Addr → Prop) : Prop := v = some (.long mx) ∧ h0 = h ∧ NoB = bk'
theorem d_jdk_2423_m_9_0 : decode jdk_2423_method_9_code 0 = .ok (.aload_n 0, 1) := by decide +kernel
theorem d_jdk_2423_m_9_1 : decode jdk_2423_method_9_code 1 = .ok (.getfield 43, 3) := by decide +kernel
theorem d_jdk_2423_m_9_4 : decode jdk_2423_method_9_code 4 = .ok (.lreturn, 1) := by decide +kernel
abbrev RM_gmx : Room := { frames := 0, cells := 0, slots := 0, locals := 0 }
theorem ef_gmx (m : MethodId) (x0 : Addr) : entryFrame m #[(.ref x0)] 1 = mkF m 0 #[.val (.ref x0)] [] := by first | (simp [entryFrame, mkF, argsToLocals, Value.category]; done) | rfl
set_option maxRecDepth 65536 in
set_option maxHeartbeats 40000000 in
theorem rm_gmx (l : Launch) (Z : State) (a0 : Array Value) (gM gY rY gD rD : Addr) (hX : Ctx Z a0) (hY : More Z gM gY rY gD rD) (n0 : Nat) (h0 : Heap) (O0 : Old Z n0 h0) (r : Addr) (mx : Int64) (pf_0 : Fld Z h0 r "java/time/temporal/ValueRange" "maxLargest" "J" (.long mx)) (ws : List Jvm.Cond) : Met l Z EL1 n0 NoB (⟨"java/time/temporal/ValueRange", "getMaximum", "()J"⟩ : MethodName) jdk_2423_method_9_code 1 (Option.some FieldType.long) RM_gmx #[(.ref r)] h0 (Q_gmx Z r mx h0 n0 NoB) ws := by
  have hX' := hX
  obtain ⟨hw, hE⟩ := hX'
  have hY' := hY
  obtain ⟨sM, xM, oM, sY, xY, fY, yY, iY, aY, sD, xD, fD, yD, iD, aD⟩ := hY'
  have hSA := sa_of hw
  have z0 : n0 ≤ h0.size := by rw [← O0.1]; exact O0.2.1
  refine Met.of (by decide +kernel) O0 hE ?_
  intro p e s m below meth c hx hby hml hret hlk hnm
  refine k_cast (ef_gmx m r) ?_
  show Run p l e _ s m _ below meth c Z EL1 _ n0 NoB h0 0 0 (mkF m 0 #[.val (.ref r)] []) _
  have lt_1 : @LT.lt Nat _ r (Array.size h0) := pf_0.lt
  refine k_pure (g' := (mkF m 1 #[.val (.ref r)] [(.ref r)])) (fun TT HH tt kk => XS.aloadN HH hx rfl (hb hby d_jdk_2423_m_9_0) rfl rfl kk) ?_
  refine k_getF hx (host := "") (Or.inl (hw _ (List.mem_of_getElem? (i := 48) rfl))) Via.refl pf_0 rfl rfl (hb hby d_jdk_2423_m_9_1) ?_
  show Run p l e _ s m _ below meth c Z EL1 _ n0 NoB h0 0 0 (mkF m 4 #[.val (.ref r)] [(.long mx)]) _
  exact k_retL hx hlk hret (hb hby d_jdk_2423_m_9_4) (by decide) (by decide) ⟨rfl, rfl, rfl⟩
def Q_isv (Z : State) (r : Addr) (mn : Int64) (mx : Int64) (z : Int64) (h0 : Heap) (n0 : Nat) (bk : Addr → Prop) (v : Option Value) (h : Heap) (bk' : Addr → Prop) : Prop := v = some (.int (1 : Int32)) ∧ h0 = h ∧ NoB = bk'
theorem d_jdk_2423_m_11_0 : decode jdk_2423_method_11_code 0 = .ok (.lload_n 1, 1) := by decide +kernel
theorem d_jdk_2423_m_11_1 : decode jdk_2423_method_11_code 1 = .ok (.aload_n 0, 1) := by decide +kernel
theorem d_jdk_2423_m_11_2 : decode jdk_2423_method_11_code 2 = .ok (.invokevirtual 46, 3) := by decide +kernel
theorem pd__28__29_J : parseMethodDescriptor "()J" = some ⟨[], some .long⟩ := by decide +kernel
theorem d_jdk_2423_m_11_5 : decode jdk_2423_method_11_code 5 = .ok (.lcmp, 1) := by decide +kernel
theorem d_jdk_2423_m_11_6 : decode jdk_2423_method_11_code 6 = .ok (.ifCond .lt 16, 3) := by decide +kernel
theorem d_jdk_2423_m_11_9 : decode jdk_2423_method_11_code 9 = .ok (.lload_n 1, 1) := by decide +kernel
theorem d_jdk_2423_m_11_10 : decode jdk_2423_method_11_code 10 = .ok (.aload_n 0, 1) := by decide +kernel
theorem d_jdk_2423_m_11_11 : decode jdk_2423_method_11_code 11 = .ok (.invokevirtual 54, 3) := by decide +kernel
theorem d_jdk_2423_m_11_14 : decode jdk_2423_method_11_code 14 = .ok (.lcmp, 1) := by decide +kernel
theorem d_jdk_2423_m_11_15 : decode jdk_2423_method_11_code 15 = .ok (.ifCond .gt 7, 3) := by decide +kernel
theorem d_jdk_2423_m_11_18 : decode jdk_2423_method_11_code 18 = .ok (.iconst 1, 1) := by decide +kernel
theorem d_jdk_2423_m_11_19 : decode jdk_2423_method_11_code 19 = .ok (.goto 4, 3) := by decide +kernel
theorem d_jdk_2423_m_11_23 : decode jdk_2423_method_11_code 23 = .ok (.ireturn, 1) := by decide +kernel
abbrev RM_isv : Room := { frames := 1, cells := 0, slots := 0, locals := 14 }
theorem ef_isv (m : MethodId) (x0 : Addr) (x1 : Int64) : entryFrame m #[(.ref x0), (.long x1)] 3 = mkF m 0 #[.val (.ref x0), .val (.long x1), .second] [] := by first | (simp [entryFrame, mkF, argsToLocals, Value.category]; done) | rfl
set_option maxRecDepth 65536 in
set_option maxHeartbeats 40000000 in
theorem rm_isv (l : Launch) (Z : State) (a0 : Array Value) (gM gY rY gD rD : Addr) (hX : Ctx Z a0) (hY : More Z gM gY rY gD rD) (n0 : Nat) (h0 : Heap) (O0 : Old Z n0 h0) (r : Addr) (mn : Int64) (mx : Int64) (z : Int64) (pf_0 : Exa Z h0 r "java/time/temporal/ValueRange") (pf_1 : Fld Z h0 r "java/time/temporal/ValueRange" "minSmallest" "J" (.long mn)) (pf_2 : Fld Z h0 r "java/time/temporal/ValueRange" "maxLargest" "J" (.long mx)) (h1 : ¬ z < mn) (h2 : ¬ mx < z) (ws : List Jvm.Cond) : Met l Z EL1 n0 NoB (⟨"java/time/temporal/ValueRange", "isValidValue", "(J)Z"⟩ : MethodName) jdk_2423_method_11_code 3 (Option.some FieldType.boolean) RM_isv #[(.ref r), (.long z)] h0 (Q_isv Z r mn mx z h0 n0 NoB) ws := by
  have hX' := hX
  obtain ⟨hw, hE⟩ := hX'
  have hY' := hY
  obtain ⟨sM, xM, oM, sY, xY, fY, yY, iY, aY, sD, xD, fD, yD, iD, aD⟩ := hY'
  have hSA := sa_of hw
  have z0 : n0 ≤ h0.size := by rw [← O0.1]; exact O0.2.1
  refine Met.of (by decide +kernel) O0 hE ?_
  intro p e s m below meth c hx hby hml hret hlk hnm
  refine k_cast (ef_isv m r z) ?_
  show Run p l e _ s m _ below meth c Z EL1 _ n0 NoB h0 0 0 (mkF m 0 #[.val (.ref r), .val (.long z), .second] []) _
  have lt_1 : @LT.lt Nat _ r (Array.size h0) := pf_0.lt
  have lt_2 : @LT.lt Nat _ r (Array.size h0) := pf_1.lt
  have lt_3 : @LT.lt Nat _ r (Array.size h0) := pf_2.lt
  refine k_pure (g' := (mkF m 1 #[.val (.ref r), .val (.long z), .second] [(.long z)])) (fun TT HH tt kk => XS.lloadN HH hx rfl (hb hby d_jdk_2423_m_11_0) rfl kk) ?_
  refine k_pure (g' := (mkF m 2 #[.val (.ref r), .val (.long z), .second] [(.ref r), (.long z)])) (fun TT HH tt kk => XS.aloadN HH hx rfl (hb hby d_jdk_2423_m_11_1) rfl rfl kk) ?_
  refine k_callV hx (y := (⟨"java/time/temporal/ValueRange", "getMinimum", "()J"⟩ : MethodName)) (z := (⟨"java/time/temporal/ValueRange", "getMinimum", "()J"⟩ : MethodName)) (hw _ (List.mem_of_getElem? (i := 36) rfl)) (hw _ (List.mem_of_getElem? (i := 37) rfl)) (fun s' hZ => notFace_of_selects (args := #[]) (mv hZ (hw _ (List.mem_of_getElem? (i := 39) rfl)))) (hw _ (List.mem_of_getElem? (i := 39) rfl)) (hw _ (List.mem_of_getElem? (i := 38) rfl)) (by decide) (W := 2) (a := r) (argsL := []) (rest := [(.long z)]) (Pays.of_met (rm_gmn l Z a0 gM gY rY gD rD hX hY n0 h0 O0 r mn pf_1 []) (hw _ (List.mem_of_getElem? (i := 40) rfl)) (hw _ (List.mem_of_getElem? (i := 29) rfl)) (by decide) (by decide)) pf_0 rfl (by rw [hml]; rfl) (lenOf pd__28__29_J rfl) rfl (by show 2 * 0 + _ ≤ _; exact Nat.le_of_eq rfl) (hb hby d_jdk_2423_m_11_2) (by decide) (by decide) ?_
  intro v_4 h_5 bk_6 O_7 z_8 Q_9
  obtain ⟨rfl, rfl, rfl⟩ := Q_9
  show Run p l e _ s m _ below meth c Z EL1 _ n0 NoB h0 0 0 (mkF m 5 #[.val (.ref r), .val (.long z), .second] [(.long mn), (.long z)]) _
  refine k_pure (g' := (mkF m 6 #[.val (.ref r), .val (.long z), .second] [(.int (lcmpW z mn))])) (fun TT HH tt kk => XS.lcmp HH hx rfl (hb hby d_jdk_2423_m_11_5) rfl kk) ?_
  refine k_pure (g' := (mkF m 9 #[.val (.ref r), .val (.long z), .second] [])) (fun TT HH tt kk => XS.ifNo HH hx rfl (hb hby d_jdk_2423_m_11_6) rfl ((if0 _ _).trans (flt (fun q => h1 ((lw_lt _ _).mp q))).1) kk) ?_
  refine k_pure (g' := (mkF m 10 #[.val (.ref r), .val (.long z), .second] [(.long z)])) (fun TT HH tt kk => XS.lloadN HH hx rfl (hb hby d_jdk_2423_m_11_9) rfl kk) ?_
  refine k_pure (g' := (mkF m 11 #[.val (.ref r), .val (.long z), .second] [(.ref r), (.long z)])) (fun TT HH tt kk => XS.aloadN HH hx rfl (hb hby d_jdk_2423_m_11_10) rfl rfl kk) ?_
  refine k_callV hx (y := (⟨"java/time/temporal/ValueRange", "getMaximum", "()J"⟩ : MethodName)) (z := (⟨"java/time/temporal/ValueRange", "getMaximum", "()J"⟩ : MethodName)) (hw _ (List.mem_of_getElem? (i := 43) rfl)) (hw _ (List.mem_of_getElem? (i := 44) rfl)) (fun s' hZ => notFace_of_selects (args := #[]) (mv hZ (hw _ (List.mem_of_getElem? (i := 46) rfl)))) (hw _ (List.mem_of_getElem? (i := 46) rfl)) (hw _ (List.mem_of_getElem? (i := 45) rfl)) (by decide) (W := 2) (a := r) (argsL := []) (rest := [(.long z)]) (Pays.of_met (rm_gmx l Z a0 gM gY rY gD rD hX hY n0 h0 O0 r mx pf_2 []) (hw _ (List.mem_of_getElem? (i := 47) rfl)) (hw _ (List.mem_of_getElem? (i := 29) rfl)) (by decide) (by decide)) pf_0 rfl (by rw [hml]; rfl) (lenOf pd__28__29_J rfl) rfl (by show 2 * 0 + _ ≤ _; exact Nat.le_of_eq rfl) (hb hby d_jdk_2423_m_11_11) (by decide) (by decide) ?_
  intro v_10 h_11 bk_12 O_13 z_14 Q_15
  obtain ⟨rfl, rfl, rfl⟩ := Q_15
  show Run p l e _ s m _ below meth c Z EL1 _ n0 NoB h0 0 0 (mkF m 14 #[.val (.ref r), .val (.long z), .second] [(.long mx), (.long z)]) _
  refine k_pure (g' := (mkF m 15 #[.val (.ref r), .val (.long z), .second] [(.int (lcmpW z mx))])) (fun TT HH tt kk => XS.lcmp HH hx rfl (hb hby d_jdk_2423_m_11_14) rfl kk) ?_
  refine k_pure (g' := (mkF m 18 #[.val (.ref r), .val (.long z), .second] [])) (fun TT HH tt kk => XS.ifNo HH hx rfl (hb hby d_jdk_2423_m_11_15) rfl ((if0 _ _).trans (flt (fun q => h2 ((lw_gt _ _).mp q))).2.2.1) kk) ?_
  refine k_pure (g' := (mkF m 19 #[.val (.ref r), .val (.long z), .second] [(.int (1 : Int32))])) (fun TT HH tt kk => XS.iconst HH hx rfl (hb hby d_jdk_2423_m_11_18) kk) ?_
  refine k_pure (g' := (mkF m 23 #[.val (.ref r), .val (.long z), .second] [(.int (1 : Int32))])) (fun TT HH tt kk => XS.goto HH hx rfl (pc0 := 19) (pc' := 23) rfl (hb hby d_jdk_2423_m_11_19) (by decide) (by decide) kk) ?_
  exact k_retN hx hlk hret (by simp) (hb hby d_jdk_2423_m_11_23) (by decide) (by decide) ⟨rfl, rfl, rfl⟩
def Q_ckv (Z : State) (r : Addr) (mn : Int64) (mx : Int64) (z : Int64) (f : Addr) (h0 : Heap) (n0 : Nat) (bk : Addr → Prop) (v : Option Value) (h : Heap) (bk' : Addr → Prop) : Prop := v = some (.long z) ∧ h0 = h ∧ NoB = bk'
theorem d_jdk_2423_m_13_0 : decode jdk_2423_method_13_code 0 = .ok (.aload_n 0, 1) := by decide +kernel
theorem d_jdk_2423_m_13_1 : decode jdk_2423_method_13_code 1 = .ok (.lload_n 1, 1) := by decide +kernel
theorem d_jdk_2423_m_13_2 : decode jdk_2423_method_13_code 2 = .ok (.invokevirtual 63, 3) := by decide +kernel
theorem pd__28_J_29_Z : parseMethodDescriptor "(J)Z" = some ⟨[.long], some .boolean⟩ := by decide +kernel
theorem d_jdk_2423_m_13_5 : decode jdk_2423_method_13_code 5 = .ok (.ifCond .ne 17, 3) := by decide +kernel
theorem d_jdk_2423_m_13_22 : decode jdk_2423_method_13_code 22 = .ok (.lload_n 1, 1) := by decide +kernel
theorem d_jdk_2423_m_13_23 : decode jdk_2423_method_13_code 23 = .ok (.lreturn, 1) := by decide +kernel
abbrev RM_ckv : Room := { frames := 2, cells := 0, slots := 0, locals := 28 }
theorem ef_ckv (m : MethodId) (x0 : Addr) (x1 : Int64) (x2 : Addr) : entryFrame m #[(.ref x0), (.long x1), (.ref x2)] 4 = mkF m 0 #[.val (.ref x0), .val (.long x1), .second, .val (.ref x2)] [] := by first | (simp [entryFrame, mkF, argsToLocals, Value.category]; done) | rfl
set_option maxRecDepth 65536 in
set_option maxHeartbeats 40000000 in
theorem rm_ckv (l : Launch) (Z : State) (a0 : Array Value) (gM gY rY gD rD : Addr) (hX : Ctx Z a0) (hY : More Z gM gY rY gD rD) (n0 : Nat) (h0 : Heap) (O0 : Old Z n0 h0) (r : Addr) (mn : Int64) (mx : Int64) (z : Int64) (f : Addr) (pf_0 : Exa Z h0 r "java/time/temporal/ValueRange") (pf_1 : Fld Z h0 r "java/time/temporal/ValueRange" "minSmallest" "J" (.long mn)) (pf_2 : Fld Z h0 r "java/time/temporal/ValueRange" "maxLargest" "J" (.long mx)) (h1 : ¬ z < mn) (h2 : ¬ mx < z) (ws : List Jvm.Cond) : Met l Z EL1 n0 NoB (⟨"java/time/temporal/ValueRange", "checkValidValue", "(JLjava/time/temporal/TemporalField;)J"⟩ : MethodName) jdk_2423_method_13_code 4 (Option.some FieldType.long) RM_ckv #[(.ref r), (.long z), (.ref f)] h0 (Q_ckv Z r mn mx z f h0 n0 NoB) ws := by
  have hX' := hX
  obtain ⟨hw, hE⟩ := hX'
  have hY' := hY
  obtain ⟨sM, xM, oM, sY, xY, fY, yY, iY, aY, sD, xD, fD, yD, iD, aD⟩ := hY'
  have hSA := sa_of hw
  have z0 : n0 ≤ h0.size := by rw [← O0.1]; exact O0.2.1
  refine Met.of (by decide +kernel) O0 hE ?_
  intro p e s m below meth c hx hby hml hret hlk hnm
  refine k_cast (ef_ckv m r z f) ?_
  show Run p l e _ s m _ below meth c Z EL1 _ n0 NoB h0 0 0 (mkF m 0 #[.val (.ref r), .val (.long z), .second, .val (.ref f)] []) _
  have lt_1 : @LT.lt Nat _ r (Array.size h0) := pf_0.lt
  have lt_2 : @LT.lt Nat _ r (Array.size h0) := pf_1.lt
  have lt_3 : @LT.lt Nat _ r (Array.size h0) := pf_2.lt
  refine k_pure (g' := (mkF m 1 #[.val (.ref r), .val (.long z), .second, .val (.ref f)] [(.ref r)])) (fun TT HH tt kk => XS.aloadN HH hx rfl (hb hby d_jdk_2423_m_13_0) rfl rfl kk) ?_
  refine k_pure (g' := (mkF m 2 #[.val (.ref r), .val (.long z), .second, .val (.ref f)] [(.long z), (.ref r)])) (fun TT HH tt kk => XS.lloadN HH hx rfl (hb hby d_jdk_2423_m_13_1) rfl kk) ?_
  refine k_callV hx (y := (⟨"java/time/temporal/ValueRange", "isValidValue", "(J)Z"⟩ : MethodName)) (z := (⟨"java/time/temporal/ValueRange", "isValidValue", "(J)Z"⟩ : MethodName)) (hw _ (List.mem_of_getElem? (i := 31) rfl)) (hw _ (List.mem_of_getElem? (i := 32) rfl)) (fun s' hZ => notFace_of_selects (args := #[]) (mv hZ (hw _ (List.mem_of_getElem? (i := 34) rfl)))) (hw _ (List.mem_of_getElem? (i := 34) rfl)) (hw _ (List.mem_of_getElem? (i := 33) rfl)) (by decide) (W := 0) (a := r) (argsL := [(.long z)]) (rest := []) (Pays.of_met (rm_isv l Z a0 gM gY rY gD rD hX hY n0 h0 O0 r mn mx z pf_0 pf_1 pf_2 h1 h2 []) (hw _ (List.mem_of_getElem? (i := 35) rfl)) (hw _ (List.mem_of_getElem? (i := 29) rfl)) (by decide) (by decide)) pf_0 rfl (by rw [hml]; rfl) (lenOf pd__28_J_29_Z rfl) rfl (by show 2 * 0 + _ ≤ _; exact Nat.le_of_eq rfl) (hb hby d_jdk_2423_m_13_2) (by decide) (by decide) ?_
  intro v_4 h_5 bk_6 O_7 z_8 Q_9
  obtain ⟨rfl, rfl, rfl⟩ := Q_9
  show Run p l e _ s m _ below meth c Z EL1 _ n0 NoB h0 0 0 (mkF m 5 #[.val (.ref r), .val (.long z), .second, .val (.ref f)] [(.int (1 : Int32))]) _
  refine k_pure (g' := (mkF m 22 #[.val (.ref r), .val (.long z), .second, .val (.ref f)] [])) (fun TT HH tt kk => XS.ifYes HH hx rfl (pc0 := 5) (pc' := 22) rfl (hb hby d_jdk_2423_m_13_5) rfl ((if0 _ _).trans (feq (by decide : ¬ ((1 : Int32) = (0 : Int32)))).2) (by decide) (by decide) kk) ?_
  refine k_pure (g' := (mkF m 23 #[.val (.ref r), .val (.long z), .second, .val (.ref f)] [(.long z)])) (fun TT HH tt kk => XS.lloadN HH hx rfl (hb hby d_jdk_2423_m_13_22) rfl kk) ?_
  exact k_retL hx hlk hret (hb hby d_jdk_2423_m_13_23) (by decide) (by decide) ⟨rfl, rfl, rfl⟩
def Q_rgn (Z : State) (f : Addr) (r : Addr) (h0 : Heap) (n0 : Nat) (bk : Addr → Prop) (v : Option Value) (h : Heap) (bk' : Addr → Prop) : Prop := v = some (.ref r) ∧ h0 = h ∧ NoB = bk'
theorem d_jdk_2395_m_8_0 : decode jdk_2395_method_8_code 0 = .ok (.aload_n 0, 1) := by decide +kernel
theorem d_jdk_2395_m_8_1 : decode jdk_2395_method_8_code 1 = .ok (.getfield 124, 3) := by decide +kernel
theorem d_jdk_2395_m_8_4 : decode jdk_2395_method_8_code 4 = .ok (.areturn, 1) := by decide +kernel
abbrev RM_rgn : Room := { frames := 0, cells := 0, slots := 0, locals := 0 }
theorem ef_rgn (m : MethodId) (x0 : Addr) : entryFrame m #[(.ref x0)] 1 = mkF m 0 #[.val (.ref x0)] [] := by first | (simp [entryFrame, mkF, argsToLocals, Value.category]; done) | rfl
set_option maxRecDepth 65536 in
set_option maxHeartbeats 40000000 in
theorem rm_rgn (l : Launch) (Z : State) (a0 : Array Value) (gM gY rY gD rD : Addr) (hX : Ctx Z a0) (hY : More Z gM gY rY gD rD) (n0 : Nat) (h0 : Heap) (O0 : Old Z n0 h0) (f : Addr) (r : Addr) (pf_0 : Fld Z h0 f "java/time/temporal/ChronoField" "range" "Ljava/time/temporal/ValueRange;" (.ref r)) (ws : List Jvm.Cond) : Met l Z EL1 n0 NoB (⟨"java/time/temporal/ChronoField", "range", "()Ljava/time/temporal/ValueRange;"⟩ : MethodName) jdk_2395_method_8_code 1 (Option.some (FieldType.object "java/time/temporal/ValueRange")) RM_rgn #[(.ref f)] h0 (Q_rgn Z f r h0 n0 NoB) ws := by
  have hX' := hX
  obtain ⟨hw, hE⟩ := hX'
  have hY' := hY
  obtain ⟨sM, xM, oM, sY, xY, fY, yY, iY, aY, sD, xD, fD, yD, iD, aD⟩ := hY'
  have hSA := sa_of hw
  have z0 : n0 ≤ h0.size := by rw [← O0.1]; exact O0.2.1
  refine Met.of (by decide +kernel) O0 hE ?_
  intro p e s m below meth c hx hby hml hret hlk hnm
  refine k_cast (ef_rgn m f) ?_
  show Run p l e _ s m _ below meth c Z EL1 _ n0 NoB h0 0 0 (mkF m 0 #[.val (.ref f)] []) _
  have lt_1 : @LT.lt Nat _ f (Array.size h0) := pf_0.lt
  refine k_pure (g' := (mkF m 1 #[.val (.ref f)] [(.ref f)])) (fun TT HH tt kk => XS.aloadN HH hx rfl (hb hby d_jdk_2395_m_8_0) rfl rfl kk) ?_
  refine k_getF hx (host := "") (Or.inl (hw _ (List.mem_of_getElem? (i := 23) rfl))) Via.refl pf_0 rfl rfl (hb hby d_jdk_2395_m_8_1) ?_
  show Run p l e _ s m _ below meth c Z EL1 _ n0 NoB h0 0 0 (mkF m 4 #[.val (.ref f)] [(.ref r)]) _
  exact k_retA hx hlk hret rfl rfl rfl (hb hby d_jdk_2395_m_8_4) (by decide) (by decide) ⟨rfl, rfl, rfl⟩
def Q_cfv (Z : State) (f : Addr) (r : Addr) (mn : Int64) (mx : Int64) (z : Int64) (h0 : Heap) (n0 : Nat) (bk : Addr → Prop) (v : Option Value) (h : Heap) (bk' : Addr → Prop) : Prop := v = some (.long z) ∧ h0 = h ∧ NoB = bk'
theorem d_jdk_2395_m_11_0 : decode jdk_2395_method_11_code 0 = .ok (.aload_n 0, 1) := by decide +kernel
theorem d_jdk_2395_m_11_1 : decode jdk_2395_method_11_code 1 = .ok (.invokevirtual 190, 3) := by decide +kernel
theorem pd__28__29_Ljava_2f_time_2f_temporal_2f_ValueRange_3b_ : parseMethodDescriptor "()Ljava/time/temporal/ValueRange;" = some ⟨[], some (.object "java/time/temporal/ValueRange")⟩ := by decide +kernel
theorem d_jdk_2395_m_11_4 : decode jdk_2395_method_11_code 4 = .ok (.lload_n 1, 1) := by decide +kernel
theorem d_jdk_2395_m_11_5 : decode jdk_2395_method_11_code 5 = .ok (.aload_n 0, 1) := by decide +kernel
theorem d_jdk_2395_m_11_6 : decode jdk_2395_method_11_code 6 = .ok (.invokevirtual 193, 3) := by decide +kernel
theorem pd__28_JLjava_2f_time_2f_temporal_2f_TemporalField_3b__29_J : parseMethodDescriptor "(JLjava/time/temporal/TemporalField;)J" = some ⟨[.long, (.object "java/time/temporal/TemporalField")], some .long⟩ := by decide +kernel
theorem d_jdk_2395_m_11_9 : decode jdk_2395_method_11_code 9 = .ok (.lreturn, 1) := by decide +kernel
abbrev RM_cfv : Room := { frames := 3, cells := 0, slots := 0, locals := 43 }
theorem ef_cfv (m : MethodId) (x0 : Addr) (x1 : Int64) : entryFrame m #[(.ref x0), (.long x1)] 3 = mkF m 0 #[.val (.ref x0), .val (.long x1), .second] [] := by first | (simp [entryFrame, mkF, argsToLocals, Value.category]; done) | rfl
set_option maxRecDepth 65536 in
set_option maxHeartbeats 40000000 in
theorem rm_cfv (l : Launch) (Z : State) (a0 : Array Value) (gM gY rY gD rD : Addr) (hX : Ctx Z a0) (hY : More Z gM gY rY gD rD) (n0 : Nat) (h0 : Heap) (O0 : Old Z n0 h0) (f : Addr) (r : Addr) (mn : Int64) (mx : Int64) (z : Int64) (pf_0 : Exa Z h0 f "java/time/temporal/ChronoField") (pf_1 : Fld Z h0 f "java/time/temporal/ChronoField" "range" "Ljava/time/temporal/ValueRange;" (.ref r)) (pf_2 : Exa Z h0 r "java/time/temporal/ValueRange") (pf_3 : Fld Z h0 r "java/time/temporal/ValueRange" "minSmallest" "J" (.long mn)) (pf_4 : Fld Z h0 r "java/time/temporal/ValueRange" "maxLargest" "J" (.long mx)) (h1 : ¬ z < mn) (h2 : ¬ mx < z) (ws : List Jvm.Cond) : Met l Z EL1 n0 NoB (⟨"java/time/temporal/ChronoField", "checkValidValue", "(J)J"⟩ : MethodName) jdk_2395_method_11_code 3 (Option.some FieldType.long) RM_cfv #[(.ref f), (.long z)] h0 (Q_cfv Z f r mn mx z h0 n0 NoB) ws := by
  have hX' := hX
  obtain ⟨hw, hE⟩ := hX'
  have hY' := hY
  obtain ⟨sM, xM, oM, sY, xY, fY, yY, iY, aY, sD, xD, fD, yD, iD, aD⟩ := hY'
  have hSA := sa_of hw
  have z0 : n0 ≤ h0.size := by rw [← O0.1]; exact O0.2.1
  refine Met.of (by decide +kernel) O0 hE ?_
  intro p e s m below meth c hx hby hml hret hlk hnm
  refine k_cast (ef_cfv m f z) ?_
  show Run p l e _ s m _ below meth c Z EL1 _ n0 NoB h0 0 0 (mkF m 0 #[.val (.ref f), .val (.long z), .second] []) _
  have lt_1 : @LT.lt Nat _ f (Array.size h0) := pf_0.lt
  have lt_2 : @LT.lt Nat _ f (Array.size h0) := pf_1.lt
  have lt_3 : @LT.lt Nat _ r (Array.size h0) := pf_2.lt
  have lt_4 : @LT.lt Nat _ r (Array.size h0) := pf_3.lt
  have lt_5 : @LT.lt Nat _ r (Array.size h0) := pf_4.lt
  refine k_pure (g' := (mkF m 1 #[.val (.ref f), .val (.long z), .second] [(.ref f)])) (fun TT HH tt kk => XS.aloadN HH hx rfl (hb hby d_jdk_2395_m_11_0) rfl rfl kk) ?_
  refine k_callV hx (y := (⟨"java/time/temporal/ChronoField", "range", "()Ljava/time/temporal/ValueRange;"⟩ : MethodName)) (z := (⟨"java/time/temporal/ChronoField", "range", "()Ljava/time/temporal/ValueRange;"⟩ : MethodName)) (hw _ (List.mem_of_getElem? (i := 18) rfl)) (hw _ (List.mem_of_getElem? (i := 19) rfl)) (fun s' hZ => notFace_of_selects (args := #[]) (mv hZ (hw _ (List.mem_of_getElem? (i := 21) rfl)))) (hw _ (List.mem_of_getElem? (i := 21) rfl)) (hw _ (List.mem_of_getElem? (i := 20) rfl)) (by decide) (W := 0) (a := f) (argsL := []) (rest := []) (Pays.of_met (rm_rgn l Z a0 gM gY rY gD rD hX hY n0 h0 O0 f r pf_1 []) (hw _ (List.mem_of_getElem? (i := 22) rfl)) (hw _ (List.mem_of_getElem? (i := 12) rfl)) (by decide) (by decide)) pf_0 rfl (by rw [hml]; rfl) (lenOf pd__28__29_Ljava_2f_time_2f_temporal_2f_ValueRange_3b_ rfl) rfl (by show 2 * 0 + _ ≤ _; exact Nat.le_of_eq rfl) (hb hby d_jdk_2395_m_11_1) (by decide) (by decide) ?_
  intro v_6 h_7 bk_8 O_9 z_10 Q_11
  obtain ⟨rfl, rfl, rfl⟩ := Q_11
  show Run p l e _ s m _ below meth c Z EL1 _ n0 NoB h0 0 0 (mkF m 4 #[.val (.ref f), .val (.long z), .second] [(.ref r)]) _
  refine k_pure (g' := (mkF m 5 #[.val (.ref f), .val (.long z), .second] [(.long z), (.ref r)])) (fun TT HH tt kk => XS.lloadN HH hx rfl (hb hby d_jdk_2395_m_11_4) rfl kk) ?_
  refine k_pure (g' := (mkF m 6 #[.val (.ref f), .val (.long z), .second] [(.ref f), (.long z), (.ref r)])) (fun TT HH tt kk => XS.aloadN HH hx rfl (hb hby d_jdk_2395_m_11_5) rfl rfl kk) ?_
  refine k_callV hx (y := (⟨"java/time/temporal/ValueRange", "checkValidValue", "(JLjava/time/temporal/TemporalField;)J"⟩ : MethodName)) (z := (⟨"java/time/temporal/ValueRange", "checkValidValue", "(JLjava/time/temporal/TemporalField;)J"⟩ : MethodName)) (hw _ (List.mem_of_getElem? (i := 25) rfl)) (hw _ (List.mem_of_getElem? (i := 26) rfl)) (fun s' hZ => notFace_of_selects (args := #[]) (mv hZ (hw _ (List.mem_of_getElem? (i := 28) rfl)))) (hw _ (List.mem_of_getElem? (i := 28) rfl)) (hw _ (List.mem_of_getElem? (i := 27) rfl)) (by decide) (W := 0) (a := r) (argsL := [(.long z), (.ref f)]) (rest := []) (Pays.of_met (rm_ckv l Z a0 gM gY rY gD rD hX hY n0 h0 O0 r mn mx z f pf_2 pf_3 pf_4 h1 h2 []) (hw _ (List.mem_of_getElem? (i := 30) rfl)) (hw _ (List.mem_of_getElem? (i := 29) rfl)) (by decide) (by decide)) pf_2 rfl (by rw [hml]; rfl) (lenOf pd__28_JLjava_2f_time_2f_temporal_2f_TemporalField_3b__29_J rfl) rfl (by show 2 * 0 + _ ≤ _; exact Nat.le_of_eq rfl) (hb hby d_jdk_2395_m_11_6) (by decide) (by decide) ?_
  intro v_12 h_13 bk_14 O_15 z_16 Q_17
  obtain ⟨rfl, rfl, rfl⟩ := Q_17
  show Run p l e _ s m _ below meth c Z EL1 _ n0 NoB h0 0 0 (mkF m 9 #[.val (.ref f), .val (.long z), .second] [(.long z)]) _
  exact k_retL hx hlk hret (hb hby d_jdk_2395_m_11_9) (by decide) (by decide) ⟨rfl, rfl, rfl⟩
def Q_ordi (Z : State) (k : Addr) (o : Int32) (h0 : Heap) (n0 : Nat) (bk : Addr → Prop) (v : Option Value) (h : Heap) (bk' : Addr → Prop) : Prop := v = some (.int o) ∧ h0 = h ∧ NoB = bk'
theorem d_jdk_37_m_2_0 : decode jdk_37_method_2_code 0 = .ok (.aload_n 0, 1) := by decide +kernel
theorem d_jdk_37_m_2_1 : decode jdk_37_method_2_code 1 = .ok (.getfield 7, 3) := by decide +kernel
theorem d_jdk_37_m_2_4 : decode jdk_37_method_2_code 4 = .ok (.ireturn, 1) := by decide +kernel
abbrev RM_ordi : Room := { frames := 0, cells := 0, slots := 0, locals := 0 }
theorem ef_ordi (m : MethodId) (x0 : Addr) : entryFrame m #[(.ref x0)] 1 = mkF m 0 #[.val (.ref x0)] [] := by first | (simp [entryFrame, mkF, argsToLocals, Value.category]; done) | rfl
set_option maxRecDepth 65536 in
set_option maxHeartbeats 40000000 in
theorem rm_ordi (l : Launch) (Z : State) (a0 : Array Value) (gM gY rY gD rD : Addr) (hX : Ctx Z a0) (hY : More Z gM gY rY gD rD) (n0 : Nat) (h0 : Heap) (O0 : Old Z n0 h0) (k : Addr) (o : Int32) (pf_0 : Fld Z h0 k "java/lang/Enum" "ordinal" "I" (.int o)) (ws : List Jvm.Cond) : Met l Z EL1 n0 NoB (⟨"java/lang/Enum", "ordinal", "()I"⟩ : MethodName) jdk_37_method_2_code 1 (Option.some FieldType.int) RM_ordi #[(.ref k)] h0 (Q_ordi Z k o h0 n0 NoB) ws := by
  have hX' := hX
  obtain ⟨hw, hE⟩ := hX'
  have hY' := hY
  obtain ⟨sM, xM, oM, sY, xY, fY, yY, iY, aY, sD, xD, fD, yD, iD, aD⟩ := hY'
  have hSA := sa_of hw
  have z0 : n0 ≤ h0.size := by rw [← O0.1]; exact O0.2.1
  refine Met.of (by decide +kernel) O0 hE ?_
  intro p e s m below meth c hx hby hml hret hlk hnm
  refine k_cast (ef_ordi m k) ?_
  show Run p l e _ s m _ below meth c Z EL1 _ n0 NoB h0 0 0 (mkF m 0 #[.val (.ref k)] []) _
  have lt_1 : @LT.lt Nat _ k (Array.size h0) := pf_0.lt
  refine k_pure (g' := (mkF m 1 #[.val (.ref k)] [(.ref k)])) (fun TT HH tt kk => XS.aloadN HH hx rfl (hb hby d_jdk_37_m_2_0) rfl rfl kk) ?_
  refine k_getF hx (host := "") (Or.inl (hw _ (List.mem_of_getElem? (i := 75) rfl))) Via.refl pf_0 rfl rfl (hb hby d_jdk_37_m_2_1) ?_
  show Run p l e _ s m _ below meth c Z EL1 _ n0 NoB h0 0 0 (mkF m 4 #[.val (.ref k)] [(.int o)]) _
  exact k_retI hx hlk hret (hb hby d_jdk_37_m_2_4) (by decide) (by decide) ⟨rfl, rfl, rfl⟩
def Q_gval (Z : State) (k : Addr) (o : Int32) (h0 : Heap) (n0 : Nat) (bk : Addr → Prop) (v : Option Value) (h : Heap) (bk' : Addr → Prop) : Prop := v = some (.int (o + (1 : Int32))) ∧ h0 = h ∧ NoB = bk'
theorem d_jdk_2329_m_6_0 : decode jdk_2329_method_6_code 0 = .ok (.aload_n 0, 1) := by decide +kernel
theorem d_jdk_2329_m_6_1 : decode jdk_2329_method_6_code 1 = .ok (.invokevirtual 141, 3) := by decide +kernel
theorem pd__28__29_I : parseMethodDescriptor "()I" = some ⟨[], some .int⟩ := by decide +kernel
theorem d_jdk_2329_m_6_4 : decode jdk_2329_method_6_code 4 = .ok (.iconst 1, 1) := by decide +kernel
theorem d_jdk_2329_m_6_5 : decode jdk_2329_method_6_code 5 = .ok (.iadd, 1) := by decide +kernel
theorem d_jdk_2329_m_6_6 : decode jdk_2329_method_6_code 6 = .ok (.ireturn, 1) := by decide +kernel
abbrev RM_gval : Room := { frames := 1, cells := 0, slots := 0, locals := 12 }
theorem ef_gval (m : MethodId) (x0 : Addr) : entryFrame m #[(.ref x0)] 1 = mkF m 0 #[.val (.ref x0)] [] := by first | (simp [entryFrame, mkF, argsToLocals, Value.category]; done) | rfl
set_option maxRecDepth 65536 in
set_option maxHeartbeats 40000000 in
theorem rm_gval (l : Launch) (Z : State) (a0 : Array Value) (gM gY rY gD rD : Addr) (hX : Ctx Z a0) (hY : More Z gM gY rY gD rD) (n0 : Nat) (h0 : Heap) (O0 : Old Z n0 h0) (k : Addr) (o : Int32) (pf_0 : Exa Z h0 k "java/time/Month") (pf_1 : Fld Z h0 k "java/lang/Enum" "ordinal" "I" (.int o)) (ws : List Jvm.Cond) : Met l Z EL1 n0 NoB (⟨"java/time/Month", "getValue", "()I"⟩ : MethodName) jdk_2329_method_6_code 1 (Option.some FieldType.int) RM_gval #[(.ref k)] h0 (Q_gval Z k o h0 n0 NoB) ws := by
  have hX' := hX
  obtain ⟨hw, hE⟩ := hX'
  have hY' := hY
  obtain ⟨sM, xM, oM, sY, xY, fY, yY, iY, aY, sD, xD, fD, yD, iD, aD⟩ := hY'
  have hSA := sa_of hw
  have z0 : n0 ≤ h0.size := by rw [← O0.1]; exact O0.2.1
  refine Met.of (by decide +kernel) O0 hE ?_
  intro p e s m below meth c hx hby hml hret hlk hnm
  refine k_cast (ef_gval m k) ?_
  show Run p l e _ s m _ below meth c Z EL1 _ n0 NoB h0 0 0 (mkF m 0 #[.val (.ref k)] []) _
  have lt_1 : @LT.lt Nat _ k (Array.size h0) := pf_0.lt
  have lt_2 : @LT.lt Nat _ k (Array.size h0) := pf_1.lt
  refine k_pure (g' := (mkF m 1 #[.val (.ref k)] [(.ref k)])) (fun TT HH tt kk => XS.aloadN HH hx rfl (hb hby d_jdk_2329_m_6_0) rfl rfl kk) ?_
  refine k_callU hx (y := (⟨"java/time/Month", "ordinal", "()I"⟩ : MethodName)) (z := (⟨"java/lang/Enum", "ordinal", "()I"⟩ : MethodName)) (hw _ (List.mem_of_getElem? (i := 68) rfl)) (hw _ (List.mem_of_getElem? (i := 69) rfl)) (hw _ (List.mem_of_getElem? (i := 70) rfl)) (by decide) (hw _ (List.mem_of_getElem? (i := 72) rfl)) (hw _ (List.mem_of_getElem? (i := 71) rfl)) (W := 0) (a := k) (argsL := []) (rest := []) (Pays.of_met (rm_ordi l Z a0 gM gY rY gD rD hX hY n0 h0 O0 k o pf_1 []) (hw _ (List.mem_of_getElem? (i := 74) rfl)) (hw _ (List.mem_of_getElem? (i := 73) rfl)) (by decide) (by decide)) pf_0 rfl (by rw [hml]; rfl) (lenOf pd__28__29_I rfl) rfl (by show 2 * 0 + _ ≤ _; exact Nat.le_of_eq rfl) (hb hby d_jdk_2329_m_6_1) (by decide) (by decide) ?_
  intro v_3 h_4 bk_5 O_6 z_7 Q_8
  obtain ⟨rfl, rfl, rfl⟩ := Q_8
  show Run p l e _ s m _ below meth c Z EL1 _ n0 NoB h0 0 0 (mkF m 4 #[.val (.ref k)] [(.int o)]) _
  refine k_pure (g' := (mkF m 5 #[.val (.ref k)] [(.int (1 : Int32)), (.int o)])) (fun TT HH tt kk => XS.iconst HH hx rfl (hb hby d_jdk_2329_m_6_4) kk) ?_
  refine k_pure (g' := (mkF m 6 #[.val (.ref k)] [(.int (o + (1 : Int32)))])) (fun TT HH tt kk => XS.iadd HH hx rfl (hb hby d_jdk_2329_m_6_5) rfl kk) ?_
  exact k_retI hx hlk hret (hb hby d_jdk_2329_m_6_6) (by decide) (by decide) ⟨rfl, rfl, rfl⟩
def Q_rnn (Z : State) (o : Addr) (q : Addr) (h0 : Heap) (n0 : Nat) (bk : Addr → Prop) (v : Option Value) (h : Heap) (bk' : Addr → Prop) : Prop := v = some (.ref o) ∧ h0 = h ∧ NoB = bk'
theorem d_jdk_31_m_11_0 : decode jdk_31_method_11_code 0 = .ok (.aload_n 0, 1) := by decide +kernel
theorem d_jdk_31_m_11_1 : decode jdk_31_method_11_code 1 = .ok (.ifnonnull 12, 3) := by decide +kernel
theorem d_jdk_31_m_11_13 : decode jdk_31_method_11_code 13 = .ok (.aload_n 0, 1) := by decide +kernel
theorem d_jdk_31_m_11_14 : decode jdk_31_method_11_code 14 = .ok (.areturn, 1) := by decide +kernel
abbrev RM_rnn : Room := { frames := 0, cells := 0, slots := 0, locals := 0 }
theorem ef_rnn (m : MethodId) (x0 : Addr) (x1 : Addr) : entryFrame m #[(.ref x0), (.ref x1)] 2 = mkF m 0 #[.val (.ref x0), .val (.ref x1)] [] := by first | (simp [entryFrame, mkF, argsToLocals, Value.category]; done) | rfl
set_option maxRecDepth 65536 in
set_option maxHeartbeats 40000000 in
theorem rm_rnn (l : Launch) (Z : State) (a0 : Array Value) (gM gY rY gD rD : Addr) (hX : Ctx Z a0) (hY : More Z gM gY rY gD rD) (n0 : Nat) (h0 : Heap) (O0 : Old Z n0 h0) (o : Addr) (q : Addr)  (ws : List Jvm.Cond) : Met l Z EL1 n0 NoB (⟨"java/util/Objects", "requireNonNull", "(Ljava/lang/Object;Ljava/lang/String;)Ljava/lang/Object;"⟩ : MethodName) jdk_31_method_11_code 2 (Option.some (FieldType.object "java/lang/Object")) RM_rnn #[(.ref o), (.ref q)] h0 (Q_rnn Z o q h0 n0 NoB) ws := by
  have hX' := hX
  obtain ⟨hw, hE⟩ := hX'
  have hY' := hY
  obtain ⟨sM, xM, oM, sY, xY, fY, yY, iY, aY, sD, xD, fD, yD, iD, aD⟩ := hY'
  have hSA := sa_of hw
  have z0 : n0 ≤ h0.size := by rw [← O0.1]; exact O0.2.1
  refine Met.of (by decide +kernel) O0 hE ?_
  intro p e s m below meth c hx hby hml hret hlk hnm
  refine k_cast (ef_rnn m o q) ?_
  show Run p l e _ s m _ below meth c Z EL1 _ n0 NoB h0 0 0 (mkF m 0 #[.val (.ref o), .val (.ref q)] []) _
  refine k_pure (g' := (mkF m 1 #[.val (.ref o), .val (.ref q)] [(.ref o)])) (fun TT HH tt kk => XS.aloadN HH hx rfl (hb hby d_jdk_31_m_11_0) rfl rfl kk) ?_
  refine k_pure (g' := (mkF m 13 #[.val (.ref o), .val (.ref q)] [])) (fun TT HH tt kk => XS.ifnonnullYes HH hx rfl (pc0 := 1) (pc' := 13) rfl (hb hby d_jdk_31_m_11_1) rfl (by decide) (by decide) kk) ?_
  refine k_pure (g' := (mkF m 14 #[.val (.ref o), .val (.ref q)] [(.ref o)])) (fun TT HH tt kk => XS.aloadN HH hx rfl (hb hby d_jdk_31_m_11_13) rfl rfl kk) ?_
  exact k_retA hx hlk hret rfl rfl rfl (hb hby d_jdk_31_m_11_14) (by decide) (by decide) ⟨rfl, rfl, rfl⟩
def Q_ini (Z : State) (x : Addr) (yy : Int32) (mm : Int32) (dd : Int32) (h0 : Heap) (n0 : Nat) (bk : Addr → Prop) (v : Option Value) (h : Heap) (bk' : Addr → Prop) : Prop := v = none ∧ NoB = bk' ∧ Keep h0 h [x] ∧ (Exa Z h x "java/time/LocalDate") ∧ (Fld Z h x "java/time/LocalDate" "year" "I" (.int yy)) ∧ (Fld Z h x "java/time/LocalDate" "month" "S" (.int mm)) ∧ (Fld Z h x "java/time/LocalDate" "day" "S" (.int dd))
theorem d_jdk_2323_m_14_0 : decode jdk_2323_method_14_code 0 = .ok (.aload_n 0, 1) := by decide +kernel
theorem d_jdk_2323_m_14_1 : decode jdk_2323_method_14_code 1 = .ok (.invokespecial 243, 3) := by decide +kernel
theorem d_jdk_2323_m_14_4 : decode jdk_2323_method_14_code 4 = .ok (.aload_n 0, 1) := by decide +kernel
theorem d_jdk_2323_m_14_5 : decode jdk_2323_method_14_code 5 = .ok (.iload_n 1, 1) := by decide +kernel
theorem d_jdk_2323_m_14_6 : decode jdk_2323_method_14_code 6 = .ok (.putfield 246, 3) := by decide +kernel
theorem d_jdk_2323_m_14_9 : decode jdk_2323_method_14_code 9 = .ok (.aload_n 0, 1) := by decide +kernel
theorem d_jdk_2323_m_14_10 : decode jdk_2323_method_14_code 10 = .ok (.iload_n 2, 1) := by decide +kernel
theorem d_jdk_2323_m_14_11 : decode jdk_2323_method_14_code 11 = .ok (.i2s, 1) := by decide +kernel
theorem d_jdk_2323_m_14_12 : decode jdk_2323_method_14_code 12 = .ok (.putfield 250, 3) := by decide +kernel
theorem d_jdk_2323_m_14_15 : decode jdk_2323_method_14_code 15 = .ok (.aload_n 0, 1) := by decide +kernel
theorem d_jdk_2323_m_14_16 : decode jdk_2323_method_14_code 16 = .ok (.iload_n 3, 1) := by decide +kernel
theorem d_jdk_2323_m_14_17 : decode jdk_2323_method_14_code 17 = .ok (.i2s, 1) := by decide +kernel
theorem d_jdk_2323_m_14_18 : decode jdk_2323_method_14_code 18 = .ok (.putfield 253, 3) := by decide +kernel
theorem d_jdk_2323_m_14_21 : decode jdk_2323_method_14_code 21 = .ok (.return_, 1) := by decide +kernel
abbrev RM_ini : Room := { frames := 1, cells := 0, slots := 0, locals := 12 }
theorem ef_ini (m : MethodId) (x0 : Addr) (x1 : Int32) (x2 : Int32) (x3 : Int32) : entryFrame m #[(.ref x0), (.int x1), (.int x2), (.int x3)] 4 = mkF m 0 #[.val (.ref x0), .val (.int x1), .val (.int x2), .val (.int x3)] [] := by first | (simp [entryFrame, mkF, argsToLocals, Value.category]; done) | rfl
set_option maxRecDepth 65536 in
set_option maxHeartbeats 40000000 in
theorem rm_ini (l : Launch) (Z : State) (a0 : Array Value) (gM gY rY gD rD : Addr) (hX : Ctx Z a0) (hY : More Z gM gY rY gD rD) (n0 : Nat) (h0 : Heap) (O0 : Old Z n0 h0) (x : Addr) (yy : Int32) (mm : Int32) (dd : Int32) (pf_0 : Exa Z h0 x "java/time/LocalDate") (pf_1 : Fld Z h0 x "java/time/LocalDate" "year" "I" (.int (0 : Int32))) (pf_2 : Fld Z h0 x "java/time/LocalDate" "month" "S" (.int (0 : Int32))) (pf_3 : Fld Z h0 x "java/time/LocalDate" "day" "S" (.int (0 : Int32))) (gx : n0 ≤ x) (em : mm.toInt16.toInt32 = mm) (ed : dd.toInt16.toInt32 = dd) (ws : List Jvm.Cond) : Met l Z EL1 n0 NoB (⟨"java/time/LocalDate", "<init>", "(III)V"⟩ : MethodName) jdk_2323_method_14_code 4 (Option.none : Option FieldType) RM_ini #[(.ref x), (.int yy), (.int mm), (.int dd)] h0 (Q_ini Z x yy mm dd h0 n0 NoB) ws := by
  have hX' := hX
  obtain ⟨hw, hE⟩ := hX'
  have hY' := hY
  obtain ⟨sM, xM, oM, sY, xY, fY, yY, iY, aY, sD, xD, fD, yD, iD, aD⟩ := hY'
  have hSA := sa_of hw
  have z0 : n0 ≤ h0.size := by rw [← O0.1]; exact O0.2.1
  refine Met.of (by decide +kernel) O0 hE ?_
  intro p e s m below meth c hx hby hml hret hlk hnm
  refine k_cast (ef_ini m x yy mm dd) ?_
  show Run p l e _ s m _ below meth c Z EL1 _ n0 NoB h0 0 0 (mkF m 0 #[.val (.ref x), .val (.int yy), .val (.int mm), .val (.int dd)] []) _
  have lt_1 : @LT.lt Nat _ x (Array.size h0) := pf_0.lt
  have lt_2 : @LT.lt Nat _ x (Array.size h0) := pf_1.lt
  have lt_3 : @LT.lt Nat _ x (Array.size h0) := pf_2.lt
  have lt_4 : @LT.lt Nat _ x (Array.size h0) := pf_3.lt
  refine k_pure (g' := (mkF m 1 #[.val (.ref x), .val (.int yy), .val (.int mm), .val (.int dd)] [(.ref x)])) (fun TT HH tt kk => XS.aloadN HH hx rfl (hb hby d_jdk_2323_m_14_0) rfl rfl kk) ?_
  refine k_initO hx (hw _ (List.mem_of_getElem? (i := 86) rfl)) (hw _ (List.mem_of_getElem? (i := 87) rfl)) (hw _ (List.mem_of_getElem? (i := 88) rfl)) rfl (by rw [hml]; rfl) rfl (hb hby d_jdk_2323_m_14_1) (by decide) (W := 0) (by show 2 * 0 + _ ≤ _; exact Nat.le_of_eq rfl) (by decide) ?_
  show Run p l e _ s m _ below meth c Z EL1 _ n0 NoB h0 0 0 (mkF m 4 #[.val (.ref x), .val (.int yy), .val (.int mm), .val (.int dd)] []) _
  refine k_pure (g' := (mkF m 5 #[.val (.ref x), .val (.int yy), .val (.int mm), .val (.int dd)] [(.ref x)])) (fun TT HH tt kk => XS.aloadN HH hx rfl (hb hby d_jdk_2323_m_14_4) rfl rfl kk) ?_
  refine k_pure (g' := (mkF m 6 #[.val (.ref x), .val (.int yy), .val (.int mm), .val (.int dd)] [(.int yy), (.ref x)])) (fun TT HH tt kk => XS.iloadN HH hx rfl (hb hby d_jdk_2323_m_14_5) rfl kk) ?_
  refine k_putF hx (host := "") (Or.inl (hw _ (List.mem_of_getElem? (i := 89) rfl))) Via.refl pf_1 pf_0 (Or.inr ⟨(hw _ (List.mem_of_getElem? (i := 90) rfl)), rfl, hnm⟩) (hw _ (List.mem_of_getElem? (i := 81) rfl)) (ty := .int) (by decide) rfl rfl (by omega) (fun q => q) rfl rfl (hb hby d_jdk_2323_m_14_6) ?_
  intro h_5 O_7 W_6
  have z_8 := W_6.size
  show Run p l e _ s m _ below meth c Z EL1 _ n0 NoB h_5 0 0 (mkF m 9 #[.val (.ref x), .val (.int yy), .val (.int mm), .val (.int dd)] []) _
  refine k_pure (g' := (mkF m 10 #[.val (.ref x), .val (.int yy), .val (.int mm), .val (.int dd)] [(.ref x)])) (fun TT HH tt kk => XS.aloadN HH hx rfl (hb hby d_jdk_2323_m_14_9) rfl rfl kk) ?_
  refine k_pure (g' := (mkF m 11 #[.val (.ref x), .val (.int yy), .val (.int mm), .val (.int dd)] [(.int mm), (.ref x)])) (fun TT HH tt kk => XS.iloadN HH hx rfl (hb hby d_jdk_2323_m_14_10) rfl kk) ?_
  refine k_pure (g' := (mkF m 12 #[.val (.ref x), .val (.int yy), .val (.int mm), .val (.int dd)] [(.int (mm.toInt16.toInt32)), (.ref x)])) (fun TT HH tt kk => XS.i2s HH hx rfl (hb hby d_jdk_2323_m_14_11) rfl kk) ?_
  rw [em]
  show Run p l e _ s m _ below meth c Z EL1 _ n0 NoB h_5 0 0 (mkF m 12 #[.val (.ref x), .val (.int yy), .val (.int mm), .val (.int dd)] [(.int mm), (.ref x)]) _
  have F_9 : Fld Z h_5 x "java/time/LocalDate" "month" "S" (.int (0 : Int32)) := (pf_2.other W_6 (Or.inr (RoadKit.slot_ne (C := "java/time/LocalDate") (Or.inr (hw _ (List.mem_of_getElem? (i := 92) rfl))) (Or.inr (hw _ (List.mem_of_getElem? (i := 90) rfl))) (by decide) (t := .short) (t' := .int) (by decide) (by decide))))
  have F_10 : Exa Z h_5 x "java/time/LocalDate" := (pf_0.wr W_6)
  refine k_putF hx (host := "") (Or.inl (hw _ (List.mem_of_getElem? (i := 91) rfl))) Via.refl F_9 F_10 (Or.inr ⟨(hw _ (List.mem_of_getElem? (i := 92) rfl)), rfl, hnm⟩) (hw _ (List.mem_of_getElem? (i := 81) rfl)) (ty := .short) (by decide) (nar_s em) (fit_s em) (by omega) (fun q => q) rfl rfl (hb hby d_jdk_2323_m_14_12) ?_
  intro h_11 O_13 W_12
  have z_14 := W_12.size
  show Run p l e _ s m _ below meth c Z EL1 _ n0 NoB h_11 0 0 (mkF m 15 #[.val (.ref x), .val (.int yy), .val (.int mm), .val (.int dd)] []) _
  refine k_pure (g' := (mkF m 16 #[.val (.ref x), .val (.int yy), .val (.int mm), .val (.int dd)] [(.ref x)])) (fun TT HH tt kk => XS.aloadN HH hx rfl (hb hby d_jdk_2323_m_14_15) rfl rfl kk) ?_
  refine k_pure (g' := (mkF m 17 #[.val (.ref x), .val (.int yy), .val (.int mm), .val (.int dd)] [(.int dd), (.ref x)])) (fun TT HH tt kk => XS.iloadN HH hx rfl (hb hby d_jdk_2323_m_14_16) rfl kk) ?_
  refine k_pure (g' := (mkF m 18 #[.val (.ref x), .val (.int yy), .val (.int mm), .val (.int dd)] [(.int (dd.toInt16.toInt32)), (.ref x)])) (fun TT HH tt kk => XS.i2s HH hx rfl (hb hby d_jdk_2323_m_14_17) rfl kk) ?_
  rw [ed]
  show Run p l e _ s m _ below meth c Z EL1 _ n0 NoB h_11 0 0 (mkF m 18 #[.val (.ref x), .val (.int yy), .val (.int mm), .val (.int dd)] [(.int dd), (.ref x)]) _
  have F_15 : Fld Z h_11 x "java/time/LocalDate" "day" "S" (.int (0 : Int32)) := ((pf_3.other W_6 (Or.inr (RoadKit.slot_ne (C := "java/time/LocalDate") (Or.inr (hw _ (List.mem_of_getElem? (i := 94) rfl))) (Or.inr (hw _ (List.mem_of_getElem? (i := 90) rfl))) (by decide) (t := .short) (t' := .int) (by decide) (by decide)))).other W_12 (Or.inr (RoadKit.slot_ne (C := "java/time/LocalDate") (Or.inr (hw _ (List.mem_of_getElem? (i := 94) rfl))) (Or.inr (hw _ (List.mem_of_getElem? (i := 92) rfl))) (by decide) (t := .short) (t' := .short) (by decide) (by decide))))
  have F_16 : Exa Z h_11 x "java/time/LocalDate" := (F_10.wr W_12)
  refine k_putF hx (host := "") (Or.inl (hw _ (List.mem_of_getElem? (i := 93) rfl))) Via.refl F_15 F_16 (Or.inr ⟨(hw _ (List.mem_of_getElem? (i := 94) rfl)), rfl, hnm⟩) (hw _ (List.mem_of_getElem? (i := 81) rfl)) (ty := .short) (by decide) (nar_s ed) (fit_s ed) (by omega) (fun q => q) rfl rfl (hb hby d_jdk_2323_m_14_18) ?_
  intro h_17 O_19 W_18
  have z_20 := W_18.size
  show Run p l e _ s m _ below meth c Z EL1 _ n0 NoB h_17 0 0 (mkF m 21 #[.val (.ref x), .val (.int yy), .val (.int mm), .val (.int dd)] []) _
  have F_21 : Exa Z h_17 x "java/time/LocalDate" := (F_16.wr W_18)
  have F_22 : Fld Z h_17 x "java/time/LocalDate" "year" "I" (.int yy) := (((pf_1.same W_6).other W_12 (Or.inr (RoadKit.slot_ne (C := "java/time/LocalDate") (Or.inr (hw _ (List.mem_of_getElem? (i := 90) rfl))) (Or.inr (hw _ (List.mem_of_getElem? (i := 92) rfl))) (by decide) (t := .int) (t' := .short) (by decide) (by decide)))).other W_18 (Or.inr (RoadKit.slot_ne (C := "java/time/LocalDate") (Or.inr (hw _ (List.mem_of_getElem? (i := 90) rfl))) (Or.inr (hw _ (List.mem_of_getElem? (i := 94) rfl))) (by decide) (t := .int) (t' := .short) (by decide) (by decide))))
  have F_23 : Fld Z h_17 x "java/time/LocalDate" "month" "S" (.int mm) := ((F_9.same W_12).other W_18 (Or.inr (RoadKit.slot_ne (C := "java/time/LocalDate") (Or.inr (hw _ (List.mem_of_getElem? (i := 92) rfl))) (Or.inr (hw _ (List.mem_of_getElem? (i := 94) rfl))) (by decide) (t := .short) (t' := .short) (by decide) (by decide))))
  exact k_ret0 hx hlk hret (hb hby d_jdk_2323_m_14_21) (by decide) (by decide) ⟨rfl, rfl, ((((Keep.refl _ _).wr W_6 (Or.inl (by simp))).wr W_12 (Or.inl (by simp))).wr W_18 (Or.inl (by simp))), F_21, F_22, F_23, (F_15.same W_18)⟩
def Q_crt (Z : State) (yy : Int32) (mm : Int32) (dd : Int32) (h0 : Heap) (n0 : Nat) (bk : Addr → Prop) (v : Option Value) (h : Heap) (bk' : Addr → Prop) : Prop := ∃ (x : Addr), v = some (.ref x) ∧ NoB = bk' ∧ Keep h0 h [] ∧ (Exa Z h x "java/time/LocalDate") ∧ (Fld Z h x "java/time/LocalDate" "year" "I" (.int yy)) ∧ (Fld Z h x "java/time/LocalDate" "month" "S" (.int mm)) ∧ (Fld Z h x "java/time/LocalDate" "day" "S" (.int dd)) ∧ (h0.size ≤ x)
theorem d_jdk_2323_m_12_0 : decode jdk_2323_method_12_code 0 = .ok (.iload_n 2, 1) := by decide +kernel
theorem d_jdk_2323_m_12_1 : decode jdk_2323_method_12_code 1 = .ok (.bipush 28, 2) := by decide +kernel
theorem d_jdk_2323_m_12_3 : decode jdk_2323_method_12_code 3 = .ok (.if_icmp .le 176, 3) := by decide +kernel
theorem d_jdk_2323_m_12_179 : decode jdk_2323_method_12_code 179 = .ok (.new 1, 3) := by decide +kernel
theorem d_jdk_2323_m_12_182 : decode jdk_2323_method_12_code 182 = .ok (.dup, 1) := by decide +kernel
theorem d_jdk_2323_m_12_183 : decode jdk_2323_method_12_code 183 = .ok (.iload_n 0, 1) := by decide +kernel
theorem d_jdk_2323_m_12_184 : decode jdk_2323_method_12_code 184 = .ok (.iload_n 1, 1) := by decide +kernel
theorem d_jdk_2323_m_12_185 : decode jdk_2323_method_12_code 185 = .ok (.iload_n 2, 1) := by decide +kernel
theorem d_jdk_2323_m_12_186 : decode jdk_2323_method_12_code 186 = .ok (.invokespecial 121, 3) := by decide +kernel
theorem pd__28_III_29_V : parseMethodDescriptor "(III)V" = some ⟨[.int, .int, .int], none⟩ := by decide +kernel
theorem d_jdk_2323_m_12_189 : decode jdk_2323_method_12_code 189 = .ok (.areturn, 1) := by decide +kernel
abbrev RM_crt : Room := { frames := 2, cells := 1, slots := 3, locals := 28 }
theorem ef_crt (m : MethodId) (x0 : Int32) (x1 : Int32) (x2 : Int32) : entryFrame m #[(.int x0), (.int x1), (.int x2)] 4 = mkF m 0 #[.val (.int x0), .val (.int x1), .val (.int x2), .unset] [] := by first | (simp [entryFrame, mkF, argsToLocals, Value.category]; done) | rfl
set_option maxRecDepth 65536 in
set_option maxHeartbeats 40000000 in
theorem rm_crt (l : Launch) (Z : State) (a0 : Array Value) (gM gY rY gD rD : Addr) (hX : Ctx Z a0) (hY : More Z gM gY rY gD rD) (n0 : Nat) (h0 : Heap) (O0 : Old Z n0 h0) (yy : Int32) (mm : Int32) (dd : Int32) (em : mm.toInt16.toInt32 = mm) (ed : dd.toInt16.toInt32 = dd) (h28 : ¬ (28 : Int32) < dd) (ws : List Jvm.Cond) : Met l Z EL1 n0 NoB (⟨"java/time/LocalDate", "create", "(III)Ljava/time/LocalDate;"⟩ : MethodName) jdk_2323_method_12_code 4 (Option.some (FieldType.object "java/time/LocalDate")) RM_crt #[(.int yy), (.int mm), (.int dd)] h0 (Q_crt Z yy mm dd h0 n0 NoB) ws := by
  have hX' := hX
  obtain ⟨hw, hE⟩ := hX'
  have hY' := hY
  obtain ⟨sM, xM, oM, sY, xY, fY, yY, iY, aY, sD, xD, fD, yD, iD, aD⟩ := hY'
  have hSA := sa_of hw
  have z0 : n0 ≤ h0.size := by rw [← O0.1]; exact O0.2.1
  refine Met.of (by decide +kernel) O0 hE ?_
  intro p e s m below meth c hx hby hml hret hlk hnm
  refine k_cast (ef_crt m yy mm dd) ?_
  show Run p l e _ s m _ below meth c Z EL1 _ n0 NoB h0 0 0 (mkF m 0 #[.val (.int yy), .val (.int mm), .val (.int dd), .unset] []) _
  refine k_pure (g' := (mkF m 1 #[.val (.int yy), .val (.int mm), .val (.int dd), .unset] [(.int dd)])) (fun TT HH tt kk => XS.iloadN HH hx rfl (hb hby d_jdk_2323_m_12_0) rfl kk) ?_
  refine k_pure (g' := (mkF m 3 #[.val (.int yy), .val (.int mm), .val (.int dd), .unset] [(.int (28 : Int32)), (.int dd)])) (fun TT HH tt kk => XS.bipush HH hx rfl (hb hby d_jdk_2323_m_12_1) kk) ?_
  refine k_pure (g' := (mkF m 179 #[.val (.int yy), .val (.int mm), .val (.int dd), .unset] [])) (fun TT HH tt kk => XS.icmpYes HH hx rfl (pc0 := 3) (pc' := 179) rfl (hb hby d_jdk_2323_m_12_3) rfl (flt h28).2.2.2 (by decide) (by decide) kk) ?_
  refine k_newO hx (hw _ (List.mem_of_getElem? (i := 80) rfl)) (hw _ (List.mem_of_getElem? (i := 81) rfl)) (hw _ (List.mem_of_getElem? (i := 9) rfl)) rfl (hb hby d_jdk_2323_m_12_179) (by decide) (by decide) ?_
  intro h_2 a_1 g_8 O_3 E_4 A_5 D_6 U_7
  have z_9 := E_4.1
  have lt_10 : @LT.lt Nat _ a_1 (Array.size h_2) := A_5.lt
  show Run p l e _ s m _ below meth c Z EL1 _ n0 NoB h_2 1 3 (mkF m 182 #[.val (.int yy), .val (.int mm), .val (.int dd), .unset] [(.ref a_1)]) _
  refine k_pure (g' := (mkF m 183 #[.val (.int yy), .val (.int mm), .val (.int dd), .unset] [(.ref a_1), (.ref a_1)])) (fun TT HH tt kk => XS.dup HH hx rfl (hb hby d_jdk_2323_m_12_182) rfl rfl kk) ?_
  refine k_pure (g' := (mkF m 184 #[.val (.int yy), .val (.int mm), .val (.int dd), .unset] [(.int yy), (.ref a_1), (.ref a_1)])) (fun TT HH tt kk => XS.iloadN HH hx rfl (hb hby d_jdk_2323_m_12_183) rfl kk) ?_
  refine k_pure (g' := (mkF m 185 #[.val (.int yy), .val (.int mm), .val (.int dd), .unset] [(.int mm), (.int yy), (.ref a_1), (.ref a_1)])) (fun TT HH tt kk => XS.iloadN HH hx rfl (hb hby d_jdk_2323_m_12_184) rfl kk) ?_
  refine k_pure (g' := (mkF m 186 #[.val (.int yy), .val (.int mm), .val (.int dd), .unset] [(.int dd), (.int mm), (.int yy), (.ref a_1), (.ref a_1)])) (fun TT HH tt kk => XS.iloadN HH hx rfl (hb hby d_jdk_2323_m_12_185) rfl kk) ?_
  refine k_callI hx (y := (⟨"java/time/LocalDate", "<init>", "(III)V"⟩ : MethodName)) rfl (hw _ (List.mem_of_getElem? (i := 82) rfl)) (hw _ (List.mem_of_getElem? (i := 83) rfl)) (hw _ (List.mem_of_getElem? (i := 85) rfl)) (by decide) (W := 1) (a := a_1) (argsL := [(.int yy), (.int mm), (.int dd)]) (rest := [(.ref a_1)]) (Pays.of_met (rm_ini l Z a0 gM gY rY gD rD hX hY n0 h_2 O_3 a_1 yy mm dd A_5 (D_6 (Or.inr (hw _ (List.mem_of_getElem? (i := 90) rfl))) (ty := .int) (by decide)) (D_6 (Or.inr (hw _ (List.mem_of_getElem? (i := 92) rfl))) (ty := .short) (by decide)) (D_6 (Or.inr (hw _ (List.mem_of_getElem? (i := 94) rfl))) (ty := .short) (by decide)) (by omega) em ed []) (hw _ (List.mem_of_getElem? (i := 85) rfl)) (hw _ (List.mem_of_getElem? (i := 9) rfl)) (by decide) (by decide)) rfl (by rw [hml]; rfl) (lenOf pd__28_III_29_V rfl) rfl (by show 2 * 0 + _ ≤ _; exact Nat.le_of_eq rfl) (hb hby d_jdk_2323_m_12_186) (by decide) (by decide) ?_
  intro v_11 h_12 bk_13 O_14 z_15 Q_16
  obtain ⟨rfl, rfl, K_17, F_18, F_19, F_20, F_21⟩ := Q_16
  have lt_22 : @LT.lt Nat _ a_1 (Array.size h_12) := F_18.lt
  have lt_23 : @LT.lt Nat _ a_1 (Array.size h_12) := F_19.lt
  have lt_24 : @LT.lt Nat _ a_1 (Array.size h_12) := F_20.lt
  have lt_25 : @LT.lt Nat _ a_1 (Array.size h_12) := F_21.lt
  show Run p l e _ s m _ below meth c Z EL1 _ n0 NoB h_12 1 3 (mkF m 189 #[.val (.int yy), .val (.int mm), .val (.int dd), .unset] [(.ref a_1)]) _
  exact k_retA hx hlk hret rfl rfl rfl (hb hby d_jdk_2323_m_12_189) (by decide) (by decide) ⟨_, rfl, rfl, (((Keep.refl _ _).ext E_4).trans K_17 (kkS (Or.inr (by omega)) kk0)), F_18, F_19, F_20, F_21, (by omega)⟩
def Q_of (Z : State) (yy : Int32) (h0 : Heap) (n0 : Nat) (bk : Addr → Prop) (v : Option Value) (h : Heap) (bk' : Addr → Prop) : Prop := ∃ (x : Addr), v = some (.ref x) ∧ NoB = bk' ∧ Keep h0 h [] ∧ (Exa Z h x "java/time/LocalDate") ∧ (Fld Z h x "java/time/LocalDate" "year" "I" (.int yy)) ∧ (Fld Z h x "java/time/LocalDate" "month" "S" (.int (3 : Int32))) ∧ (Fld Z h x "java/time/LocalDate" "day" "S" (.int (22 : Int32))) ∧ (h0.size ≤ x)
theorem d_jdk_2323_m_4_0 : decode jdk_2323_method_4_code 0 = .ok (.getstatic 39, 3) := by decide +kernel
theorem d_jdk_2323_m_4_3 : decode jdk_2323_method_4_code 3 = .ok (.iload_n 0, 1) := by decide +kernel
theorem d_jdk_2323_m_4_4 : decode jdk_2323_method_4_code 4 = .ok (.i2l, 1) := by decide +kernel
theorem d_jdk_2323_m_4_5 : decode jdk_2323_method_4_code 5 = .ok (.invokevirtual 45, 3) := by decide +kernel
theorem pd__28_J_29_J : parseMethodDescriptor "(J)J" = some ⟨[.long], some .long⟩ := by decide +kernel
theorem d_jdk_2323_m_4_8 : decode jdk_2323_method_4_code 8 = .ok (.pop2, 1) := by decide +kernel
theorem d_jdk_2323_m_4_9 : decode jdk_2323_method_4_code 9 = .ok (.aload_n 1, 1) := by decide +kernel
theorem d_jdk_2323_m_4_10 : decode jdk_2323_method_4_code 10 = .ok (.ldc 49, 2) := by decide +kernel
theorem d_jdk_2323_m_4_12 : decode jdk_2323_method_4_code 12 = .ok (.invokestatic 21, 3) := by decide +kernel
theorem pd__28_Ljava_2f_lang_2f_Object_3b_Ljava_2f_lang_2f_String_3b__29_Ljava_2f_lang_2f_Object_3b_ : parseMethodDescriptor "(Ljava/lang/Object;Ljava/lang/String;)Ljava/lang/Object;" = some ⟨[(.object "java/lang/Object"), (.object "java/lang/String")], some (.object "java/lang/Object")⟩ := by decide +kernel
theorem d_jdk_2323_m_4_15 : decode jdk_2323_method_4_code 15 = .ok (.pop, 1) := by decide +kernel
theorem d_jdk_2323_m_4_16 : decode jdk_2323_method_4_code 16 = .ok (.getstatic 51, 3) := by decide +kernel
theorem d_jdk_2323_m_4_19 : decode jdk_2323_method_4_code 19 = .ok (.iload_n 2, 1) := by decide +kernel
theorem d_jdk_2323_m_4_20 : decode jdk_2323_method_4_code 20 = .ok (.i2l, 1) := by decide +kernel
theorem d_jdk_2323_m_4_21 : decode jdk_2323_method_4_code 21 = .ok (.invokevirtual 45, 3) := by decide +kernel
theorem d_jdk_2323_m_4_24 : decode jdk_2323_method_4_code 24 = .ok (.pop2, 1) := by decide +kernel
theorem d_jdk_2323_m_4_25 : decode jdk_2323_method_4_code 25 = .ok (.iload_n 0, 1) := by decide +kernel
theorem d_jdk_2323_m_4_26 : decode jdk_2323_method_4_code 26 = .ok (.aload_n 1, 1) := by decide +kernel
theorem d_jdk_2323_m_4_27 : decode jdk_2323_method_4_code 27 = .ok (.invokevirtual 54, 3) := by decide +kernel
theorem d_jdk_2323_m_4_30 : decode jdk_2323_method_4_code 30 = .ok (.iload_n 2, 1) := by decide +kernel
theorem d_jdk_2323_m_4_31 : decode jdk_2323_method_4_code 31 = .ok (.invokestatic 60, 3) := by decide +kernel
theorem pd__28_III_29_Ljava_2f_time_2f_LocalDate_3b_ : parseMethodDescriptor "(III)Ljava/time/LocalDate;" = some ⟨[.int, .int, .int], some (.object "java/time/LocalDate")⟩ := by decide +kernel
theorem d_jdk_2323_m_4_34 : decode jdk_2323_method_4_code 34 = .ok (.areturn, 1) := by decide +kernel
abbrev RM_of : Room := { frames := 4, cells := 3, slots := 27, locals := 57 }
theorem ef_of (m : MethodId) (x0 : Int32) (x1 : Addr) (x2 : Int32) : entryFrame m #[(.int x0), (.ref x1), (.int x2)] 3 = mkF m 0 #[.val (.int x0), .val (.ref x1), .val (.int x2)] [] := by first | (simp [entryFrame, mkF, argsToLocals, Value.category]; done) | rfl
set_option maxRecDepth 65536 in
set_option maxHeartbeats 40000000 in
theorem rm_of (l : Launch) (Z : State) (a0 : Array Value) (gM gY rY gD rD : Addr) (hX : Ctx Z a0) (hY : More Z gM gY rY gD rD) (n0 : Nat) (h0 : Heap) (O0 : Old Z n0 h0) (yy : Int32) (y1 : 0 ≤ yy.toInt) (y2 : yy.toInt ≤ 5000) (ws : List Jvm.Cond) : Met l Z EL1 n0 NoB (⟨"java/time/LocalDate", "of", "(ILjava/time/Month;I)Ljava/time/LocalDate;"⟩ : MethodName) jdk_2323_method_4_code 3 (Option.some (FieldType.object "java/time/LocalDate")) RM_of #[(.int yy), (.ref gM), (.int (22 : Int32))] h0 (Q_of Z yy h0 n0 NoB) ws := by
  have hX' := hX
  obtain ⟨hw, hE⟩ := hX'
  have hY' := hY
  obtain ⟨sM, xM, oM, sY, xY, fY, yY, iY, aY, sD, xD, fD, yD, iD, aD⟩ := hY'
  have hSA := sa_of hw
  have z0 : n0 ≤ h0.size := by rw [← O0.1]; exact O0.2.1
  refine Met.of (by decide +kernel) O0 hE ?_
  intro p e s m below meth c hx hby hml hret hlk hnm
  refine k_cast (ef_of m yy gM (22 : Int32)) ?_
  show Run p l e _ s m _ below meth c Z EL1 _ n0 NoB h0 0 0 (mkF m 0 #[.val (.int yy), .val (.ref gM), .val (.int (22 : Int32))] []) _
  refine k_getS hx (host := "") (Or.inl (hw _ (List.mem_of_getElem? (i := 11) rfl))) Via.refl (sY.ext O0.2) rfl (hb hby d_jdk_2323_m_4_0) ?_
  show Run p l e _ s m _ below meth c Z EL1 _ n0 NoB h0 0 0 (mkF m 3 #[.val (.int yy), .val (.ref gM), .val (.int (22 : Int32))] [(.ref gY)]) _
  refine k_pure (g' := (mkF m 4 #[.val (.int yy), .val (.ref gM), .val (.int (22 : Int32))] [(.int yy), (.ref gY)])) (fun TT HH tt kk => XS.iloadN HH hx rfl (hb hby d_jdk_2323_m_4_3) rfl kk) ?_
  refine k_pure (g' := (mkF m 5 #[.val (.int yy), .val (.ref gM), .val (.int (22 : Int32))] [(.long (yy.toInt64)), (.ref gY)])) (fun TT HH tt kk => XS.i2l HH hx rfl (hb hby d_jdk_2323_m_4_4) rfl kk) ?_
  have F_1 : Exa Z h0 gY "java/time/temporal/ChronoField" := xY.ext O0.2
  have F_2 : Fld Z h0 gY "java/time/temporal/ChronoField" "range" "Ljava/time/temporal/ValueRange;" (.ref rY) := fY.ext O0.2
  have F_3 : Exa Z h0 rY "java/time/temporal/ValueRange" := yY.ext O0.2
  have F_4 : Fld Z h0 rY "java/time/temporal/ValueRange" "minSmallest" "J" (.long ((-999999999) : Int64)) := iY.ext O0.2
  have F_5 : Fld Z h0 rY "java/time/temporal/ValueRange" "maxLargest" "J" (.long (999999999 : Int64)) := aY.ext O0.2
  refine k_callV hx (y := (⟨"java/time/temporal/ChronoField", "checkValidValue", "(J)J"⟩ : MethodName)) (z := (⟨"java/time/temporal/ChronoField", "checkValidValue", "(J)J"⟩ : MethodName)) (hw _ (List.mem_of_getElem? (i := 13) rfl)) (hw _ (List.mem_of_getElem? (i := 14) rfl)) (fun s' hZ => notFace_of_selects (args := #[]) (mv hZ (hw _ (List.mem_of_getElem? (i := 16) rfl)))) (hw _ (List.mem_of_getElem? (i := 16) rfl)) (hw _ (List.mem_of_getElem? (i := 15) rfl)) (by decide) (W := 0) (a := gY) (argsL := [(.long (yy.toInt64))]) (rest := []) (Pays.of_met (rm_cfv l Z a0 gM gY rY gD rD hX hY n0 h0 O0 gY rY ((-999999999) : Int64) (999999999 : Int64) (yy.toInt64) F_1 F_2 F_3 F_4 F_5 (y_lo y1) (y_hi y2) []) (hw _ (List.mem_of_getElem? (i := 17) rfl)) (hw _ (List.mem_of_getElem? (i := 12) rfl)) (by decide) (by decide)) F_1 rfl (by rw [hml]; rfl) (lenOf pd__28_J_29_J rfl) rfl (by show 2 * 0 + _ ≤ _; exact Nat.le_of_eq rfl) (hb hby d_jdk_2323_m_4_5) (by decide) (by decide) ?_
  intro v_6 h_7 bk_8 O_9 z_10 Q_11
  obtain ⟨rfl, rfl, rfl⟩ := Q_11
  show Run p l e _ s m _ below meth c Z EL1 _ n0 NoB h0 0 0 (mkF m 8 #[.val (.int yy), .val (.ref gM), .val (.int (22 : Int32))] [(.long (yy.toInt64))]) _
  refine k_pure (g' := (mkF m 9 #[.val (.int yy), .val (.ref gM), .val (.int (22 : Int32))] [])) (fun TT HH tt kk => s_pop2L HH hx rfl (hb hby d_jdk_2323_m_4_8) rfl kk) ?_
  refine k_pure (g' := (mkF m 10 #[.val (.int yy), .val (.ref gM), .val (.int (22 : Int32))] [(.ref gM)])) (fun TT HH tt kk => XS.aloadN HH hx rfl (hb hby d_jdk_2323_m_4_9) rfl rfl kk) ?_
  refine k_ldc0 rfl hx (hw _ (List.mem_of_getElem? (i := 50) rfl)) hSA rfl (hb hby d_jdk_2323_m_4_10) (n := 20) (by decide +kernel) (by decide) (by decide) (by decide) ?_
  intro h_12 a_13 O_14 E_15
  have z_16 := E_15.1
  show Run p l e _ s m _ below meth c Z EL1 _ n0 NoB h_12 2 24 (mkF m 12 #[.val (.int yy), .val (.ref gM), .val (.int (22 : Int32))] [(.ref a_13), (.ref gM)]) _
  refine k_callS hx (y := (⟨"java/util/Objects", "requireNonNull", "(Ljava/lang/Object;Ljava/lang/String;)Ljava/lang/Object;"⟩ : MethodName)) (hw _ (List.mem_of_getElem? (i := 58) rfl)) (hw _ (List.mem_of_getElem? (i := 59) rfl)) (hw _ (List.mem_of_getElem? (i := 60) rfl)) (hw _ (List.mem_of_getElem? (i := 61) rfl)) (by decide) (W := 0) (argsL := [(.ref gM), (.ref a_13)]) (rest := []) (Pays.of_met (rm_rnn l Z a0 gM gY rY gD rD hX hY n0 h_12 O_14 gM a_13  []) (hw _ (List.mem_of_getElem? (i := 61) rfl)) (hw _ (List.mem_of_getElem? (i := 60) rfl)) (by decide) (by decide)) rfl (by rw [hml]; rfl) (lenOf pd__28_Ljava_2f_lang_2f_Object_3b_Ljava_2f_lang_2f_String_3b__29_Ljava_2f_lang_2f_Object_3b_ rfl) rfl (by show 2 * 0 + _ ≤ _; exact Nat.le_of_eq rfl) (hb hby d_jdk_2323_m_4_12) (by decide) (by decide) ?_
  intro v_17 h_18 bk_19 O_20 z_21 Q_22
  obtain ⟨rfl, rfl, rfl⟩ := Q_22
  show Run p l e _ s m _ below meth c Z EL1 _ n0 NoB h_12 2 24 (mkF m 15 #[.val (.int yy), .val (.ref gM), .val (.int (22 : Int32))] [(.ref gM)]) _
  refine k_pure (g' := (mkF m 16 #[.val (.int yy), .val (.ref gM), .val (.int (22 : Int32))] [])) (fun TT HH tt kk => XS.pop HH hx rfl (hb hby d_jdk_2323_m_4_15) rfl rfl kk) ?_
  refine k_getS hx (host := "") (Or.inl (hw _ (List.mem_of_getElem? (i := 62) rfl))) Via.refl (sD.ext O_14.2) rfl (hb hby d_jdk_2323_m_4_16) ?_
  show Run p l e _ s m _ below meth c Z EL1 _ n0 NoB h_12 2 24 (mkF m 19 #[.val (.int yy), .val (.ref gM), .val (.int (22 : Int32))] [(.ref gD)]) _
  refine k_pure (g' := (mkF m 20 #[.val (.int yy), .val (.ref gM), .val (.int (22 : Int32))] [(.int (22 : Int32)), (.ref gD)])) (fun TT HH tt kk => XS.iloadN HH hx rfl (hb hby d_jdk_2323_m_4_19) rfl kk) ?_
  refine k_pure (g' := (mkF m 21 #[.val (.int yy), .val (.ref gM), .val (.int (22 : Int32))] [(.long (22 : Int64)), (.ref gD)])) (fun TT HH tt kk => XS.i2l HH hx rfl (hb hby d_jdk_2323_m_4_20) rfl kk) ?_
  have F_23 : Exa Z h_12 gD "java/time/temporal/ChronoField" := xD.ext O_14.2
  have F_24 : Fld Z h_12 gD "java/time/temporal/ChronoField" "range" "Ljava/time/temporal/ValueRange;" (.ref rD) := fD.ext O_14.2
  have F_25 : Exa Z h_12 rD "java/time/temporal/ValueRange" := yD.ext O_14.2
  have F_26 : Fld Z h_12 rD "java/time/temporal/ValueRange" "minSmallest" "J" (.long (1 : Int64)) := iD.ext O_14.2
  have F_27 : Fld Z h_12 rD "java/time/temporal/ValueRange" "maxLargest" "J" (.long (31 : Int64)) := aD.ext O_14.2
  refine k_callV hx (y := (⟨"java/time/temporal/ChronoField", "checkValidValue", "(J)J"⟩ : MethodName)) (z := (⟨"java/time/temporal/ChronoField", "checkValidValue", "(J)J"⟩ : MethodName)) (hw _ (List.mem_of_getElem? (i := 13) rfl)) (hw _ (List.mem_of_getElem? (i := 14) rfl)) (fun s' hZ => notFace_of_selects (args := #[]) (mv hZ (hw _ (List.mem_of_getElem? (i := 16) rfl)))) (hw _ (List.mem_of_getElem? (i := 16) rfl)) (hw _ (List.mem_of_getElem? (i := 15) rfl)) (by decide) (W := 0) (a := gD) (argsL := [(.long (22 : Int64))]) (rest := []) (Pays.of_met (rm_cfv l Z a0 gM gY rY gD rD hX hY n0 h_12 O_14 gD rD (1 : Int64) (31 : Int64) (22 : Int64) F_23 F_24 F_25 F_26 F_27 (by decide) (by decide) []) (hw _ (List.mem_of_getElem? (i := 17) rfl)) (hw _ (List.mem_of_getElem? (i := 12) rfl)) (by decide) (by decide)) F_23 rfl (by rw [hml]; rfl) (lenOf pd__28_J_29_J rfl) rfl (by show 2 * 0 + _ ≤ _; exact Nat.le_of_eq rfl) (hb hby d_jdk_2323_m_4_21) (by decide) (by decide) ?_
  intro v_28 h_29 bk_30 O_31 z_32 Q_33
  obtain ⟨rfl, rfl, rfl⟩ := Q_33
  show Run p l e _ s m _ below meth c Z EL1 _ n0 NoB h_12 2 24 (mkF m 24 #[.val (.int yy), .val (.ref gM), .val (.int (22 : Int32))] [(.long (22 : Int64))]) _
  refine k_pure (g' := (mkF m 25 #[.val (.int yy), .val (.ref gM), .val (.int (22 : Int32))] [])) (fun TT HH tt kk => s_pop2L HH hx rfl (hb hby d_jdk_2323_m_4_24) rfl kk) ?_
  refine k_pure (g' := (mkF m 26 #[.val (.int yy), .val (.ref gM), .val (.int (22 : Int32))] [(.int yy)])) (fun TT HH tt kk => XS.iloadN HH hx rfl (hb hby d_jdk_2323_m_4_25) rfl kk) ?_
  refine k_pure (g' := (mkF m 27 #[.val (.int yy), .val (.ref gM), .val (.int (22 : Int32))] [(.ref gM), (.int yy)])) (fun TT HH tt kk => XS.aloadN HH hx rfl (hb hby d_jdk_2323_m_4_26) rfl rfl kk) ?_
  have F_34 : Exa Z h_12 gM "java/time/Month" := xM.ext O_14.2
  have F_35 : Fld Z h_12 gM "java/lang/Enum" "ordinal" "I" (.int (2 : Int32)) := oM.ext O_14.2
  refine k_callV hx (y := (⟨"java/time/Month", "getValue", "()I"⟩ : MethodName)) (z := (⟨"java/time/Month", "getValue", "()I"⟩ : MethodName)) (hw _ (List.mem_of_getElem? (i := 63) rfl)) (hw _ (List.mem_of_getElem? (i := 64) rfl)) (fun s' hZ => notFace_of_selects (args := #[]) (mv hZ (hw _ (List.mem_of_getElem? (i := 66) rfl)))) (hw _ (List.mem_of_getElem? (i := 66) rfl)) (hw _ (List.mem_of_getElem? (i := 65) rfl)) (by decide) (W := 1) (a := gM) (argsL := []) (rest := [(.int yy)]) (Pays.of_met (rm_gval l Z a0 gM gY rY gD rD hX hY n0 h_12 O_14 gM (2 : Int32) F_34 F_35 []) (hw _ (List.mem_of_getElem? (i := 67) rfl)) (hw _ (List.mem_of_getElem? (i := 6) rfl)) (by decide) (by decide)) F_34 rfl (by rw [hml]; rfl) (lenOf pd__28__29_I rfl) rfl (by show 2 * 0 + _ ≤ _; exact Nat.le_of_eq rfl) (hb hby d_jdk_2323_m_4_27) (by decide) (by decide) ?_
  intro v_36 h_37 bk_38 O_39 z_40 Q_41
  obtain ⟨rfl, rfl, rfl⟩ := Q_41
  show Run p l e _ s m _ below meth c Z EL1 _ n0 NoB h_12 2 24 (mkF m 30 #[.val (.int yy), .val (.ref gM), .val (.int (22 : Int32))] [(.int ((2 : Int32) + (1 : Int32))), (.int yy)]) _
  refine k_pure (g' := (mkF m 31 #[.val (.int yy), .val (.ref gM), .val (.int (22 : Int32))] [(.int (22 : Int32)), (.int ((2 : Int32) + (1 : Int32))), (.int yy)])) (fun TT HH tt kk => XS.iloadN HH hx rfl (hb hby d_jdk_2323_m_4_30) rfl kk) ?_
  refine k_callS hx (y := (⟨"java/time/LocalDate", "create", "(III)Ljava/time/LocalDate;"⟩ : MethodName)) (hw _ (List.mem_of_getElem? (i := 77) rfl)) (hw _ (List.mem_of_getElem? (i := 78) rfl)) (hw _ (List.mem_of_getElem? (i := 9) rfl)) (hw _ (List.mem_of_getElem? (i := 79) rfl)) (by decide) (W := 0) (argsL := [(.int yy), (.int ((2 : Int32) + (1 : Int32))), (.int (22 : Int32))]) (rest := []) (Pays.of_met (rm_crt l Z a0 gM gY rY gD rD hX hY n0 h_12 O_14 yy ((2 : Int32) + (1 : Int32)) (22 : Int32) (by decide) (by decide) (by decide) []) (hw _ (List.mem_of_getElem? (i := 79) rfl)) (hw _ (List.mem_of_getElem? (i := 9) rfl)) (by decide) (by decide)) rfl (by rw [hml]; rfl) (lenOf pd__28_III_29_Ljava_2f_time_2f_LocalDate_3b_ rfl) rfl (by show 2 * 0 + _ ≤ _; exact Nat.le_of_eq rfl) (hb hby d_jdk_2323_m_4_31) (by decide) (by decide) ?_
  intro v_42 h_43 bk_44 O_45 z_46 Q_47
  obtain ⟨a_48, rfl, rfl, K_49, F_50, F_51, F_52, F_53, P_54⟩ := Q_47
  have lt_55 : @LT.lt Nat _ a_48 (Array.size h_43) := F_50.lt
  have lt_56 : @LT.lt Nat _ a_48 (Array.size h_43) := F_51.lt
  have lt_57 : @LT.lt Nat _ a_48 (Array.size h_43) := F_52.lt
  have lt_58 : @LT.lt Nat _ a_48 (Array.size h_43) := F_53.lt
  show Run p l e _ s m _ below meth c Z EL1 _ n0 NoB h_43 3 27 (mkF m 34 #[.val (.int yy), .val (.ref gM), .val (.int (22 : Int32))] [(.ref a_48)]) _
  exact k_retA hx hlk hret rfl rfl rfl (hb hby d_jdk_2323_m_4_34) (by decide) (by decide) ⟨_, rfl, rfl, (((Keep.refl _ _).ext E_15).trans K_49 kk0), F_50, F_51, F_52, F_53, (by omega)⟩
def Q_lom (Z : State) (x : Addr) (yy : Int32) (dd : Int32) (h0 : Heap) (n0 : Nat) (bk : Addr → Prop) (v : Option Value) (h : Heap) (bk' : Addr → Prop) : Prop := v = some (.int (31 : Int32)) ∧ h0 = h ∧ NoB = bk'
theorem d_jdk_2323_m_31_0 : decode jdk_2323_method_31_code 0 = .ok (.aload_n 0, 1) := by decide +kernel
theorem d_jdk_2323_m_31_1 : decode jdk_2323_method_31_code 1 = .ok (.getfield 250, 3) := by decide +kernel
theorem d_jdk_2323_m_31_4 : decode jdk_2323_method_31_code 4 = .ok (.tableswitch 78 2 11 #[56, 78, 73, 78, 73, 78, 78, 73, 78, 73], 56) := by decide +kernel
theorem d_jdk_2323_m_31_82 : decode jdk_2323_method_31_code 82 = .ok (.bipush 31, 2) := by decide +kernel
theorem d_jdk_2323_m_31_84 : decode jdk_2323_method_31_code 84 = .ok (.ireturn, 1) := by decide +kernel
abbrev RM_lom : Room := { frames := 0, cells := 0, slots := 0, locals := 0 }
theorem ef_lom (m : MethodId) (x0 : Addr) : entryFrame m #[(.ref x0)] 1 = mkF m 0 #[.val (.ref x0)] [] := by first | (simp [entryFrame, mkF, argsToLocals, Value.category]; done) | rfl
set_option maxRecDepth 65536 in
set_option maxHeartbeats 40000000 in
theorem rm_lom (l : Launch) (Z : State) (a0 : Array Value) (gM gY rY gD rD : Addr) (hX : Ctx Z a0) (hY : More Z gM gY rY gD rD) (n0 : Nat) (h0 : Heap) (O0 : Old Z n0 h0) (x : Addr) (yy : Int32) (dd : Int32) (pf_0 : Exa Z h0 x "java/time/LocalDate") (pf_1 : Fld Z h0 x "java/time/LocalDate" "year" "I" (.int yy)) (pf_2 : Fld Z h0 x "java/time/LocalDate" "month" "S" (.int (3 : Int32))) (pf_3 : Fld Z h0 x "java/time/LocalDate" "day" "S" (.int dd)) (ws : List Jvm.Cond) : Met l Z EL1 n0 NoB (⟨"java/time/LocalDate", "lengthOfMonth", "()I"⟩ : MethodName) jdk_2323_method_31_code 1 (Option.some FieldType.int) RM_lom #[(.ref x)] h0 (Q_lom Z x yy dd h0 n0 NoB) ws := by
  have hX' := hX
  obtain ⟨hw, hE⟩ := hX'
  have hY' := hY
  obtain ⟨sM, xM, oM, sY, xY, fY, yY, iY, aY, sD, xD, fD, yD, iD, aD⟩ := hY'
  have hSA := sa_of hw
  have z0 : n0 ≤ h0.size := by rw [← O0.1]; exact O0.2.1
  refine Met.of (by decide +kernel) O0 hE ?_
  intro p e s m below meth c hx hby hml hret hlk hnm
  refine k_cast (ef_lom m x) ?_
  show Run p l e _ s m _ below meth c Z EL1 _ n0 NoB h0 0 0 (mkF m 0 #[.val (.ref x)] []) _
  have lt_1 : @LT.lt Nat _ x (Array.size h0) := pf_0.lt
  have lt_2 : @LT.lt Nat _ x (Array.size h0) := pf_1.lt
  have lt_3 : @LT.lt Nat _ x (Array.size h0) := pf_2.lt
  have lt_4 : @LT.lt Nat _ x (Array.size h0) := pf_3.lt
  refine k_pure (g' := (mkF m 1 #[.val (.ref x)] [(.ref x)])) (fun TT HH tt kk => XS.aloadN HH hx rfl (hb hby d_jdk_2323_m_31_0) rfl rfl kk) ?_
  refine k_getF hx (host := "") (Or.inl (hw _ (List.mem_of_getElem? (i := 91) rfl))) Via.refl pf_2 rfl rfl (hb hby d_jdk_2323_m_31_1) ?_
  show Run p l e _ s m _ below meth c Z EL1 _ n0 NoB h0 0 0 (mkF m 4 #[.val (.ref x)] [(.int (3 : Int32))]) _
  refine k_pure (g' := (mkF m 82 #[.val (.ref x)] [])) (fun TT HH tt kk => XS.tswIn HH hx rfl (pc0 := 4) (pc' := 82) (o := 78) rfl (hb hby d_jdk_2323_m_31_4) rfl (by decide) (by decide) (by decide) (by decide) kk) ?_
  refine k_pure (g' := (mkF m 84 #[.val (.ref x)] [(.int (31 : Int32))])) (fun TT HH tt kk => XS.bipush HH hx rfl (hb hby d_jdk_2323_m_31_82) kk) ?_
  exact k_retI hx hlk hret (hb hby d_jdk_2323_m_31_84) (by decide) (by decide) ⟨rfl, rfl, rfl⟩
def Q_getYear (Z : State) (x : Addr) (o : Int32) (h0 : Heap) (n0 : Nat) (bk : Addr → Prop) (v : Option Value) (h : Heap) (bk' : Addr → Prop) : Prop := v = some (.int o) ∧ h0 = h ∧ NoB = bk'
theorem d_jdk_2323_m_24_0 : decode jdk_2323_method_24_code 0 = .ok (.aload_n 0, 1) := by decide +kernel
theorem d_jdk_2323_m_24_1 : decode jdk_2323_method_24_code 1 = .ok (.getfield 246, 3) := by decide +kernel
theorem d_jdk_2323_m_24_4 : decode jdk_2323_method_24_code 4 = .ok (.ireturn, 1) := by decide +kernel
abbrev RM_getYear : Room := { frames := 0, cells := 0, slots := 0, locals := 0 }
theorem ef_getYear (m : MethodId) (x0 : Addr) : entryFrame m #[(.ref x0)] 1 = mkF m 0 #[.val (.ref x0)] [] := by first | (simp [entryFrame, mkF, argsToLocals, Value.category]; done) | rfl
set_option maxRecDepth 65536 in
set_option maxHeartbeats 40000000 in
theorem rm_getYear (l : Launch) (Z : State) (a0 : Array Value) (gM gY rY gD rD : Addr) (hX : Ctx Z a0) (hY : More Z gM gY rY gD rD) (n0 : Nat) (h0 : Heap) (O0 : Old Z n0 h0) (x : Addr) (o : Int32) (pf_0 : Fld Z h0 x "java/time/LocalDate" "year" "I" (.int o)) (ws : List Jvm.Cond) : Met l Z EL1 n0 NoB (⟨"java/time/LocalDate", "getYear", "()I"⟩ : MethodName) jdk_2323_method_24_code 1 (Option.some FieldType.int) RM_getYear #[(.ref x)] h0 (Q_getYear Z x o h0 n0 NoB) ws := by
  have hX' := hX
  obtain ⟨hw, hE⟩ := hX'
  have hY' := hY
  obtain ⟨sM, xM, oM, sY, xY, fY, yY, iY, aY, sD, xD, fD, yD, iD, aD⟩ := hY'
  have hSA := sa_of hw
  have z0 : n0 ≤ h0.size := by rw [← O0.1]; exact O0.2.1
  refine Met.of (by decide +kernel) O0 hE ?_
  intro p e s m below meth c hx hby hml hret hlk hnm
  refine k_cast (ef_getYear m x) ?_
  show Run p l e _ s m _ below meth c Z EL1 _ n0 NoB h0 0 0 (mkF m 0 #[.val (.ref x)] []) _
  have lt_1 : @LT.lt Nat _ x (Array.size h0) := pf_0.lt
  refine k_pure (g' := (mkF m 1 #[.val (.ref x)] [(.ref x)])) (fun TT HH tt kk => XS.aloadN HH hx rfl (hb hby d_jdk_2323_m_24_0) rfl rfl kk) ?_
  refine k_getF hx (host := "") (Or.inl (hw _ (List.mem_of_getElem? (i := 89) rfl))) Via.refl pf_0 rfl rfl (hb hby d_jdk_2323_m_24_1) ?_
  show Run p l e _ s m _ below meth c Z EL1 _ n0 NoB h0 0 0 (mkF m 4 #[.val (.ref x)] [(.int o)]) _
  exact k_retI hx hlk hret (hb hby d_jdk_2323_m_24_4) (by decide) (by decide) ⟨rfl, rfl, rfl⟩
def Q_getMonthValue (Z : State) (x : Addr) (o : Int32) (h0 : Heap) (n0 : Nat) (bk : Addr → Prop) (v : Option Value) (h : Heap) (bk' : Addr → Prop) : Prop := v = some (.int o) ∧ h0 = h ∧ NoB = bk'
theorem d_jdk_2323_m_25_0 : decode jdk_2323_method_25_code 0 = .ok (.aload_n 0, 1) := by decide +kernel
theorem d_jdk_2323_m_25_1 : decode jdk_2323_method_25_code 1 = .ok (.getfield 250, 3) := by decide +kernel
theorem d_jdk_2323_m_25_4 : decode jdk_2323_method_25_code 4 = .ok (.ireturn, 1) := by decide +kernel
abbrev RM_getMonthValue : Room := { frames := 0, cells := 0, slots := 0, locals := 0 }
theorem ef_getMonthValue (m : MethodId) (x0 : Addr) : entryFrame m #[(.ref x0)] 1 = mkF m 0 #[.val (.ref x0)] [] := by first | (simp [entryFrame, mkF, argsToLocals, Value.category]; done) | rfl
set_option maxRecDepth 65536 in
set_option maxHeartbeats 40000000 in
theorem rm_getMonthValue (l : Launch) (Z : State) (a0 : Array Value) (gM gY rY gD rD : Addr) (hX : Ctx Z a0) (hY : More Z gM gY rY gD rD) (n0 : Nat) (h0 : Heap) (O0 : Old Z n0 h0) (x : Addr) (o : Int32) (pf_0 : Fld Z h0 x "java/time/LocalDate" "month" "S" (.int o)) (ws : List Jvm.Cond) : Met l Z EL1 n0 NoB (⟨"java/time/LocalDate", "getMonthValue", "()I"⟩ : MethodName) jdk_2323_method_25_code 1 (Option.some FieldType.int) RM_getMonthValue #[(.ref x)] h0 (Q_getMonthValue Z x o h0 n0 NoB) ws := by
  have hX' := hX
  obtain ⟨hw, hE⟩ := hX'
  have hY' := hY
  obtain ⟨sM, xM, oM, sY, xY, fY, yY, iY, aY, sD, xD, fD, yD, iD, aD⟩ := hY'
  have hSA := sa_of hw
  have z0 : n0 ≤ h0.size := by rw [← O0.1]; exact O0.2.1
  refine Met.of (by decide +kernel) O0 hE ?_
  intro p e s m below meth c hx hby hml hret hlk hnm
  refine k_cast (ef_getMonthValue m x) ?_
  show Run p l e _ s m _ below meth c Z EL1 _ n0 NoB h0 0 0 (mkF m 0 #[.val (.ref x)] []) _
  have lt_1 : @LT.lt Nat _ x (Array.size h0) := pf_0.lt
  refine k_pure (g' := (mkF m 1 #[.val (.ref x)] [(.ref x)])) (fun TT HH tt kk => XS.aloadN HH hx rfl (hb hby d_jdk_2323_m_25_0) rfl rfl kk) ?_
  refine k_getF hx (host := "") (Or.inl (hw _ (List.mem_of_getElem? (i := 91) rfl))) Via.refl pf_0 rfl rfl (hb hby d_jdk_2323_m_25_1) ?_
  show Run p l e _ s m _ below meth c Z EL1 _ n0 NoB h0 0 0 (mkF m 4 #[.val (.ref x)] [(.int o)]) _
  exact k_retI hx hlk hret (hb hby d_jdk_2323_m_25_4) (by decide) (by decide) ⟨rfl, rfl, rfl⟩
def Q_getDayOfMonth (Z : State) (x : Addr) (o : Int32) (h0 : Heap) (n0 : Nat) (bk : Addr → Prop) (v : Option Value) (h : Heap) (bk' : Addr → Prop) : Prop := v = some (.int o) ∧ h0 = h ∧ NoB = bk'
theorem d_jdk_2323_m_27_0 : decode jdk_2323_method_27_code 0 = .ok (.aload_n 0, 1) := by decide +kernel
theorem d_jdk_2323_m_27_1 : decode jdk_2323_method_27_code 1 = .ok (.getfield 253, 3) := by decide +kernel
theorem d_jdk_2323_m_27_4 : decode jdk_2323_method_27_code 4 = .ok (.ireturn, 1) := by decide +kernel
abbrev RM_getDayOfMonth : Room := { frames := 0, cells := 0, slots := 0, locals := 0 }
theorem ef_getDayOfMonth (m : MethodId) (x0 : Addr) : entryFrame m #[(.ref x0)] 1 = mkF m 0 #[.val (.ref x0)] [] := by first | (simp [entryFrame, mkF, argsToLocals, Value.category]; done) | rfl
set_option maxRecDepth 65536 in
set_option maxHeartbeats 40000000 in
theorem rm_getDayOfMonth (l : Launch) (Z : State) (a0 : Array Value) (gM gY rY gD rD : Addr) (hX : Ctx Z a0) (hY : More Z gM gY rY gD rD) (n0 : Nat) (h0 : Heap) (O0 : Old Z n0 h0) (x : Addr) (o : Int32) (pf_0 : Fld Z h0 x "java/time/LocalDate" "day" "S" (.int o)) (ws : List Jvm.Cond) : Met l Z EL1 n0 NoB (⟨"java/time/LocalDate", "getDayOfMonth", "()I"⟩ : MethodName) jdk_2323_method_27_code 1 (Option.some FieldType.int) RM_getDayOfMonth #[(.ref x)] h0 (Q_getDayOfMonth Z x o h0 n0 NoB) ws := by
  have hX' := hX
  obtain ⟨hw, hE⟩ := hX'
  have hY' := hY
  obtain ⟨sM, xM, oM, sY, xY, fY, yY, iY, aY, sD, xD, fD, yD, iD, aD⟩ := hY'
  have hSA := sa_of hw
  have z0 : n0 ≤ h0.size := by rw [← O0.1]; exact O0.2.1
  refine Met.of (by decide +kernel) O0 hE ?_
  intro p e s m below meth c hx hby hml hret hlk hnm
  refine k_cast (ef_getDayOfMonth m x) ?_
  show Run p l e _ s m _ below meth c Z EL1 _ n0 NoB h0 0 0 (mkF m 0 #[.val (.ref x)] []) _
  have lt_1 : @LT.lt Nat _ x (Array.size h0) := pf_0.lt
  refine k_pure (g' := (mkF m 1 #[.val (.ref x)] [(.ref x)])) (fun TT HH tt kk => XS.aloadN HH hx rfl (hb hby d_jdk_2323_m_27_0) rfl rfl kk) ?_
  refine k_getF hx (host := "") (Or.inl (hw _ (List.mem_of_getElem? (i := 93) rfl))) Via.refl pf_0 rfl rfl (hb hby d_jdk_2323_m_27_1) ?_
  show Run p l e _ s m _ below meth c Z EL1 _ n0 NoB h0 0 0 (mkF m 4 #[.val (.ref x)] [(.int o)]) _
  exact k_retI hx hlk hret (hb hby d_jdk_2323_m_27_4) (by decide) (by decide) ⟨rfl, rfl, rfl⟩
def Q_pld (Z : State) (x : Addr) (yy : Int32) (k : Int32) (mm : Int32) (dd : Int32) (h0 : Heap) (n0 : Nat) (bk : Addr → Prop) (v : Option Value) (h : Heap) (bk' : Addr → Prop) : Prop := ∃ (z : Addr), v = some (.ref z) ∧ NoB = bk' ∧ Keep h0 h [] ∧ (Exa Z h z "java/time/LocalDate") ∧ (Fld Z h z "java/time/LocalDate" "year" "I" (.int yy)) ∧ (Fld Z h z "java/time/LocalDate" "month" "S" (.int mm)) ∧ (Fld Z h z "java/time/LocalDate" "day" "S" (.int dd))
theorem d_jdk_2323_m_44_0 : decode jdk_2323_method_44_code 0 = .ok (.lload_n 1, 1) := by decide +kernel
theorem d_jdk_2323_m_44_1 : decode jdk_2323_method_44_code 1 = .ok (.lconst 0, 1) := by decide +kernel
theorem d_jdk_2323_m_44_2 : decode jdk_2323_method_44_code 2 = .ok (.lcmp, 1) := by decide +kernel
theorem d_jdk_2323_m_44_3 : decode jdk_2323_method_44_code 3 = .ok (.ifCond .ne 5, 3) := by decide +kernel
theorem d_jdk_2323_m_44_6 : decode jdk_2323_method_44_code 6 = .ok (.aload_n 0, 1) := by decide +kernel
theorem d_jdk_2323_m_44_7 : decode jdk_2323_method_44_code 7 = .ok (.areturn, 1) := by decide +kernel
theorem d_jdk_2323_m_44_8 : decode jdk_2323_method_44_code 8 = .ok (.aload_n 0, 1) := by decide +kernel
theorem d_jdk_2323_m_44_9 : decode jdk_2323_method_44_code 9 = .ok (.getfield 253, 3) := by decide +kernel
theorem d_jdk_2323_m_44_12 : decode jdk_2323_method_44_code 12 = .ok (.i2l, 1) := by decide +kernel
theorem d_jdk_2323_m_44_13 : decode jdk_2323_method_44_code 13 = .ok (.lload_n 1, 1) := by decide +kernel
theorem d_jdk_2323_m_44_14 : decode jdk_2323_method_44_code 14 = .ok (.ladd, 1) := by decide +kernel
theorem d_jdk_2323_m_44_15 : decode jdk_2323_method_44_code 15 = .ok (.lstore_n 3, 1) := by decide +kernel
theorem d_jdk_2323_m_44_16 : decode jdk_2323_method_44_code 16 = .ok (.lload_n 3, 1) := by decide +kernel
theorem d_jdk_2323_m_44_17 : decode jdk_2323_method_44_code 17 = .ok (.lconst 0, 1) := by decide +kernel
theorem d_jdk_2323_m_44_18 : decode jdk_2323_method_44_code 18 = .ok (.lcmp, 1) := by decide +kernel
theorem d_jdk_2323_m_44_19 : decode jdk_2323_method_44_code 19 = .ok (.ifCond .le 135, 3) := by decide +kernel
theorem d_jdk_2323_m_44_22 : decode jdk_2323_method_44_code 22 = .ok (.lload_n 3, 1) := by decide +kernel
theorem d_jdk_2323_m_44_23 : decode jdk_2323_method_44_code 23 = .ok (.ldc2_w 483, 3) := by decide +kernel
theorem d_jdk_2323_m_44_26 : decode jdk_2323_method_44_code 26 = .ok (.lcmp, 1) := by decide +kernel
theorem d_jdk_2323_m_44_27 : decode jdk_2323_method_44_code 27 = .ok (.ifCond .gt 21, 3) := by decide +kernel
theorem d_jdk_2323_m_44_48 : decode jdk_2323_method_44_code 48 = .ok (.lload_n 3, 1) := by decide +kernel
theorem d_jdk_2323_m_44_49 : decode jdk_2323_method_44_code 49 = .ok (.ldc2_w 485, 3) := by decide +kernel
theorem d_jdk_2323_m_44_52 : decode jdk_2323_method_44_code 52 = .ok (.lcmp, 1) := by decide +kernel
theorem d_jdk_2323_m_44_53 : decode jdk_2323_method_44_code 53 = .ok (.ifCond .gt 101, 3) := by decide +kernel
theorem d_jdk_2323_m_44_56 : decode jdk_2323_method_44_code 56 = .ok (.aload_n 0, 1) := by decide +kernel
theorem d_jdk_2323_m_44_57 : decode jdk_2323_method_44_code 57 = .ok (.invokevirtual 278, 3) := by decide +kernel
theorem d_jdk_2323_m_44_60 : decode jdk_2323_method_44_code 60 = .ok (.i2l, 1) := by decide +kernel
theorem d_jdk_2323_m_44_61 : decode jdk_2323_method_44_code 61 = .ok (.lstore 5, 2) := by decide +kernel
theorem d_jdk_2323_m_44_63 : decode jdk_2323_method_44_code 63 = .ok (.lload_n 3, 1) := by decide +kernel
theorem d_jdk_2323_m_44_64 : decode jdk_2323_method_44_code 64 = .ok (.lload 5, 2) := by decide +kernel
theorem d_jdk_2323_m_44_66 : decode jdk_2323_method_44_code 66 = .ok (.lcmp, 1) := by decide +kernel
theorem d_jdk_2323_m_44_67 : decode jdk_2323_method_44_code 67 = .ok (.ifCond .gt 21, 3) := by decide +kernel
theorem d_jdk_2323_m_44_88 : decode jdk_2323_method_44_code 88 = .ok (.aload_n 0, 1) := by decide +kernel
theorem d_jdk_2323_m_44_89 : decode jdk_2323_method_44_code 89 = .ok (.getfield 250, 3) := by decide +kernel
theorem d_jdk_2323_m_44_92 : decode jdk_2323_method_44_code 92 = .ok (.bipush 12, 2) := by decide +kernel
theorem d_jdk_2323_m_44_94 : decode jdk_2323_method_44_code 94 = .ok (.if_icmp .ge 26, 3) := by decide +kernel
theorem d_jdk_2323_m_44_97 : decode jdk_2323_method_44_code 97 = .ok (.new 1, 3) := by decide +kernel
theorem d_jdk_2323_m_44_100 : decode jdk_2323_method_44_code 100 = .ok (.dup, 1) := by decide +kernel
theorem d_jdk_2323_m_44_101 : decode jdk_2323_method_44_code 101 = .ok (.aload_n 0, 1) := by decide +kernel
theorem d_jdk_2323_m_44_102 : decode jdk_2323_method_44_code 102 = .ok (.getfield 246, 3) := by decide +kernel
theorem d_jdk_2323_m_44_105 : decode jdk_2323_method_44_code 105 = .ok (.aload_n 0, 1) := by decide +kernel
theorem d_jdk_2323_m_44_106 : decode jdk_2323_method_44_code 106 = .ok (.getfield 250, 3) := by decide +kernel
theorem d_jdk_2323_m_44_109 : decode jdk_2323_method_44_code 109 = .ok (.iconst 1, 1) := by decide +kernel
theorem d_jdk_2323_m_44_110 : decode jdk_2323_method_44_code 110 = .ok (.iadd, 1) := by decide +kernel
theorem d_jdk_2323_m_44_111 : decode jdk_2323_method_44_code 111 = .ok (.lload_n 3, 1) := by decide +kernel
theorem d_jdk_2323_m_44_112 : decode jdk_2323_method_44_code 112 = .ok (.lload 5, 2) := by decide +kernel
theorem d_jdk_2323_m_44_114 : decode jdk_2323_method_44_code 114 = .ok (.lsub, 1) := by decide +kernel
theorem d_jdk_2323_m_44_115 : decode jdk_2323_method_44_code 115 = .ok (.l2i, 1) := by decide +kernel
theorem d_jdk_2323_m_44_116 : decode jdk_2323_method_44_code 116 = .ok (.invokespecial 121, 3) := by decide +kernel
theorem d_jdk_2323_m_44_119 : decode jdk_2323_method_44_code 119 = .ok (.areturn, 1) := by decide +kernel
theorem d_jdk_2323_m_44_70 : decode jdk_2323_method_44_code 70 = .ok (.new 1, 3) := by decide +kernel
theorem d_jdk_2323_m_44_73 : decode jdk_2323_method_44_code 73 = .ok (.dup, 1) := by decide +kernel
theorem d_jdk_2323_m_44_74 : decode jdk_2323_method_44_code 74 = .ok (.aload_n 0, 1) := by decide +kernel
theorem d_jdk_2323_m_44_75 : decode jdk_2323_method_44_code 75 = .ok (.getfield 246, 3) := by decide +kernel
theorem d_jdk_2323_m_44_78 : decode jdk_2323_method_44_code 78 = .ok (.aload_n 0, 1) := by decide +kernel
theorem d_jdk_2323_m_44_79 : decode jdk_2323_method_44_code 79 = .ok (.getfield 250, 3) := by decide +kernel
theorem d_jdk_2323_m_44_82 : decode jdk_2323_method_44_code 82 = .ok (.lload_n 3, 1) := by decide +kernel
theorem d_jdk_2323_m_44_83 : decode jdk_2323_method_44_code 83 = .ok (.l2i, 1) := by decide +kernel
theorem d_jdk_2323_m_44_84 : decode jdk_2323_method_44_code 84 = .ok (.invokespecial 121, 3) := by decide +kernel
theorem d_jdk_2323_m_44_87 : decode jdk_2323_method_44_code 87 = .ok (.areturn, 1) := by decide +kernel
theorem d_jdk_2323_m_44_30 : decode jdk_2323_method_44_code 30 = .ok (.new 1, 3) := by decide +kernel
theorem d_jdk_2323_m_44_33 : decode jdk_2323_method_44_code 33 = .ok (.dup, 1) := by decide +kernel
theorem d_jdk_2323_m_44_34 : decode jdk_2323_method_44_code 34 = .ok (.aload_n 0, 1) := by decide +kernel
theorem d_jdk_2323_m_44_35 : decode jdk_2323_method_44_code 35 = .ok (.getfield 246, 3) := by decide +kernel
theorem d_jdk_2323_m_44_38 : decode jdk_2323_method_44_code 38 = .ok (.aload_n 0, 1) := by decide +kernel
theorem d_jdk_2323_m_44_39 : decode jdk_2323_method_44_code 39 = .ok (.getfield 250, 3) := by decide +kernel
theorem d_jdk_2323_m_44_42 : decode jdk_2323_method_44_code 42 = .ok (.lload_n 3, 1) := by decide +kernel
theorem d_jdk_2323_m_44_43 : decode jdk_2323_method_44_code 43 = .ok (.l2i, 1) := by decide +kernel
theorem d_jdk_2323_m_44_44 : decode jdk_2323_method_44_code 44 = .ok (.invokespecial 121, 3) := by decide +kernel
theorem d_jdk_2323_m_44_47 : decode jdk_2323_method_44_code 47 = .ok (.areturn, 1) := by decide +kernel
abbrev RM_pld : Room := { frames := 2, cells := 1, slots := 3, locals := 28 }
theorem ef_pld (m : MethodId) (x0 : Addr) (x1 : Int64) : entryFrame m #[(.ref x0), (.long x1)] 7 = mkF m 0 #[.val (.ref x0), .val (.long x1), .second, .unset, .unset, .unset, .unset] [] := by first | (simp [entryFrame, mkF, argsToLocals, Value.category]; done) | rfl
set_option maxRecDepth 65536 in
set_option maxHeartbeats 40000000 in
theorem rm_pld (l : Launch) (Z : State) (a0 : Array Value) (gM gY rY gD rD : Addr) (hX : Ctx Z a0) (hY : More Z gM gY rY gD rD) (n0 : Nat) (h0 : Heap) (O0 : Old Z n0 h0) (x : Addr) (yy : Int32) (k : Int32) (mm : Int32) (dd : Int32) (pf_0 : Exa Z h0 x "java/time/LocalDate") (pf_1 : Fld Z h0 x "java/time/LocalDate" "year" "I" (.int yy)) (pf_2 : Fld Z h0 x "java/time/LocalDate" "month" "S" (.int (3 : Int32))) (pf_3 : Fld Z h0 x "java/time/LocalDate" "day" "S" (.int (22 : Int32))) (k1 : 0 ≤ k.toInt) (k2 : k.toInt ≤ 34) (ha : k.toInt ≤ 9 → mm = 3 ∧ dd.toInt = 22 + k.toInt) (hb9 : 9 < k.toInt → mm = 4 ∧ dd.toInt = k.toInt - 9) (ws : List Jvm.Cond) : Met l Z EL1 n0 NoB (⟨"java/time/LocalDate", "plusDays", "(J)Ljava/time/LocalDate;"⟩ : MethodName) jdk_2323_method_44_code 7 (Option.some (FieldType.object "java/time/LocalDate")) RM_pld #[(.ref x), (.long k.toInt64)] h0 (Q_pld Z x yy k mm dd h0 n0 NoB) ws := by
  have hX' := hX
  obtain ⟨hw, hE⟩ := hX'
  have hY' := hY
  obtain ⟨sM, xM, oM, sY, xY, fY, yY, iY, aY, sD, xD, fD, yD, iD, aD⟩ := hY'
  have hSA := sa_of hw
  have z0 : n0 ≤ h0.size := by rw [← O0.1]; exact O0.2.1
  refine Met.of (by decide +kernel) O0 hE ?_
  intro p e s m below meth c hx hby hml hret hlk hnm
  refine k_cast (ef_pld m x k.toInt64) ?_
  show Run p l e _ s m _ below meth c Z EL1 _ n0 NoB h0 0 0 (mkF m 0 #[.val (.ref x), .val (.long k.toInt64), .second, .unset, .unset, .unset, .unset] []) _
  have lt_1 : @LT.lt Nat _ x (Array.size h0) := pf_0.lt
  have lt_2 : @LT.lt Nat _ x (Array.size h0) := pf_1.lt
  have lt_3 : @LT.lt Nat _ x (Array.size h0) := pf_2.lt
  have lt_4 : @LT.lt Nat _ x (Array.size h0) := pf_3.lt
  refine k_pure (g' := (mkF m 1 #[.val (.ref x), .val (.long k.toInt64), .second, .unset, .unset, .unset, .unset] [(.long k.toInt64)])) (fun TT HH tt kk => XS.lloadN HH hx rfl (hb hby d_jdk_2323_m_44_0) rfl kk) ?_
  refine k_pure (g' := (mkF m 2 #[.val (.ref x), .val (.long k.toInt64), .second, .unset, .unset, .unset, .unset] [(.long (0 : Int64)), (.long k.toInt64)])) (fun TT HH tt kk => XS.lconst HH hx rfl (hb hby d_jdk_2323_m_44_1) kk) ?_
  refine k_pure (g' := (mkF m 3 #[.val (.ref x), .val (.long k.toInt64), .second, .unset, .unset, .unset, .unset] [(.int (lcmpW k.toInt64 (0 : Int64)))])) (fun TT HH tt kk => XS.lcmp HH hx rfl (hb hby d_jdk_2323_m_44_2) rfl kk) ?_
  by_cases c_5 : (lcmpW k.toInt64 (0 : Int64)) = (0 : Int32)
  · refine k_pure (g' := (mkF m 6 #[.val (.ref x), .val (.long k.toInt64), .second, .unset, .unset, .unset, .unset] [])) (fun TT HH tt kk => XS.ifNo HH hx rfl (hb hby d_jdk_2323_m_44_3) rfl ((if0 _ _).trans (teq c_5).2) kk) ?_
    have k0 : k.toInt = 0 := by have q := (lw_eq _ _).mp c_5; have r := congrArg Int64.toInt q; rw [c_i2l] at r; exact r
    obtain ⟨rfl, hd⟩ := ha (by omega)
    obtain rfl : dd = 22 := Int32.toInt_inj.mp (by rw [hd, k0]; decide)
    refine k_pure (g' := (mkF m 7 #[.val (.ref x), .val (.long k.toInt64), .second, .unset, .unset, .unset, .unset] [(.ref x)])) (fun TT HH tt kk => XS.aloadN HH hx rfl (hb hby d_jdk_2323_m_44_6) rfl rfl kk) ?_
    exact k_retA hx hlk hret rfl rfl rfl (hb hby d_jdk_2323_m_44_7) (by decide) (by decide) ⟨x, rfl, rfl, (Keep.refl _ _), pf_0, pf_1, pf_2, pf_3⟩
  · refine k_pure (g' := (mkF m 8 #[.val (.ref x), .val (.long k.toInt64), .second, .unset, .unset, .unset, .unset] [])) (fun TT HH tt kk => XS.ifYes HH hx rfl (pc0 := 3) (pc' := 8) rfl (hb hby d_jdk_2323_m_44_3) rfl ((if0 _ _).trans (feq c_5).2) (by decide) (by decide) kk) ?_
    refine k_pure (g' := (mkF m 9 #[.val (.ref x), .val (.long k.toInt64), .second, .unset, .unset, .unset, .unset] [(.ref x)])) (fun TT HH tt kk => XS.aloadN HH hx rfl (hb hby d_jdk_2323_m_44_8) rfl rfl kk) ?_
    refine k_getF hx (host := "") (Or.inl (hw _ (List.mem_of_getElem? (i := 93) rfl))) Via.refl pf_3 rfl rfl (hb hby d_jdk_2323_m_44_9) ?_
    show Run p l e _ s m _ below meth c Z EL1 _ n0 NoB h0 0 0 (mkF m 12 #[.val (.ref x), .val (.long k.toInt64), .second, .unset, .unset, .unset, .unset] [(.int (22 : Int32))]) _
    refine k_pure (g' := (mkF m 13 #[.val (.ref x), .val (.long k.toInt64), .second, .unset, .unset, .unset, .unset] [(.long (22 : Int64))])) (fun TT HH tt kk => XS.i2l HH hx rfl (hb hby d_jdk_2323_m_44_12) rfl kk) ?_
    refine k_pure (g' := (mkF m 14 #[.val (.ref x), .val (.long k.toInt64), .second, .unset, .unset, .unset, .unset] [(.long k.toInt64), (.long (22 : Int64))])) (fun TT HH tt kk => XS.lloadN HH hx rfl (hb hby d_jdk_2323_m_44_13) rfl kk) ?_
    refine k_pure (g' := (mkF m 15 #[.val (.ref x), .val (.long k.toInt64), .second, .unset, .unset, .unset, .unset] [(.long ((22 : Int64) + k.toInt64))])) (fun TT HH tt kk => XS.ladd HH hx rfl (hb hby d_jdk_2323_m_44_14) rfl kk) ?_
    refine k_pure (g' := (mkF m 16 #[.val (.ref x), .val (.long k.toInt64), .second, .val (.long ((22 : Int64) + k.toInt64)), .second, .unset, .unset] [])) (fun TT HH tt kk => XS.lstoreN HH hx rfl (hb hby d_jdk_2323_m_44_15) rfl (l' := #[.val (.ref x), .val (.long k.toInt64), .second, .val (.long ((22 : Int64) + k.toInt64)), .second, .unset, .unset]) rfl kk) ?_
    refine k_pure (g' := (mkF m 17 #[.val (.ref x), .val (.long k.toInt64), .second, .val (.long ((22 : Int64) + k.toInt64)), .second, .unset, .unset] [(.long ((22 : Int64) + k.toInt64))])) (fun TT HH tt kk => XS.lloadN HH hx rfl (hb hby d_jdk_2323_m_44_16) rfl kk) ?_
    refine k_pure (g' := (mkF m 18 #[.val (.ref x), .val (.long k.toInt64), .second, .val (.long ((22 : Int64) + k.toInt64)), .second, .unset, .unset] [(.long (0 : Int64)), (.long ((22 : Int64) + k.toInt64))])) (fun TT HH tt kk => XS.lconst HH hx rfl (hb hby d_jdk_2323_m_44_17) kk) ?_
    refine k_pure (g' := (mkF m 19 #[.val (.ref x), .val (.long k.toInt64), .second, .val (.long ((22 : Int64) + k.toInt64)), .second, .unset, .unset] [(.int (lcmpW ((22 : Int64) + k.toInt64) (0 : Int64)))])) (fun TT HH tt kk => XS.lcmp HH hx rfl (hb hby d_jdk_2323_m_44_18) rfl kk) ?_
    refine k_pure (g' := (mkF m 22 #[.val (.ref x), .val (.long k.toInt64), .second, .val (.long ((22 : Int64) + k.toInt64)), .second, .unset, .unset] [])) (fun TT HH tt kk => XS.ifNo HH hx rfl (hb hby d_jdk_2323_m_44_19) rfl ((if0 _ _).trans (tlt ((gt22 (n := 0) (by decide) k1 k2).mpr (by omega))).2.2.2) kk) ?_
    refine k_pure (g' := (mkF m 23 #[.val (.ref x), .val (.long k.toInt64), .second, .val (.long ((22 : Int64) + k.toInt64)), .second, .unset, .unset] [(.long ((22 : Int64) + k.toInt64))])) (fun TT HH tt kk => XS.lloadN HH hx rfl (hb hby d_jdk_2323_m_44_22) rfl kk) ?_
    refine k_ldc2J hx (hw _ (List.mem_of_getElem? (i := 100) rfl)) rfl (hb hby d_jdk_2323_m_44_23) ?_
    show Run p l e _ s m _ below meth c Z EL1 _ n0 NoB h0 0 0 (mkF m 26 #[.val (.ref x), .val (.long k.toInt64), .second, .val (.long ((22 : Int64) + k.toInt64)), .second, .unset, .unset] [(.long (28 : Int64)), (.long ((22 : Int64) + k.toInt64))]) _
    refine k_pure (g' := (mkF m 27 #[.val (.ref x), .val (.long k.toInt64), .second, .val (.long ((22 : Int64) + k.toInt64)), .second, .unset, .unset] [(.int (lcmpW ((22 : Int64) + k.toInt64) (28 : Int64)))])) (fun TT HH tt kk => XS.lcmp HH hx rfl (hb hby d_jdk_2323_m_44_26) rfl kk) ?_
    by_cases c_6 : (0 : Int32) < (lcmpW ((22 : Int64) + k.toInt64) (28 : Int64))
    · refine k_pure (g' := (mkF m 48 #[.val (.ref x), .val (.long k.toInt64), .second, .val (.long ((22 : Int64) + k.toInt64)), .second, .unset, .unset] [])) (fun TT HH tt kk => XS.ifYes HH hx rfl (pc0 := 27) (pc' := 48) rfl (hb hby d_jdk_2323_m_44_27) rfl ((if0 _ _).trans (tlt c_6).2.2.1) (by decide) (by decide) kk) ?_
      refine k_pure (g' := (mkF m 49 #[.val (.ref x), .val (.long k.toInt64), .second, .val (.long ((22 : Int64) + k.toInt64)), .second, .unset, .unset] [(.long ((22 : Int64) + k.toInt64))])) (fun TT HH tt kk => XS.lloadN HH hx rfl (hb hby d_jdk_2323_m_44_48) rfl kk) ?_
      refine k_ldc2J hx (hw _ (List.mem_of_getElem? (i := 101) rfl)) rfl (hb hby d_jdk_2323_m_44_49) ?_
      show Run p l e _ s m _ below meth c Z EL1 _ n0 NoB h0 0 0 (mkF m 52 #[.val (.ref x), .val (.long k.toInt64), .second, .val (.long ((22 : Int64) + k.toInt64)), .second, .unset, .unset] [(.long (59 : Int64)), (.long ((22 : Int64) + k.toInt64))]) _
      refine k_pure (g' := (mkF m 53 #[.val (.ref x), .val (.long k.toInt64), .second, .val (.long ((22 : Int64) + k.toInt64)), .second, .unset, .unset] [(.int (lcmpW ((22 : Int64) + k.toInt64) (59 : Int64)))])) (fun TT HH tt kk => XS.lcmp HH hx rfl (hb hby d_jdk_2323_m_44_52) rfl kk) ?_
      refine k_pure (g' := (mkF m 56 #[.val (.ref x), .val (.long k.toInt64), .second, .val (.long ((22 : Int64) + k.toInt64)), .second, .unset, .unset] [])) (fun TT HH tt kk => XS.ifNo HH hx rfl (hb hby d_jdk_2323_m_44_53) rfl ((if0 _ _).trans (flt (fun q => absurd ((gt22 (n := 59) (by decide) k1 k2).mp q) (by omega))).2.2.1) kk) ?_
      refine k_pure (g' := (mkF m 57 #[.val (.ref x), .val (.long k.toInt64), .second, .val (.long ((22 : Int64) + k.toInt64)), .second, .unset, .unset] [(.ref x)])) (fun TT HH tt kk => XS.aloadN HH hx rfl (hb hby d_jdk_2323_m_44_56) rfl rfl kk) ?_
      refine k_callV hx (y := (⟨"java/time/LocalDate", "lengthOfMonth", "()I"⟩ : MethodName)) (z := (⟨"java/time/LocalDate", "lengthOfMonth", "()I"⟩ : MethodName)) (hw _ (List.mem_of_getElem? (i := 102) rfl)) (hw _ (List.mem_of_getElem? (i := 103) rfl)) (fun s' hZ => notFace_of_selects (args := #[]) (mv hZ (hw _ (List.mem_of_getElem? (i := 105) rfl)))) (hw _ (List.mem_of_getElem? (i := 105) rfl)) (hw _ (List.mem_of_getElem? (i := 104) rfl)) (by decide) (W := 0) (a := x) (argsL := []) (rest := []) (Pays.of_met (rm_lom l Z a0 gM gY rY gD rD hX hY n0 h0 O0 x yy (22 : Int32) pf_0 pf_1 pf_2 pf_3 []) (hw _ (List.mem_of_getElem? (i := 106) rfl)) (hw _ (List.mem_of_getElem? (i := 9) rfl)) (by decide) (by decide)) pf_0 rfl (by rw [hml]; rfl) (lenOf pd__28__29_I rfl) rfl (by show 2 * 0 + _ ≤ _; exact Nat.le_of_eq rfl) (hb hby d_jdk_2323_m_44_57) (by decide) (by decide) ?_
      intro v_7 h_8 bk_9 O_10 z_11 Q_12
      obtain ⟨rfl, rfl, rfl⟩ := Q_12
      show Run p l e _ s m _ below meth c Z EL1 _ n0 NoB h0 0 0 (mkF m 60 #[.val (.ref x), .val (.long k.toInt64), .second, .val (.long ((22 : Int64) + k.toInt64)), .second, .unset, .unset] [(.int (31 : Int32))]) _
      refine k_pure (g' := (mkF m 61 #[.val (.ref x), .val (.long k.toInt64), .second, .val (.long ((22 : Int64) + k.toInt64)), .second, .unset, .unset] [(.long (31 : Int64))])) (fun TT HH tt kk => XS.i2l HH hx rfl (hb hby d_jdk_2323_m_44_60) rfl kk) ?_
      refine k_pure (g' := (mkF m 63 #[.val (.ref x), .val (.long k.toInt64), .second, .val (.long ((22 : Int64) + k.toInt64)), .second, .val (.long (31 : Int64)), .second] [])) (fun TT HH tt kk => XS.lstore HH hx rfl (hb hby d_jdk_2323_m_44_61) rfl (l' := #[.val (.ref x), .val (.long k.toInt64), .second, .val (.long ((22 : Int64) + k.toInt64)), .second, .val (.long (31 : Int64)), .second]) rfl kk) ?_
      refine k_pure (g' := (mkF m 64 #[.val (.ref x), .val (.long k.toInt64), .second, .val (.long ((22 : Int64) + k.toInt64)), .second, .val (.long (31 : Int64)), .second] [(.long ((22 : Int64) + k.toInt64))])) (fun TT HH tt kk => XS.lloadN HH hx rfl (hb hby d_jdk_2323_m_44_63) rfl kk) ?_
      refine k_pure (g' := (mkF m 66 #[.val (.ref x), .val (.long k.toInt64), .second, .val (.long ((22 : Int64) + k.toInt64)), .second, .val (.long (31 : Int64)), .second] [(.long (31 : Int64)), (.long ((22 : Int64) + k.toInt64))])) (fun TT HH tt kk => XS.lload HH hx rfl (hb hby d_jdk_2323_m_44_64) rfl kk) ?_
      refine k_pure (g' := (mkF m 67 #[.val (.ref x), .val (.long k.toInt64), .second, .val (.long ((22 : Int64) + k.toInt64)), .second, .val (.long (31 : Int64)), .second] [(.int (lcmpW ((22 : Int64) + k.toInt64) (31 : Int64)))])) (fun TT HH tt kk => XS.lcmp HH hx rfl (hb hby d_jdk_2323_m_44_66) rfl kk) ?_
      by_cases c_13 : (0 : Int32) < (lcmpW ((22 : Int64) + k.toInt64) (31 : Int64))
      · refine k_pure (g' := (mkF m 88 #[.val (.ref x), .val (.long k.toInt64), .second, .val (.long ((22 : Int64) + k.toInt64)), .second, .val (.long (31 : Int64)), .second] [])) (fun TT HH tt kk => XS.ifYes HH hx rfl (pc0 := 67) (pc' := 88) rfl (hb hby d_jdk_2323_m_44_67) rfl ((if0 _ _).trans (tlt c_13).2.2.1) (by decide) (by decide) kk) ?_
        have q88 := (gt22 (n := 31) (by decide) k1 k2).mp c_13
        obtain ⟨rfl, hd⟩ := hb9 (by omega)
        refine k_pure (g' := (mkF m 89 #[.val (.ref x), .val (.long k.toInt64), .second, .val (.long ((22 : Int64) + k.toInt64)), .second, .val (.long (31 : Int64)), .second] [(.ref x)])) (fun TT HH tt kk => XS.aloadN HH hx rfl (hb hby d_jdk_2323_m_44_88) rfl rfl kk) ?_
        refine k_getF hx (host := "") (Or.inl (hw _ (List.mem_of_getElem? (i := 91) rfl))) Via.refl pf_2 rfl rfl (hb hby d_jdk_2323_m_44_89) ?_
        show Run p l e _ s m _ below meth c Z EL1 _ n0 NoB h0 0 0 (mkF m 92 #[.val (.ref x), .val (.long k.toInt64), .second, .val (.long ((22 : Int64) + k.toInt64)), .second, .val (.long (31 : Int64)), .second] [(.int (3 : Int32))]) _
        refine k_pure (g' := (mkF m 94 #[.val (.ref x), .val (.long k.toInt64), .second, .val (.long ((22 : Int64) + k.toInt64)), .second, .val (.long (31 : Int64)), .second] [(.int (12 : Int32)), (.int (3 : Int32))])) (fun TT HH tt kk => XS.bipush HH hx rfl (hb hby d_jdk_2323_m_44_92) kk) ?_
        refine k_pure (g' := (mkF m 97 #[.val (.ref x), .val (.long k.toInt64), .second, .val (.long ((22 : Int64) + k.toInt64)), .second, .val (.long (31 : Int64)), .second] [])) (fun TT HH tt kk => XS.icmpNo HH hx rfl (hb hby d_jdk_2323_m_44_94) rfl (tlt (by decide : ((3 : Int32) < (12 : Int32)))).2.1 kk) ?_
        refine k_newO hx (hw _ (List.mem_of_getElem? (i := 80) rfl)) (hw _ (List.mem_of_getElem? (i := 81) rfl)) (hw _ (List.mem_of_getElem? (i := 9) rfl)) rfl (hb hby d_jdk_2323_m_44_97) (by decide) (by decide) ?_
        intro h_15 a_14 g_21 O_16 E_17 A_18 D_19 U_20
        have z_22 := E_17.1
        have lt_23 : @LT.lt Nat _ a_14 (Array.size h_15) := A_18.lt
        show Run p l e _ s m _ below meth c Z EL1 _ n0 NoB h_15 1 3 (mkF m 100 #[.val (.ref x), .val (.long k.toInt64), .second, .val (.long ((22 : Int64) + k.toInt64)), .second, .val (.long (31 : Int64)), .second] [(.ref a_14)]) _
        refine k_pure (g' := (mkF m 101 #[.val (.ref x), .val (.long k.toInt64), .second, .val (.long ((22 : Int64) + k.toInt64)), .second, .val (.long (31 : Int64)), .second] [(.ref a_14), (.ref a_14)])) (fun TT HH tt kk => XS.dup HH hx rfl (hb hby d_jdk_2323_m_44_100) rfl rfl kk) ?_
        refine k_pure (g' := (mkF m 102 #[.val (.ref x), .val (.long k.toInt64), .second, .val (.long ((22 : Int64) + k.toInt64)), .second, .val (.long (31 : Int64)), .second] [(.ref x), (.ref a_14), (.ref a_14)])) (fun TT HH tt kk => XS.aloadN HH hx rfl (hb hby d_jdk_2323_m_44_101) rfl rfl kk) ?_
        have F_24 : Fld Z h_15 x "java/time/LocalDate" "year" "I" (.int yy) := (pf_1.ext E_17)
        refine k_getF hx (host := "") (Or.inl (hw _ (List.mem_of_getElem? (i := 89) rfl))) Via.refl F_24 rfl rfl (hb hby d_jdk_2323_m_44_102) ?_
        show Run p l e _ s m _ below meth c Z EL1 _ n0 NoB h_15 1 3 (mkF m 105 #[.val (.ref x), .val (.long k.toInt64), .second, .val (.long ((22 : Int64) + k.toInt64)), .second, .val (.long (31 : Int64)), .second] [(.int yy), (.ref a_14), (.ref a_14)]) _
        refine k_pure (g' := (mkF m 106 #[.val (.ref x), .val (.long k.toInt64), .second, .val (.long ((22 : Int64) + k.toInt64)), .second, .val (.long (31 : Int64)), .second] [(.ref x), (.int yy), (.ref a_14), (.ref a_14)])) (fun TT HH tt kk => XS.aloadN HH hx rfl (hb hby d_jdk_2323_m_44_105) rfl rfl kk) ?_
        have F_25 : Fld Z h_15 x "java/time/LocalDate" "month" "S" (.int (3 : Int32)) := (pf_2.ext E_17)
        refine k_getF hx (host := "") (Or.inl (hw _ (List.mem_of_getElem? (i := 91) rfl))) Via.refl F_25 rfl rfl (hb hby d_jdk_2323_m_44_106) ?_
        show Run p l e _ s m _ below meth c Z EL1 _ n0 NoB h_15 1 3 (mkF m 109 #[.val (.ref x), .val (.long k.toInt64), .second, .val (.long ((22 : Int64) + k.toInt64)), .second, .val (.long (31 : Int64)), .second] [(.int (3 : Int32)), (.int yy), (.ref a_14), (.ref a_14)]) _
        refine k_pure (g' := (mkF m 110 #[.val (.ref x), .val (.long k.toInt64), .second, .val (.long ((22 : Int64) + k.toInt64)), .second, .val (.long (31 : Int64)), .second] [(.int (1 : Int32)), (.int (3 : Int32)), (.int yy), (.ref a_14), (.ref a_14)])) (fun TT HH tt kk => XS.iconst HH hx rfl (hb hby d_jdk_2323_m_44_109) kk) ?_
        refine k_pure (g' := (mkF m 111 #[.val (.ref x), .val (.long k.toInt64), .second, .val (.long ((22 : Int64) + k.toInt64)), .second, .val (.long (31 : Int64)), .second] [(.int (4 : Int32)), (.int yy), (.ref a_14), (.ref a_14)])) (fun TT HH tt kk => XS.iadd HH hx rfl (hb hby d_jdk_2323_m_44_110) rfl kk) ?_
        refine k_pure (g' := (mkF m 112 #[.val (.ref x), .val (.long k.toInt64), .second, .val (.long ((22 : Int64) + k.toInt64)), .second, .val (.long (31 : Int64)), .second] [(.long ((22 : Int64) + k.toInt64)), (.int (4 : Int32)), (.int yy), (.ref a_14), (.ref a_14)])) (fun TT HH tt kk => XS.lloadN HH hx rfl (hb hby d_jdk_2323_m_44_111) rfl kk) ?_
        refine k_pure (g' := (mkF m 114 #[.val (.ref x), .val (.long k.toInt64), .second, .val (.long ((22 : Int64) + k.toInt64)), .second, .val (.long (31 : Int64)), .second] [(.long (31 : Int64)), (.long ((22 : Int64) + k.toInt64)), (.int (4 : Int32)), (.int yy), (.ref a_14), (.ref a_14)])) (fun TT HH tt kk => XS.lload HH hx rfl (hb hby d_jdk_2323_m_44_112) rfl kk) ?_
        refine k_pure (g' := (mkF m 115 #[.val (.ref x), .val (.long k.toInt64), .second, .val (.long ((22 : Int64) + k.toInt64)), .second, .val (.long (31 : Int64)), .second] [(.long (((22 : Int64) + k.toInt64) - (31 : Int64))), (.int (4 : Int32)), (.int yy), (.ref a_14), (.ref a_14)])) (fun TT HH tt kk => XS.lsub HH hx rfl (hb hby d_jdk_2323_m_44_114) rfl kk) ?_
        refine k_pure (g' := (mkF m 116 #[.val (.ref x), .val (.long k.toInt64), .second, .val (.long ((22 : Int64) + k.toInt64)), .second, .val (.long (31 : Int64)), .second] [(.int ((((22 : Int64) + k.toInt64) - (31 : Int64)).toInt32)), (.int (4 : Int32)), (.int yy), (.ref a_14), (.ref a_14)])) (fun TT HH tt kk => XS.l2i HH hx rfl (hb hby d_jdk_2323_m_44_115) rfl kk) ?_
        rw [day_b k1 k2 hd]
        show Run p l e _ s m _ below meth c Z EL1 _ n0 NoB h_15 1 3 (mkF m 116 #[.val (.ref x), .val (.long k.toInt64), .second, .val (.long ((22 : Int64) + k.toInt64)), .second, .val (.long (31 : Int64)), .second] [(.int dd), (.int (4 : Int32)), (.int yy), (.ref a_14), (.ref a_14)]) _
        refine k_callI hx (y := (⟨"java/time/LocalDate", "<init>", "(III)V"⟩ : MethodName)) rfl (hw _ (List.mem_of_getElem? (i := 82) rfl)) (hw _ (List.mem_of_getElem? (i := 83) rfl)) (hw _ (List.mem_of_getElem? (i := 85) rfl)) (by decide) (W := 1) (a := a_14) (argsL := [(.int yy), (.int (4 : Int32)), (.int dd)]) (rest := [(.ref a_14)]) (Pays.of_met (rm_ini l Z a0 gM gY rY gD rD hX hY n0 h_15 O_16 a_14 yy (4 : Int32) dd A_18 (D_19 (Or.inr (hw _ (List.mem_of_getElem? (i := 90) rfl))) (ty := .int) (by decide)) (D_19 (Or.inr (hw _ (List.mem_of_getElem? (i := 92) rfl))) (ty := .short) (by decide)) (D_19 (Or.inr (hw _ (List.mem_of_getElem? (i := 94) rfl))) (ty := .short) (by decide)) (by omega) (by decide) (sh_ok (by omega) (by omega)) []) (hw _ (List.mem_of_getElem? (i := 85) rfl)) (hw _ (List.mem_of_getElem? (i := 9) rfl)) (by decide) (by decide)) rfl (by rw [hml]; rfl) (lenOf pd__28_III_29_V rfl) rfl (by show 2 * 0 + _ ≤ _; exact Nat.le_of_eq rfl) (hb hby d_jdk_2323_m_44_116) (by decide) (by decide) ?_
        intro v_26 h_27 bk_28 O_29 z_30 Q_31
        obtain ⟨rfl, rfl, K_32, F_33, F_34, F_35, F_36⟩ := Q_31
        have lt_37 : @LT.lt Nat _ a_14 (Array.size h_27) := F_33.lt
        have lt_38 : @LT.lt Nat _ a_14 (Array.size h_27) := F_34.lt
        have lt_39 : @LT.lt Nat _ a_14 (Array.size h_27) := F_35.lt
        have lt_40 : @LT.lt Nat _ a_14 (Array.size h_27) := F_36.lt
        show Run p l e _ s m _ below meth c Z EL1 _ n0 NoB h_27 1 3 (mkF m 119 #[.val (.ref x), .val (.long k.toInt64), .second, .val (.long ((22 : Int64) + k.toInt64)), .second, .val (.long (31 : Int64)), .second] [(.ref a_14)]) _
        exact k_retA hx hlk hret rfl rfl rfl (hb hby d_jdk_2323_m_44_119) (by decide) (by decide) ⟨a_14, rfl, rfl, (((Keep.refl _ _).ext E_17).trans K_32 (kkS (Or.inr (by omega)) kk0)), F_33, F_34, F_35, F_36⟩
      · refine k_pure (g' := (mkF m 70 #[.val (.ref x), .val (.long k.toInt64), .second, .val (.long ((22 : Int64) + k.toInt64)), .second, .val (.long (31 : Int64)), .second] [])) (fun TT HH tt kk => XS.ifNo HH hx rfl (hb hby d_jdk_2323_m_44_67) rfl ((if0 _ _).trans (flt c_13).2.2.1) kk) ?_
        have q70 : ¬ (31 : Int) < 22 + k.toInt := fun q => c_13 ((gt22 (by decide) k1 k2).mpr q)
        obtain ⟨rfl, hd⟩ := ha (by omega)
        refine k_newO hx (hw _ (List.mem_of_getElem? (i := 80) rfl)) (hw _ (List.mem_of_getElem? (i := 81) rfl)) (hw _ (List.mem_of_getElem? (i := 9) rfl)) rfl (hb hby d_jdk_2323_m_44_70) (by decide) (by decide) ?_
        intro h_42 a_41 g_48 O_43 E_44 A_45 D_46 U_47
        have z_49 := E_44.1
        have lt_50 : @LT.lt Nat _ a_41 (Array.size h_42) := A_45.lt
        show Run p l e _ s m _ below meth c Z EL1 _ n0 NoB h_42 1 3 (mkF m 73 #[.val (.ref x), .val (.long k.toInt64), .second, .val (.long ((22 : Int64) + k.toInt64)), .second, .val (.long (31 : Int64)), .second] [(.ref a_41)]) _
        refine k_pure (g' := (mkF m 74 #[.val (.ref x), .val (.long k.toInt64), .second, .val (.long ((22 : Int64) + k.toInt64)), .second, .val (.long (31 : Int64)), .second] [(.ref a_41), (.ref a_41)])) (fun TT HH tt kk => XS.dup HH hx rfl (hb hby d_jdk_2323_m_44_73) rfl rfl kk) ?_
        refine k_pure (g' := (mkF m 75 #[.val (.ref x), .val (.long k.toInt64), .second, .val (.long ((22 : Int64) + k.toInt64)), .second, .val (.long (31 : Int64)), .second] [(.ref x), (.ref a_41), (.ref a_41)])) (fun TT HH tt kk => XS.aloadN HH hx rfl (hb hby d_jdk_2323_m_44_74) rfl rfl kk) ?_
        have F_51 : Fld Z h_42 x "java/time/LocalDate" "year" "I" (.int yy) := (pf_1.ext E_44)
        refine k_getF hx (host := "") (Or.inl (hw _ (List.mem_of_getElem? (i := 89) rfl))) Via.refl F_51 rfl rfl (hb hby d_jdk_2323_m_44_75) ?_
        show Run p l e _ s m _ below meth c Z EL1 _ n0 NoB h_42 1 3 (mkF m 78 #[.val (.ref x), .val (.long k.toInt64), .second, .val (.long ((22 : Int64) + k.toInt64)), .second, .val (.long (31 : Int64)), .second] [(.int yy), (.ref a_41), (.ref a_41)]) _
        refine k_pure (g' := (mkF m 79 #[.val (.ref x), .val (.long k.toInt64), .second, .val (.long ((22 : Int64) + k.toInt64)), .second, .val (.long (31 : Int64)), .second] [(.ref x), (.int yy), (.ref a_41), (.ref a_41)])) (fun TT HH tt kk => XS.aloadN HH hx rfl (hb hby d_jdk_2323_m_44_78) rfl rfl kk) ?_
        have F_52 : Fld Z h_42 x "java/time/LocalDate" "month" "S" (.int (3 : Int32)) := (pf_2.ext E_44)
        refine k_getF hx (host := "") (Or.inl (hw _ (List.mem_of_getElem? (i := 91) rfl))) Via.refl F_52 rfl rfl (hb hby d_jdk_2323_m_44_79) ?_
        show Run p l e _ s m _ below meth c Z EL1 _ n0 NoB h_42 1 3 (mkF m 82 #[.val (.ref x), .val (.long k.toInt64), .second, .val (.long ((22 : Int64) + k.toInt64)), .second, .val (.long (31 : Int64)), .second] [(.int (3 : Int32)), (.int yy), (.ref a_41), (.ref a_41)]) _
        refine k_pure (g' := (mkF m 83 #[.val (.ref x), .val (.long k.toInt64), .second, .val (.long ((22 : Int64) + k.toInt64)), .second, .val (.long (31 : Int64)), .second] [(.long ((22 : Int64) + k.toInt64)), (.int (3 : Int32)), (.int yy), (.ref a_41), (.ref a_41)])) (fun TT HH tt kk => XS.lloadN HH hx rfl (hb hby d_jdk_2323_m_44_82) rfl kk) ?_
        refine k_pure (g' := (mkF m 84 #[.val (.ref x), .val (.long k.toInt64), .second, .val (.long ((22 : Int64) + k.toInt64)), .second, .val (.long (31 : Int64)), .second] [(.int (((22 : Int64) + k.toInt64).toInt32)), (.int (3 : Int32)), (.int yy), (.ref a_41), (.ref a_41)])) (fun TT HH tt kk => XS.l2i HH hx rfl (hb hby d_jdk_2323_m_44_83) rfl kk) ?_
        rw [day_a k1 k2 hd]
        show Run p l e _ s m _ below meth c Z EL1 _ n0 NoB h_42 1 3 (mkF m 84 #[.val (.ref x), .val (.long k.toInt64), .second, .val (.long ((22 : Int64) + k.toInt64)), .second, .val (.long (31 : Int64)), .second] [(.int dd), (.int (3 : Int32)), (.int yy), (.ref a_41), (.ref a_41)]) _
        refine k_callI hx (y := (⟨"java/time/LocalDate", "<init>", "(III)V"⟩ : MethodName)) rfl (hw _ (List.mem_of_getElem? (i := 82) rfl)) (hw _ (List.mem_of_getElem? (i := 83) rfl)) (hw _ (List.mem_of_getElem? (i := 85) rfl)) (by decide) (W := 1) (a := a_41) (argsL := [(.int yy), (.int (3 : Int32)), (.int dd)]) (rest := [(.ref a_41)]) (Pays.of_met (rm_ini l Z a0 gM gY rY gD rD hX hY n0 h_42 O_43 a_41 yy (3 : Int32) dd A_45 (D_46 (Or.inr (hw _ (List.mem_of_getElem? (i := 90) rfl))) (ty := .int) (by decide)) (D_46 (Or.inr (hw _ (List.mem_of_getElem? (i := 92) rfl))) (ty := .short) (by decide)) (D_46 (Or.inr (hw _ (List.mem_of_getElem? (i := 94) rfl))) (ty := .short) (by decide)) (by omega) (by decide) (sh_ok (by omega) (by omega)) []) (hw _ (List.mem_of_getElem? (i := 85) rfl)) (hw _ (List.mem_of_getElem? (i := 9) rfl)) (by decide) (by decide)) rfl (by rw [hml]; rfl) (lenOf pd__28_III_29_V rfl) rfl (by show 2 * 0 + _ ≤ _; exact Nat.le_of_eq rfl) (hb hby d_jdk_2323_m_44_84) (by decide) (by decide) ?_
        intro v_53 h_54 bk_55 O_56 z_57 Q_58
        obtain ⟨rfl, rfl, K_59, F_60, F_61, F_62, F_63⟩ := Q_58
        have lt_64 : @LT.lt Nat _ a_41 (Array.size h_54) := F_60.lt
        have lt_65 : @LT.lt Nat _ a_41 (Array.size h_54) := F_61.lt
        have lt_66 : @LT.lt Nat _ a_41 (Array.size h_54) := F_62.lt
        have lt_67 : @LT.lt Nat _ a_41 (Array.size h_54) := F_63.lt
        show Run p l e _ s m _ below meth c Z EL1 _ n0 NoB h_54 1 3 (mkF m 87 #[.val (.ref x), .val (.long k.toInt64), .second, .val (.long ((22 : Int64) + k.toInt64)), .second, .val (.long (31 : Int64)), .second] [(.ref a_41)]) _
        exact k_retA hx hlk hret rfl rfl rfl (hb hby d_jdk_2323_m_44_87) (by decide) (by decide) ⟨a_41, rfl, rfl, (((Keep.refl _ _).ext E_44).trans K_59 (kkS (Or.inr (by omega)) kk0)), F_60, F_61, F_62, F_63⟩
    · refine k_pure (g' := (mkF m 30 #[.val (.ref x), .val (.long k.toInt64), .second, .val (.long ((22 : Int64) + k.toInt64)), .second, .unset, .unset] [])) (fun TT HH tt kk => XS.ifNo HH hx rfl (hb hby d_jdk_2323_m_44_27) rfl ((if0 _ _).trans (flt c_6).2.2.1) kk) ?_
      have q30 : ¬ (28 : Int) < 22 + k.toInt := fun q => c_6 ((gt22 (by decide) k1 k2).mpr q)
      obtain ⟨rfl, hd⟩ := ha (by omega)
      refine k_newO hx (hw _ (List.mem_of_getElem? (i := 80) rfl)) (hw _ (List.mem_of_getElem? (i := 81) rfl)) (hw _ (List.mem_of_getElem? (i := 9) rfl)) rfl (hb hby d_jdk_2323_m_44_30) (by decide) (by decide) ?_
      intro h_69 a_68 g_75 O_70 E_71 A_72 D_73 U_74
      have z_76 := E_71.1
      have lt_77 : @LT.lt Nat _ a_68 (Array.size h_69) := A_72.lt
      show Run p l e _ s m _ below meth c Z EL1 _ n0 NoB h_69 1 3 (mkF m 33 #[.val (.ref x), .val (.long k.toInt64), .second, .val (.long ((22 : Int64) + k.toInt64)), .second, .unset, .unset] [(.ref a_68)]) _
      refine k_pure (g' := (mkF m 34 #[.val (.ref x), .val (.long k.toInt64), .second, .val (.long ((22 : Int64) + k.toInt64)), .second, .unset, .unset] [(.ref a_68), (.ref a_68)])) (fun TT HH tt kk => XS.dup HH hx rfl (hb hby d_jdk_2323_m_44_33) rfl rfl kk) ?_
      refine k_pure (g' := (mkF m 35 #[.val (.ref x), .val (.long k.toInt64), .second, .val (.long ((22 : Int64) + k.toInt64)), .second, .unset, .unset] [(.ref x), (.ref a_68), (.ref a_68)])) (fun TT HH tt kk => XS.aloadN HH hx rfl (hb hby d_jdk_2323_m_44_34) rfl rfl kk) ?_
      have F_78 : Fld Z h_69 x "java/time/LocalDate" "year" "I" (.int yy) := (pf_1.ext E_71)
      refine k_getF hx (host := "") (Or.inl (hw _ (List.mem_of_getElem? (i := 89) rfl))) Via.refl F_78 rfl rfl (hb hby d_jdk_2323_m_44_35) ?_
      show Run p l e _ s m _ below meth c Z EL1 _ n0 NoB h_69 1 3 (mkF m 38 #[.val (.ref x), .val (.long k.toInt64), .second, .val (.long ((22 : Int64) + k.toInt64)), .second, .unset, .unset] [(.int yy), (.ref a_68), (.ref a_68)]) _
      refine k_pure (g' := (mkF m 39 #[.val (.ref x), .val (.long k.toInt64), .second, .val (.long ((22 : Int64) + k.toInt64)), .second, .unset, .unset] [(.ref x), (.int yy), (.ref a_68), (.ref a_68)])) (fun TT HH tt kk => XS.aloadN HH hx rfl (hb hby d_jdk_2323_m_44_38) rfl rfl kk) ?_
      have F_79 : Fld Z h_69 x "java/time/LocalDate" "month" "S" (.int (3 : Int32)) := (pf_2.ext E_71)
      refine k_getF hx (host := "") (Or.inl (hw _ (List.mem_of_getElem? (i := 91) rfl))) Via.refl F_79 rfl rfl (hb hby d_jdk_2323_m_44_39) ?_
      show Run p l e _ s m _ below meth c Z EL1 _ n0 NoB h_69 1 3 (mkF m 42 #[.val (.ref x), .val (.long k.toInt64), .second, .val (.long ((22 : Int64) + k.toInt64)), .second, .unset, .unset] [(.int (3 : Int32)), (.int yy), (.ref a_68), (.ref a_68)]) _
      refine k_pure (g' := (mkF m 43 #[.val (.ref x), .val (.long k.toInt64), .second, .val (.long ((22 : Int64) + k.toInt64)), .second, .unset, .unset] [(.long ((22 : Int64) + k.toInt64)), (.int (3 : Int32)), (.int yy), (.ref a_68), (.ref a_68)])) (fun TT HH tt kk => XS.lloadN HH hx rfl (hb hby d_jdk_2323_m_44_42) rfl kk) ?_
      refine k_pure (g' := (mkF m 44 #[.val (.ref x), .val (.long k.toInt64), .second, .val (.long ((22 : Int64) + k.toInt64)), .second, .unset, .unset] [(.int (((22 : Int64) + k.toInt64).toInt32)), (.int (3 : Int32)), (.int yy), (.ref a_68), (.ref a_68)])) (fun TT HH tt kk => XS.l2i HH hx rfl (hb hby d_jdk_2323_m_44_43) rfl kk) ?_
      rw [day_a k1 k2 hd]
      show Run p l e _ s m _ below meth c Z EL1 _ n0 NoB h_69 1 3 (mkF m 44 #[.val (.ref x), .val (.long k.toInt64), .second, .val (.long ((22 : Int64) + k.toInt64)), .second, .unset, .unset] [(.int dd), (.int (3 : Int32)), (.int yy), (.ref a_68), (.ref a_68)]) _
      refine k_callI hx (y := (⟨"java/time/LocalDate", "<init>", "(III)V"⟩ : MethodName)) rfl (hw _ (List.mem_of_getElem? (i := 82) rfl)) (hw _ (List.mem_of_getElem? (i := 83) rfl)) (hw _ (List.mem_of_getElem? (i := 85) rfl)) (by decide) (W := 1) (a := a_68) (argsL := [(.int yy), (.int (3 : Int32)), (.int dd)]) (rest := [(.ref a_68)]) (Pays.of_met (rm_ini l Z a0 gM gY rY gD rD hX hY n0 h_69 O_70 a_68 yy (3 : Int32) dd A_72 (D_73 (Or.inr (hw _ (List.mem_of_getElem? (i := 90) rfl))) (ty := .int) (by decide)) (D_73 (Or.inr (hw _ (List.mem_of_getElem? (i := 92) rfl))) (ty := .short) (by decide)) (D_73 (Or.inr (hw _ (List.mem_of_getElem? (i := 94) rfl))) (ty := .short) (by decide)) (by omega) (by decide) (sh_ok (by omega) (by omega)) []) (hw _ (List.mem_of_getElem? (i := 85) rfl)) (hw _ (List.mem_of_getElem? (i := 9) rfl)) (by decide) (by decide)) rfl (by rw [hml]; rfl) (lenOf pd__28_III_29_V rfl) rfl (by show 2 * 0 + _ ≤ _; exact Nat.le_of_eq rfl) (hb hby d_jdk_2323_m_44_44) (by decide) (by decide) ?_
      intro v_80 h_81 bk_82 O_83 z_84 Q_85
      obtain ⟨rfl, rfl, K_86, F_87, F_88, F_89, F_90⟩ := Q_85
      have lt_91 : @LT.lt Nat _ a_68 (Array.size h_81) := F_87.lt
      have lt_92 : @LT.lt Nat _ a_68 (Array.size h_81) := F_88.lt
      have lt_93 : @LT.lt Nat _ a_68 (Array.size h_81) := F_89.lt
      have lt_94 : @LT.lt Nat _ a_68 (Array.size h_81) := F_90.lt
      show Run p l e _ s m _ below meth c Z EL1 _ n0 NoB h_81 1 3 (mkF m 47 #[.val (.ref x), .val (.long k.toInt64), .second, .val (.long ((22 : Int64) + k.toInt64)), .second, .unset, .unset] [(.ref a_68)]) _
      exact k_retA hx hlk hret rfl rfl rfl (hb hby d_jdk_2323_m_44_47) (by decide) (by decide) ⟨a_68, rfl, rfl, (((Keep.refl _ _).ext E_71).trans K_86 (kkS (Or.inr (by omega)) kk0)), F_87, F_88, F_89, F_90⟩
def Q_est (Z : State) (yy : Int32) (mm : Int32) (dd : Int32) (h0 : Heap) (n0 : Nat) (bk : Addr → Prop) (v : Option Value) (h : Heap) (bk' : Addr → Prop) : Prop := ∃ (z : Addr), v = some (.ref z) ∧ NoB = bk' ∧ Keep h0 h [] ∧ (Exa Z h z "java/time/LocalDate") ∧ (Fld Z h z "java/time/LocalDate" "year" "I" (.int yy)) ∧ (Fld Z h z "java/time/LocalDate" "month" "S" (.int mm)) ∧ (Fld Z h z "java/time/LocalDate" "day" "S" (.int dd))
theorem d_prog_13_m_15_0 : decode prog_13_method_15_code 0 = .ok (.iload_n 0, 1) := by decide +kernel
theorem d_prog_13_m_15_1 : decode prog_13_method_15_code 1 = .ok (.bipush 19, 2) := by decide +kernel
theorem d_prog_13_m_15_3 : decode prog_13_method_15_code 3 = .ok (.irem, 1) := by decide +kernel
theorem d_prog_13_m_15_4 : decode prog_13_method_15_code 4 = .ok (.istore_n 1, 1) := by decide +kernel
theorem d_prog_13_m_15_5 : decode prog_13_method_15_code 5 = .ok (.iload_n 0, 1) := by decide +kernel
theorem d_prog_13_m_15_6 : decode prog_13_method_15_code 6 = .ok (.bipush 100, 2) := by decide +kernel
theorem d_prog_13_m_15_8 : decode prog_13_method_15_code 8 = .ok (.idiv, 1) := by decide +kernel
theorem d_prog_13_m_15_9 : decode prog_13_method_15_code 9 = .ok (.istore_n 2, 1) := by decide +kernel
theorem d_prog_13_m_15_10 : decode prog_13_method_15_code 10 = .ok (.iload_n 0, 1) := by decide +kernel
theorem d_prog_13_m_15_11 : decode prog_13_method_15_code 11 = .ok (.bipush 100, 2) := by decide +kernel
theorem d_prog_13_m_15_13 : decode prog_13_method_15_code 13 = .ok (.irem, 1) := by decide +kernel
theorem d_prog_13_m_15_14 : decode prog_13_method_15_code 14 = .ok (.istore_n 3, 1) := by decide +kernel
theorem d_prog_13_m_15_15 : decode prog_13_method_15_code 15 = .ok (.iload_n 2, 1) := by decide +kernel
theorem d_prog_13_m_15_16 : decode prog_13_method_15_code 16 = .ok (.iconst 4, 1) := by decide +kernel
theorem d_prog_13_m_15_17 : decode prog_13_method_15_code 17 = .ok (.idiv, 1) := by decide +kernel
theorem d_prog_13_m_15_18 : decode prog_13_method_15_code 18 = .ok (.istore 4, 2) := by decide +kernel
theorem d_prog_13_m_15_20 : decode prog_13_method_15_code 20 = .ok (.iload_n 2, 1) := by decide +kernel
theorem d_prog_13_m_15_21 : decode prog_13_method_15_code 21 = .ok (.iconst 4, 1) := by decide +kernel
theorem d_prog_13_m_15_22 : decode prog_13_method_15_code 22 = .ok (.irem, 1) := by decide +kernel
theorem d_prog_13_m_15_23 : decode prog_13_method_15_code 23 = .ok (.istore 5, 2) := by decide +kernel
theorem d_prog_13_m_15_25 : decode prog_13_method_15_code 25 = .ok (.iload_n 2, 1) := by decide +kernel
theorem d_prog_13_m_15_26 : decode prog_13_method_15_code 26 = .ok (.bipush 8, 2) := by decide +kernel
theorem d_prog_13_m_15_28 : decode prog_13_method_15_code 28 = .ok (.iadd, 1) := by decide +kernel
theorem d_prog_13_m_15_29 : decode prog_13_method_15_code 29 = .ok (.bipush 25, 2) := by decide +kernel
theorem d_prog_13_m_15_31 : decode prog_13_method_15_code 31 = .ok (.idiv, 1) := by decide +kernel
theorem d_prog_13_m_15_32 : decode prog_13_method_15_code 32 = .ok (.istore 6, 2) := by decide +kernel
theorem d_prog_13_m_15_34 : decode prog_13_method_15_code 34 = .ok (.iload_n 2, 1) := by decide +kernel
theorem d_prog_13_m_15_35 : decode prog_13_method_15_code 35 = .ok (.iload 6, 2) := by decide +kernel
theorem d_prog_13_m_15_37 : decode prog_13_method_15_code 37 = .ok (.isub, 1) := by decide +kernel
theorem d_prog_13_m_15_38 : decode prog_13_method_15_code 38 = .ok (.iconst 1, 1) := by decide +kernel
theorem d_prog_13_m_15_39 : decode prog_13_method_15_code 39 = .ok (.iadd, 1) := by decide +kernel
theorem d_prog_13_m_15_40 : decode prog_13_method_15_code 40 = .ok (.iconst 3, 1) := by decide +kernel
theorem d_prog_13_m_15_41 : decode prog_13_method_15_code 41 = .ok (.idiv, 1) := by decide +kernel
theorem d_prog_13_m_15_42 : decode prog_13_method_15_code 42 = .ok (.istore 7, 2) := by decide +kernel
theorem d_prog_13_m_15_44 : decode prog_13_method_15_code 44 = .ok (.bipush 19, 2) := by decide +kernel
theorem d_prog_13_m_15_46 : decode prog_13_method_15_code 46 = .ok (.iload_n 1, 1) := by decide +kernel
theorem d_prog_13_m_15_47 : decode prog_13_method_15_code 47 = .ok (.imul, 1) := by decide +kernel
theorem d_prog_13_m_15_48 : decode prog_13_method_15_code 48 = .ok (.iload_n 2, 1) := by decide +kernel
theorem d_prog_13_m_15_49 : decode prog_13_method_15_code 49 = .ok (.iadd, 1) := by decide +kernel
theorem d_prog_13_m_15_50 : decode prog_13_method_15_code 50 = .ok (.iload 4, 2) := by decide +kernel
theorem d_prog_13_m_15_52 : decode prog_13_method_15_code 52 = .ok (.isub, 1) := by decide +kernel
theorem d_prog_13_m_15_53 : decode prog_13_method_15_code 53 = .ok (.iload 7, 2) := by decide +kernel
theorem d_prog_13_m_15_55 : decode prog_13_method_15_code 55 = .ok (.isub, 1) := by decide +kernel
theorem d_prog_13_m_15_56 : decode prog_13_method_15_code 56 = .ok (.bipush 15, 2) := by decide +kernel
theorem d_prog_13_m_15_58 : decode prog_13_method_15_code 58 = .ok (.iadd, 1) := by decide +kernel
theorem d_prog_13_m_15_59 : decode prog_13_method_15_code 59 = .ok (.bipush 30, 2) := by decide +kernel
theorem d_prog_13_m_15_61 : decode prog_13_method_15_code 61 = .ok (.irem, 1) := by decide +kernel
theorem d_prog_13_m_15_62 : decode prog_13_method_15_code 62 = .ok (.istore 8, 2) := by decide +kernel
theorem d_prog_13_m_15_64 : decode prog_13_method_15_code 64 = .ok (.iload_n 3, 1) := by decide +kernel
theorem d_prog_13_m_15_65 : decode prog_13_method_15_code 65 = .ok (.iconst 4, 1) := by decide +kernel
theorem d_prog_13_m_15_66 : decode prog_13_method_15_code 66 = .ok (.idiv, 1) := by decide +kernel
theorem d_prog_13_m_15_67 : decode prog_13_method_15_code 67 = .ok (.istore 9, 2) := by decide +kernel
theorem d_prog_13_m_15_69 : decode prog_13_method_15_code 69 = .ok (.iload_n 3, 1) := by decide +kernel
theorem d_prog_13_m_15_70 : decode prog_13_method_15_code 70 = .ok (.iconst 4, 1) := by decide +kernel
theorem d_prog_13_m_15_71 : decode prog_13_method_15_code 71 = .ok (.irem, 1) := by decide +kernel
theorem d_prog_13_m_15_72 : decode prog_13_method_15_code 72 = .ok (.istore 10, 2) := by decide +kernel
theorem d_prog_13_m_15_74 : decode prog_13_method_15_code 74 = .ok (.bipush 32, 2) := by decide +kernel
theorem d_prog_13_m_15_76 : decode prog_13_method_15_code 76 = .ok (.iconst 2, 1) := by decide +kernel
theorem d_prog_13_m_15_77 : decode prog_13_method_15_code 77 = .ok (.iload 5, 2) := by decide +kernel
theorem d_prog_13_m_15_79 : decode prog_13_method_15_code 79 = .ok (.imul, 1) := by decide +kernel
theorem d_prog_13_m_15_80 : decode prog_13_method_15_code 80 = .ok (.iadd, 1) := by decide +kernel
theorem d_prog_13_m_15_81 : decode prog_13_method_15_code 81 = .ok (.iconst 2, 1) := by decide +kernel
theorem d_prog_13_m_15_82 : decode prog_13_method_15_code 82 = .ok (.iload 9, 2) := by decide +kernel
theorem d_prog_13_m_15_84 : decode prog_13_method_15_code 84 = .ok (.imul, 1) := by decide +kernel
theorem d_prog_13_m_15_85 : decode prog_13_method_15_code 85 = .ok (.iadd, 1) := by decide +kernel
theorem d_prog_13_m_15_86 : decode prog_13_method_15_code 86 = .ok (.iload 8, 2) := by decide +kernel
theorem d_prog_13_m_15_88 : decode prog_13_method_15_code 88 = .ok (.isub, 1) := by decide +kernel
theorem d_prog_13_m_15_89 : decode prog_13_method_15_code 89 = .ok (.iload 10, 2) := by decide +kernel
theorem d_prog_13_m_15_91 : decode prog_13_method_15_code 91 = .ok (.isub, 1) := by decide +kernel
theorem d_prog_13_m_15_92 : decode prog_13_method_15_code 92 = .ok (.bipush 7, 2) := by decide +kernel
theorem d_prog_13_m_15_94 : decode prog_13_method_15_code 94 = .ok (.irem, 1) := by decide +kernel
theorem d_prog_13_m_15_95 : decode prog_13_method_15_code 95 = .ok (.istore 11, 2) := by decide +kernel
theorem d_prog_13_m_15_97 : decode prog_13_method_15_code 97 = .ok (.iload_n 1, 1) := by decide +kernel
theorem d_prog_13_m_15_98 : decode prog_13_method_15_code 98 = .ok (.bipush 11, 2) := by decide +kernel
theorem d_prog_13_m_15_100 : decode prog_13_method_15_code 100 = .ok (.iload 8, 2) := by decide +kernel
theorem d_prog_13_m_15_102 : decode prog_13_method_15_code 102 = .ok (.imul, 1) := by decide +kernel
theorem d_prog_13_m_15_103 : decode prog_13_method_15_code 103 = .ok (.iadd, 1) := by decide +kernel
theorem d_prog_13_m_15_104 : decode prog_13_method_15_code 104 = .ok (.bipush 22, 2) := by decide +kernel
theorem d_prog_13_m_15_106 : decode prog_13_method_15_code 106 = .ok (.iload 11, 2) := by decide +kernel
theorem d_prog_13_m_15_108 : decode prog_13_method_15_code 108 = .ok (.imul, 1) := by decide +kernel
theorem d_prog_13_m_15_109 : decode prog_13_method_15_code 109 = .ok (.iadd, 1) := by decide +kernel
theorem d_prog_13_m_15_110 : decode prog_13_method_15_code 110 = .ok (.sipush 451, 3) := by decide +kernel
theorem d_prog_13_m_15_113 : decode prog_13_method_15_code 113 = .ok (.idiv, 1) := by decide +kernel
theorem d_prog_13_m_15_114 : decode prog_13_method_15_code 114 = .ok (.istore 12, 2) := by decide +kernel
theorem d_prog_13_m_15_116 : decode prog_13_method_15_code 116 = .ok (.iload 8, 2) := by decide +kernel
theorem d_prog_13_m_15_118 : decode prog_13_method_15_code 118 = .ok (.iload 11, 2) := by decide +kernel
theorem d_prog_13_m_15_120 : decode prog_13_method_15_code 120 = .ok (.iadd, 1) := by decide +kernel
theorem d_prog_13_m_15_121 : decode prog_13_method_15_code 121 = .ok (.bipush 7, 2) := by decide +kernel
theorem d_prog_13_m_15_123 : decode prog_13_method_15_code 123 = .ok (.iload 12, 2) := by decide +kernel
theorem d_prog_13_m_15_125 : decode prog_13_method_15_code 125 = .ok (.imul, 1) := by decide +kernel
theorem d_prog_13_m_15_126 : decode prog_13_method_15_code 126 = .ok (.isub, 1) := by decide +kernel
theorem d_prog_13_m_15_127 : decode prog_13_method_15_code 127 = .ok (.istore 13, 2) := by decide +kernel
theorem d_prog_13_m_15_129 : decode prog_13_method_15_code 129 = .ok (.iload_n 0, 1) := by decide +kernel
theorem d_prog_13_m_15_130 : decode prog_13_method_15_code 130 = .ok (.getstatic 147, 3) := by decide +kernel
theorem d_prog_13_m_15_133 : decode prog_13_method_15_code 133 = .ok (.bipush 22, 2) := by decide +kernel
theorem d_prog_13_m_15_135 : decode prog_13_method_15_code 135 = .ok (.invokestatic 119, 3) := by decide +kernel
theorem pd__28_ILjava_2f_time_2f_Month_3b_I_29_Ljava_2f_time_2f_LocalDate_3b_ : parseMethodDescriptor "(ILjava/time/Month;I)Ljava/time/LocalDate;" = some ⟨[.int, (.object "java/time/Month"), .int], some (.object "java/time/LocalDate")⟩ := by decide +kernel
theorem d_prog_13_m_15_138 : decode prog_13_method_15_code 138 = .ok (.iload 13, 2) := by decide +kernel
theorem d_prog_13_m_15_140 : decode prog_13_method_15_code 140 = .ok (.i2l, 1) := by decide +kernel
theorem d_prog_13_m_15_141 : decode prog_13_method_15_code 141 = .ok (.invokevirtual 137, 3) := by decide +kernel
theorem pd__28_J_29_Ljava_2f_time_2f_LocalDate_3b_ : parseMethodDescriptor "(J)Ljava/time/LocalDate;" = some ⟨[.long], some (.object "java/time/LocalDate")⟩ := by decide +kernel
theorem d_prog_13_m_15_144 : decode prog_13_method_15_code 144 = .ok (.areturn, 1) := by decide +kernel
abbrev RM_est : Room := { frames := 5, cells := 4, slots := 30, locals := 71 }
theorem ef_est (m : MethodId) (x0 : Int32) : entryFrame m #[(.int x0)] 14 = mkF m 0 #[.val (.int x0), .unset, .unset, .unset, .unset, .unset, .unset, .unset, .unset, .unset, .unset, .unset, .unset, .unset] [] := by first | (simp [entryFrame, mkF, argsToLocals, Value.category]; done) | rfl
set_option maxRecDepth 65536 in
set_option maxHeartbeats 40000000 in
theorem rm_est (l : Launch) (Z : State) (a0 : Array Value) (gM gY rY gD rD : Addr) (hX : Ctx Z a0) (hY : More Z gM gY rY gD rD) (n0 : Nat) (h0 : Heap) (O0 : Old Z n0 h0) (yy : Int32) (mm : Int32) (dd : Int32) (y1 : 0 ≤ yy.toInt) (y2 : yy.toInt ≤ 5000) (k1 : 0 ≤ (e13 yy).toInt) (k2 : (e13 yy).toInt ≤ 34) (ha : (e13 yy).toInt ≤ 9 → mm = 3 ∧ dd.toInt = 22 + (e13 yy).toInt) (hb9 : 9 < (e13 yy).toInt → mm = 4 ∧ dd.toInt = (e13 yy).toInt - 9) (ws : List Jvm.Cond) : Met l Z EL1 n0 NoB (⟨"com/example/ratable/ratable/HolidayCalendar", "easterSunday", "(I)Ljava/time/LocalDate;"⟩ : MethodName) prog_13_method_15_code 14 (Option.some (FieldType.object "java/time/LocalDate")) RM_est #[(.int yy)] h0 (Q_est Z yy mm dd h0 n0 NoB) ws := by
  have hX' := hX
  obtain ⟨hw, hE⟩ := hX'
  have hY' := hY
  obtain ⟨sM, xM, oM, sY, xY, fY, yY, iY, aY, sD, xD, fD, yD, iD, aD⟩ := hY'
  have hSA := sa_of hw
  have z0 : n0 ≤ h0.size := by rw [← O0.1]; exact O0.2.1
  refine Met.of (by decide +kernel) O0 hE ?_
  intro p e s m below meth c hx hby hml hret hlk hnm
  refine k_cast (ef_est m yy) ?_
  show Run p l e _ s m _ below meth c Z EL1 _ n0 NoB h0 0 0 (mkF m 0 #[.val (.int yy), .unset, .unset, .unset, .unset, .unset, .unset, .unset, .unset, .unset, .unset, .unset, .unset, .unset] []) _
  refine k_pure (g' := (mkF m 1 #[.val (.int yy), .unset, .unset, .unset, .unset, .unset, .unset, .unset, .unset, .unset, .unset, .unset, .unset, .unset] [(.int yy)])) (fun TT HH tt kk => XS.iloadN HH hx rfl (hb hby d_prog_13_m_15_0) rfl kk) ?_
  refine k_pure (g' := (mkF m 3 #[.val (.int yy), .unset, .unset, .unset, .unset, .unset, .unset, .unset, .unset, .unset, .unset, .unset, .unset, .unset] [(.int (19 : Int32)), (.int yy)])) (fun TT HH tt kk => XS.bipush HH hx rfl (hb hby d_prog_13_m_15_1) kk) ?_
  refine k_pure (g' := (mkF m 4 #[.val (.int yy), .unset, .unset, .unset, .unset, .unset, .unset, .unset, .unset, .unset, .unset, .unset, .unset, .unset] [(.int (yy % (19 : Int32)))])) (fun TT HH tt kk => s_irem HH hx rfl (hb hby d_prog_13_m_15_3) rfl (by decide) kk) ?_
  refine k_pure (g' := (mkF m 5 #[.val (.int yy), .val (.int (yy % (19 : Int32))), .unset, .unset, .unset, .unset, .unset, .unset, .unset, .unset, .unset, .unset, .unset, .unset] [])) (fun TT HH tt kk => XS.istoreN HH hx rfl (hb hby d_prog_13_m_15_4) rfl (l' := #[.val (.int yy), .val (.int (yy % (19 : Int32))), .unset, .unset, .unset, .unset, .unset, .unset, .unset, .unset, .unset, .unset, .unset, .unset]) rfl kk) ?_
  show Run p l e _ s m _ below meth c Z EL1 _ n0 NoB h0 0 0 (mkF m 5 #[.val (.int yy), .val (.int (e1 yy)), .unset, .unset, .unset, .unset, .unset, .unset, .unset, .unset, .unset, .unset, .unset, .unset] []) _
  refine k_pure (g' := (mkF m 6 #[.val (.int yy), .val (.int (e1 yy)), .unset, .unset, .unset, .unset, .unset, .unset, .unset, .unset, .unset, .unset, .unset, .unset] [(.int yy)])) (fun TT HH tt kk => XS.iloadN HH hx rfl (hb hby d_prog_13_m_15_5) rfl kk) ?_
  refine k_pure (g' := (mkF m 8 #[.val (.int yy), .val (.int (e1 yy)), .unset, .unset, .unset, .unset, .unset, .unset, .unset, .unset, .unset, .unset, .unset, .unset] [(.int (100 : Int32)), (.int yy)])) (fun TT HH tt kk => XS.bipush HH hx rfl (hb hby d_prog_13_m_15_6) kk) ?_
  refine k_pure (g' := (mkF m 9 #[.val (.int yy), .val (.int (e1 yy)), .unset, .unset, .unset, .unset, .unset, .unset, .unset, .unset, .unset, .unset, .unset, .unset] [(.int (yy / (100 : Int32)))])) (fun TT HH tt kk => XS.idiv HH hx rfl (hb hby d_prog_13_m_15_8) rfl (by decide) kk) ?_
  refine k_pure (g' := (mkF m 10 #[.val (.int yy), .val (.int (e1 yy)), .val (.int (yy / (100 : Int32))), .unset, .unset, .unset, .unset, .unset, .unset, .unset, .unset, .unset, .unset, .unset] [])) (fun TT HH tt kk => XS.istoreN HH hx rfl (hb hby d_prog_13_m_15_9) rfl (l' := #[.val (.int yy), .val (.int (e1 yy)), .val (.int (yy / (100 : Int32))), .unset, .unset, .unset, .unset, .unset, .unset, .unset, .unset, .unset, .unset, .unset]) rfl kk) ?_
  show Run p l e _ s m _ below meth c Z EL1 _ n0 NoB h0 0 0 (mkF m 10 #[.val (.int yy), .val (.int (e1 yy)), .val (.int (e2 yy)), .unset, .unset, .unset, .unset, .unset, .unset, .unset, .unset, .unset, .unset, .unset] []) _
  refine k_pure (g' := (mkF m 11 #[.val (.int yy), .val (.int (e1 yy)), .val (.int (e2 yy)), .unset, .unset, .unset, .unset, .unset, .unset, .unset, .unset, .unset, .unset, .unset] [(.int yy)])) (fun TT HH tt kk => XS.iloadN HH hx rfl (hb hby d_prog_13_m_15_10) rfl kk) ?_
  refine k_pure (g' := (mkF m 13 #[.val (.int yy), .val (.int (e1 yy)), .val (.int (e2 yy)), .unset, .unset, .unset, .unset, .unset, .unset, .unset, .unset, .unset, .unset, .unset] [(.int (100 : Int32)), (.int yy)])) (fun TT HH tt kk => XS.bipush HH hx rfl (hb hby d_prog_13_m_15_11) kk) ?_
  refine k_pure (g' := (mkF m 14 #[.val (.int yy), .val (.int (e1 yy)), .val (.int (e2 yy)), .unset, .unset, .unset, .unset, .unset, .unset, .unset, .unset, .unset, .unset, .unset] [(.int (yy % (100 : Int32)))])) (fun TT HH tt kk => s_irem HH hx rfl (hb hby d_prog_13_m_15_13) rfl (by decide) kk) ?_
  refine k_pure (g' := (mkF m 15 #[.val (.int yy), .val (.int (e1 yy)), .val (.int (e2 yy)), .val (.int (yy % (100 : Int32))), .unset, .unset, .unset, .unset, .unset, .unset, .unset, .unset, .unset, .unset] [])) (fun TT HH tt kk => XS.istoreN HH hx rfl (hb hby d_prog_13_m_15_14) rfl (l' := #[.val (.int yy), .val (.int (e1 yy)), .val (.int (e2 yy)), .val (.int (yy % (100 : Int32))), .unset, .unset, .unset, .unset, .unset, .unset, .unset, .unset, .unset, .unset]) rfl kk) ?_
  show Run p l e _ s m _ below meth c Z EL1 _ n0 NoB h0 0 0 (mkF m 15 #[.val (.int yy), .val (.int (e1 yy)), .val (.int (e2 yy)), .val (.int (e3 yy)), .unset, .unset, .unset, .unset, .unset, .unset, .unset, .unset, .unset, .unset] []) _
  refine k_pure (g' := (mkF m 16 #[.val (.int yy), .val (.int (e1 yy)), .val (.int (e2 yy)), .val (.int (e3 yy)), .unset, .unset, .unset, .unset, .unset, .unset, .unset, .unset, .unset, .unset] [(.int (e2 yy))])) (fun TT HH tt kk => XS.iloadN HH hx rfl (hb hby d_prog_13_m_15_15) rfl kk) ?_
  refine k_pure (g' := (mkF m 17 #[.val (.int yy), .val (.int (e1 yy)), .val (.int (e2 yy)), .val (.int (e3 yy)), .unset, .unset, .unset, .unset, .unset, .unset, .unset, .unset, .unset, .unset] [(.int (4 : Int32)), (.int (e2 yy))])) (fun TT HH tt kk => XS.iconst HH hx rfl (hb hby d_prog_13_m_15_16) kk) ?_
  refine k_pure (g' := (mkF m 18 #[.val (.int yy), .val (.int (e1 yy)), .val (.int (e2 yy)), .val (.int (e3 yy)), .unset, .unset, .unset, .unset, .unset, .unset, .unset, .unset, .unset, .unset] [(.int ((e2 yy) / (4 : Int32)))])) (fun TT HH tt kk => XS.idiv HH hx rfl (hb hby d_prog_13_m_15_17) rfl (by decide) kk) ?_
  refine k_pure (g' := (mkF m 20 #[.val (.int yy), .val (.int (e1 yy)), .val (.int (e2 yy)), .val (.int (e3 yy)), .val (.int ((e2 yy) / (4 : Int32))), .unset, .unset, .unset, .unset, .unset, .unset, .unset, .unset, .unset] [])) (fun TT HH tt kk => XS.istore HH hx rfl (hb hby d_prog_13_m_15_18) rfl (l' := #[.val (.int yy), .val (.int (e1 yy)), .val (.int (e2 yy)), .val (.int (e3 yy)), .val (.int ((e2 yy) / (4 : Int32))), .unset, .unset, .unset, .unset, .unset, .unset, .unset, .unset, .unset]) rfl kk) ?_
  show Run p l e _ s m _ below meth c Z EL1 _ n0 NoB h0 0 0 (mkF m 20 #[.val (.int yy), .val (.int (e1 yy)), .val (.int (e2 yy)), .val (.int (e3 yy)), .val (.int (e4 yy)), .unset, .unset, .unset, .unset, .unset, .unset, .unset, .unset, .unset] []) _
  refine k_pure (g' := (mkF m 21 #[.val (.int yy), .val (.int (e1 yy)), .val (.int (e2 yy)), .val (.int (e3 yy)), .val (.int (e4 yy)), .unset, .unset, .unset, .unset, .unset, .unset, .unset, .unset, .unset] [(.int (e2 yy))])) (fun TT HH tt kk => XS.iloadN HH hx rfl (hb hby d_prog_13_m_15_20) rfl kk) ?_
  refine k_pure (g' := (mkF m 22 #[.val (.int yy), .val (.int (e1 yy)), .val (.int (e2 yy)), .val (.int (e3 yy)), .val (.int (e4 yy)), .unset, .unset, .unset, .unset, .unset, .unset, .unset, .unset, .unset] [(.int (4 : Int32)), (.int (e2 yy))])) (fun TT HH tt kk => XS.iconst HH hx rfl (hb hby d_prog_13_m_15_21) kk) ?_
  refine k_pure (g' := (mkF m 23 #[.val (.int yy), .val (.int (e1 yy)), .val (.int (e2 yy)), .val (.int (e3 yy)), .val (.int (e4 yy)), .unset, .unset, .unset, .unset, .unset, .unset, .unset, .unset, .unset] [(.int ((e2 yy) % (4 : Int32)))])) (fun TT HH tt kk => s_irem HH hx rfl (hb hby d_prog_13_m_15_22) rfl (by decide) kk) ?_
  refine k_pure (g' := (mkF m 25 #[.val (.int yy), .val (.int (e1 yy)), .val (.int (e2 yy)), .val (.int (e3 yy)), .val (.int (e4 yy)), .val (.int ((e2 yy) % (4 : Int32))), .unset, .unset, .unset, .unset, .unset, .unset, .unset, .unset] [])) (fun TT HH tt kk => XS.istore HH hx rfl (hb hby d_prog_13_m_15_23) rfl (l' := #[.val (.int yy), .val (.int (e1 yy)), .val (.int (e2 yy)), .val (.int (e3 yy)), .val (.int (e4 yy)), .val (.int ((e2 yy) % (4 : Int32))), .unset, .unset, .unset, .unset, .unset, .unset, .unset, .unset]) rfl kk) ?_
  show Run p l e _ s m _ below meth c Z EL1 _ n0 NoB h0 0 0 (mkF m 25 #[.val (.int yy), .val (.int (e1 yy)), .val (.int (e2 yy)), .val (.int (e3 yy)), .val (.int (e4 yy)), .val (.int (e5 yy)), .unset, .unset, .unset, .unset, .unset, .unset, .unset, .unset] []) _
  refine k_pure (g' := (mkF m 26 #[.val (.int yy), .val (.int (e1 yy)), .val (.int (e2 yy)), .val (.int (e3 yy)), .val (.int (e4 yy)), .val (.int (e5 yy)), .unset, .unset, .unset, .unset, .unset, .unset, .unset, .unset] [(.int (e2 yy))])) (fun TT HH tt kk => XS.iloadN HH hx rfl (hb hby d_prog_13_m_15_25) rfl kk) ?_
  refine k_pure (g' := (mkF m 28 #[.val (.int yy), .val (.int (e1 yy)), .val (.int (e2 yy)), .val (.int (e3 yy)), .val (.int (e4 yy)), .val (.int (e5 yy)), .unset, .unset, .unset, .unset, .unset, .unset, .unset, .unset] [(.int (8 : Int32)), (.int (e2 yy))])) (fun TT HH tt kk => XS.bipush HH hx rfl (hb hby d_prog_13_m_15_26) kk) ?_
  refine k_pure (g' := (mkF m 29 #[.val (.int yy), .val (.int (e1 yy)), .val (.int (e2 yy)), .val (.int (e3 yy)), .val (.int (e4 yy)), .val (.int (e5 yy)), .unset, .unset, .unset, .unset, .unset, .unset, .unset, .unset] [(.int ((e2 yy) + (8 : Int32)))])) (fun TT HH tt kk => XS.iadd HH hx rfl (hb hby d_prog_13_m_15_28) rfl kk) ?_
  refine k_pure (g' := (mkF m 31 #[.val (.int yy), .val (.int (e1 yy)), .val (.int (e2 yy)), .val (.int (e3 yy)), .val (.int (e4 yy)), .val (.int (e5 yy)), .unset, .unset, .unset, .unset, .unset, .unset, .unset, .unset] [(.int (25 : Int32)), (.int ((e2 yy) + (8 : Int32)))])) (fun TT HH tt kk => XS.bipush HH hx rfl (hb hby d_prog_13_m_15_29) kk) ?_
  refine k_pure (g' := (mkF m 32 #[.val (.int yy), .val (.int (e1 yy)), .val (.int (e2 yy)), .val (.int (e3 yy)), .val (.int (e4 yy)), .val (.int (e5 yy)), .unset, .unset, .unset, .unset, .unset, .unset, .unset, .unset] [(.int (((e2 yy) + (8 : Int32)) / (25 : Int32)))])) (fun TT HH tt kk => XS.idiv HH hx rfl (hb hby d_prog_13_m_15_31) rfl (by decide) kk) ?_
  refine k_pure (g' := (mkF m 34 #[.val (.int yy), .val (.int (e1 yy)), .val (.int (e2 yy)), .val (.int (e3 yy)), .val (.int (e4 yy)), .val (.int (e5 yy)), .val (.int (((e2 yy) + (8 : Int32)) / (25 : Int32))), .unset, .unset, .unset, .unset, .unset, .unset, .unset] [])) (fun TT HH tt kk => XS.istore HH hx rfl (hb hby d_prog_13_m_15_32) rfl (l' := #[.val (.int yy), .val (.int (e1 yy)), .val (.int (e2 yy)), .val (.int (e3 yy)), .val (.int (e4 yy)), .val (.int (e5 yy)), .val (.int (((e2 yy) + (8 : Int32)) / (25 : Int32))), .unset, .unset, .unset, .unset, .unset, .unset, .unset]) rfl kk) ?_
  show Run p l e _ s m _ below meth c Z EL1 _ n0 NoB h0 0 0 (mkF m 34 #[.val (.int yy), .val (.int (e1 yy)), .val (.int (e2 yy)), .val (.int (e3 yy)), .val (.int (e4 yy)), .val (.int (e5 yy)), .val (.int (e6 yy)), .unset, .unset, .unset, .unset, .unset, .unset, .unset] []) _
  refine k_pure (g' := (mkF m 35 #[.val (.int yy), .val (.int (e1 yy)), .val (.int (e2 yy)), .val (.int (e3 yy)), .val (.int (e4 yy)), .val (.int (e5 yy)), .val (.int (e6 yy)), .unset, .unset, .unset, .unset, .unset, .unset, .unset] [(.int (e2 yy))])) (fun TT HH tt kk => XS.iloadN HH hx rfl (hb hby d_prog_13_m_15_34) rfl kk) ?_
  refine k_pure (g' := (mkF m 37 #[.val (.int yy), .val (.int (e1 yy)), .val (.int (e2 yy)), .val (.int (e3 yy)), .val (.int (e4 yy)), .val (.int (e5 yy)), .val (.int (e6 yy)), .unset, .unset, .unset, .unset, .unset, .unset, .unset] [(.int (e6 yy)), (.int (e2 yy))])) (fun TT HH tt kk => XS.iload HH hx rfl (hb hby d_prog_13_m_15_35) rfl kk) ?_
  refine k_pure (g' := (mkF m 38 #[.val (.int yy), .val (.int (e1 yy)), .val (.int (e2 yy)), .val (.int (e3 yy)), .val (.int (e4 yy)), .val (.int (e5 yy)), .val (.int (e6 yy)), .unset, .unset, .unset, .unset, .unset, .unset, .unset] [(.int ((e2 yy) - (e6 yy)))])) (fun TT HH tt kk => XS.isub HH hx rfl (hb hby d_prog_13_m_15_37) rfl kk) ?_
  refine k_pure (g' := (mkF m 39 #[.val (.int yy), .val (.int (e1 yy)), .val (.int (e2 yy)), .val (.int (e3 yy)), .val (.int (e4 yy)), .val (.int (e5 yy)), .val (.int (e6 yy)), .unset, .unset, .unset, .unset, .unset, .unset, .unset] [(.int (1 : Int32)), (.int ((e2 yy) - (e6 yy)))])) (fun TT HH tt kk => XS.iconst HH hx rfl (hb hby d_prog_13_m_15_38) kk) ?_
  refine k_pure (g' := (mkF m 40 #[.val (.int yy), .val (.int (e1 yy)), .val (.int (e2 yy)), .val (.int (e3 yy)), .val (.int (e4 yy)), .val (.int (e5 yy)), .val (.int (e6 yy)), .unset, .unset, .unset, .unset, .unset, .unset, .unset] [(.int (((e2 yy) - (e6 yy)) + (1 : Int32)))])) (fun TT HH tt kk => XS.iadd HH hx rfl (hb hby d_prog_13_m_15_39) rfl kk) ?_
  refine k_pure (g' := (mkF m 41 #[.val (.int yy), .val (.int (e1 yy)), .val (.int (e2 yy)), .val (.int (e3 yy)), .val (.int (e4 yy)), .val (.int (e5 yy)), .val (.int (e6 yy)), .unset, .unset, .unset, .unset, .unset, .unset, .unset] [(.int (3 : Int32)), (.int (((e2 yy) - (e6 yy)) + (1 : Int32)))])) (fun TT HH tt kk => XS.iconst HH hx rfl (hb hby d_prog_13_m_15_40) kk) ?_
  refine k_pure (g' := (mkF m 42 #[.val (.int yy), .val (.int (e1 yy)), .val (.int (e2 yy)), .val (.int (e3 yy)), .val (.int (e4 yy)), .val (.int (e5 yy)), .val (.int (e6 yy)), .unset, .unset, .unset, .unset, .unset, .unset, .unset] [(.int ((((e2 yy) - (e6 yy)) + (1 : Int32)) / (3 : Int32)))])) (fun TT HH tt kk => XS.idiv HH hx rfl (hb hby d_prog_13_m_15_41) rfl (by decide) kk) ?_
  refine k_pure (g' := (mkF m 44 #[.val (.int yy), .val (.int (e1 yy)), .val (.int (e2 yy)), .val (.int (e3 yy)), .val (.int (e4 yy)), .val (.int (e5 yy)), .val (.int (e6 yy)), .val (.int ((((e2 yy) - (e6 yy)) + (1 : Int32)) / (3 : Int32))), .unset, .unset, .unset, .unset, .unset, .unset] [])) (fun TT HH tt kk => XS.istore HH hx rfl (hb hby d_prog_13_m_15_42) rfl (l' := #[.val (.int yy), .val (.int (e1 yy)), .val (.int (e2 yy)), .val (.int (e3 yy)), .val (.int (e4 yy)), .val (.int (e5 yy)), .val (.int (e6 yy)), .val (.int ((((e2 yy) - (e6 yy)) + (1 : Int32)) / (3 : Int32))), .unset, .unset, .unset, .unset, .unset, .unset]) rfl kk) ?_
  show Run p l e _ s m _ below meth c Z EL1 _ n0 NoB h0 0 0 (mkF m 44 #[.val (.int yy), .val (.int (e1 yy)), .val (.int (e2 yy)), .val (.int (e3 yy)), .val (.int (e4 yy)), .val (.int (e5 yy)), .val (.int (e6 yy)), .val (.int (e7 yy)), .unset, .unset, .unset, .unset, .unset, .unset] []) _
  refine k_pure (g' := (mkF m 46 #[.val (.int yy), .val (.int (e1 yy)), .val (.int (e2 yy)), .val (.int (e3 yy)), .val (.int (e4 yy)), .val (.int (e5 yy)), .val (.int (e6 yy)), .val (.int (e7 yy)), .unset, .unset, .unset, .unset, .unset, .unset] [(.int (19 : Int32))])) (fun TT HH tt kk => XS.bipush HH hx rfl (hb hby d_prog_13_m_15_44) kk) ?_
  refine k_pure (g' := (mkF m 47 #[.val (.int yy), .val (.int (e1 yy)), .val (.int (e2 yy)), .val (.int (e3 yy)), .val (.int (e4 yy)), .val (.int (e5 yy)), .val (.int (e6 yy)), .val (.int (e7 yy)), .unset, .unset, .unset, .unset, .unset, .unset] [(.int (e1 yy)), (.int (19 : Int32))])) (fun TT HH tt kk => XS.iloadN HH hx rfl (hb hby d_prog_13_m_15_46) rfl kk) ?_
  refine k_pure (g' := (mkF m 48 #[.val (.int yy), .val (.int (e1 yy)), .val (.int (e2 yy)), .val (.int (e3 yy)), .val (.int (e4 yy)), .val (.int (e5 yy)), .val (.int (e6 yy)), .val (.int (e7 yy)), .unset, .unset, .unset, .unset, .unset, .unset] [(.int ((19 : Int32) * (e1 yy)))])) (fun TT HH tt kk => XS.imul HH hx rfl (hb hby d_prog_13_m_15_47) rfl kk) ?_
  refine k_pure (g' := (mkF m 49 #[.val (.int yy), .val (.int (e1 yy)), .val (.int (e2 yy)), .val (.int (e3 yy)), .val (.int (e4 yy)), .val (.int (e5 yy)), .val (.int (e6 yy)), .val (.int (e7 yy)), .unset, .unset, .unset, .unset, .unset, .unset] [(.int (e2 yy)), (.int ((19 : Int32) * (e1 yy)))])) (fun TT HH tt kk => XS.iloadN HH hx rfl (hb hby d_prog_13_m_15_48) rfl kk) ?_
  refine k_pure (g' := (mkF m 50 #[.val (.int yy), .val (.int (e1 yy)), .val (.int (e2 yy)), .val (.int (e3 yy)), .val (.int (e4 yy)), .val (.int (e5 yy)), .val (.int (e6 yy)), .val (.int (e7 yy)), .unset, .unset, .unset, .unset, .unset, .unset] [(.int (((19 : Int32) * (e1 yy)) + (e2 yy)))])) (fun TT HH tt kk => XS.iadd HH hx rfl (hb hby d_prog_13_m_15_49) rfl kk) ?_
  refine k_pure (g' := (mkF m 52 #[.val (.int yy), .val (.int (e1 yy)), .val (.int (e2 yy)), .val (.int (e3 yy)), .val (.int (e4 yy)), .val (.int (e5 yy)), .val (.int (e6 yy)), .val (.int (e7 yy)), .unset, .unset, .unset, .unset, .unset, .unset] [(.int (e4 yy)), (.int (((19 : Int32) * (e1 yy)) + (e2 yy)))])) (fun TT HH tt kk => XS.iload HH hx rfl (hb hby d_prog_13_m_15_50) rfl kk) ?_
  refine k_pure (g' := (mkF m 53 #[.val (.int yy), .val (.int (e1 yy)), .val (.int (e2 yy)), .val (.int (e3 yy)), .val (.int (e4 yy)), .val (.int (e5 yy)), .val (.int (e6 yy)), .val (.int (e7 yy)), .unset, .unset, .unset, .unset, .unset, .unset] [(.int ((((19 : Int32) * (e1 yy)) + (e2 yy)) - (e4 yy)))])) (fun TT HH tt kk => XS.isub HH hx rfl (hb hby d_prog_13_m_15_52) rfl kk) ?_
  refine k_pure (g' := (mkF m 55 #[.val (.int yy), .val (.int (e1 yy)), .val (.int (e2 yy)), .val (.int (e3 yy)), .val (.int (e4 yy)), .val (.int (e5 yy)), .val (.int (e6 yy)), .val (.int (e7 yy)), .unset, .unset, .unset, .unset, .unset, .unset] [(.int (e7 yy)), (.int ((((19 : Int32) * (e1 yy)) + (e2 yy)) - (e4 yy)))])) (fun TT HH tt kk => XS.iload HH hx rfl (hb hby d_prog_13_m_15_53) rfl kk) ?_
  refine k_pure (g' := (mkF m 56 #[.val (.int yy), .val (.int (e1 yy)), .val (.int (e2 yy)), .val (.int (e3 yy)), .val (.int (e4 yy)), .val (.int (e5 yy)), .val (.int (e6 yy)), .val (.int (e7 yy)), .unset, .unset, .unset, .unset, .unset, .unset] [(.int (((((19 : Int32) * (e1 yy)) + (e2 yy)) - (e4 yy)) - (e7 yy)))])) (fun TT HH tt kk => XS.isub HH hx rfl (hb hby d_prog_13_m_15_55) rfl kk) ?_
  refine k_pure (g' := (mkF m 58 #[.val (.int yy), .val (.int (e1 yy)), .val (.int (e2 yy)), .val (.int (e3 yy)), .val (.int (e4 yy)), .val (.int (e5 yy)), .val (.int (e6 yy)), .val (.int (e7 yy)), .unset, .unset, .unset, .unset, .unset, .unset] [(.int (15 : Int32)), (.int (((((19 : Int32) * (e1 yy)) + (e2 yy)) - (e4 yy)) - (e7 yy)))])) (fun TT HH tt kk => XS.bipush HH hx rfl (hb hby d_prog_13_m_15_56) kk) ?_
  refine k_pure (g' := (mkF m 59 #[.val (.int yy), .val (.int (e1 yy)), .val (.int (e2 yy)), .val (.int (e3 yy)), .val (.int (e4 yy)), .val (.int (e5 yy)), .val (.int (e6 yy)), .val (.int (e7 yy)), .unset, .unset, .unset, .unset, .unset, .unset] [(.int ((((((19 : Int32) * (e1 yy)) + (e2 yy)) - (e4 yy)) - (e7 yy)) + (15 : Int32)))])) (fun TT HH tt kk => XS.iadd HH hx rfl (hb hby d_prog_13_m_15_58) rfl kk) ?_
  refine k_pure (g' := (mkF m 61 #[.val (.int yy), .val (.int (e1 yy)), .val (.int (e2 yy)), .val (.int (e3 yy)), .val (.int (e4 yy)), .val (.int (e5 yy)), .val (.int (e6 yy)), .val (.int (e7 yy)), .unset, .unset, .unset, .unset, .unset, .unset] [(.int (30 : Int32)), (.int ((((((19 : Int32) * (e1 yy)) + (e2 yy)) - (e4 yy)) - (e7 yy)) + (15 : Int32)))])) (fun TT HH tt kk => XS.bipush HH hx rfl (hb hby d_prog_13_m_15_59) kk) ?_
  refine k_pure (g' := (mkF m 62 #[.val (.int yy), .val (.int (e1 yy)), .val (.int (e2 yy)), .val (.int (e3 yy)), .val (.int (e4 yy)), .val (.int (e5 yy)), .val (.int (e6 yy)), .val (.int (e7 yy)), .unset, .unset, .unset, .unset, .unset, .unset] [(.int (((((((19 : Int32) * (e1 yy)) + (e2 yy)) - (e4 yy)) - (e7 yy)) + (15 : Int32)) % (30 : Int32)))])) (fun TT HH tt kk => s_irem HH hx rfl (hb hby d_prog_13_m_15_61) rfl (by decide) kk) ?_
  refine k_pure (g' := (mkF m 64 #[.val (.int yy), .val (.int (e1 yy)), .val (.int (e2 yy)), .val (.int (e3 yy)), .val (.int (e4 yy)), .val (.int (e5 yy)), .val (.int (e6 yy)), .val (.int (e7 yy)), .val (.int (((((((19 : Int32) * (e1 yy)) + (e2 yy)) - (e4 yy)) - (e7 yy)) + (15 : Int32)) % (30 : Int32))), .unset, .unset, .unset, .unset, .unset] [])) (fun TT HH tt kk => XS.istore HH hx rfl (hb hby d_prog_13_m_15_62) rfl (l' := #[.val (.int yy), .val (.int (e1 yy)), .val (.int (e2 yy)), .val (.int (e3 yy)), .val (.int (e4 yy)), .val (.int (e5 yy)), .val (.int (e6 yy)), .val (.int (e7 yy)), .val (.int (((((((19 : Int32) * (e1 yy)) + (e2 yy)) - (e4 yy)) - (e7 yy)) + (15 : Int32)) % (30 : Int32))), .unset, .unset, .unset, .unset, .unset]) rfl kk) ?_
  show Run p l e _ s m _ below meth c Z EL1 _ n0 NoB h0 0 0 (mkF m 64 #[.val (.int yy), .val (.int (e1 yy)), .val (.int (e2 yy)), .val (.int (e3 yy)), .val (.int (e4 yy)), .val (.int (e5 yy)), .val (.int (e6 yy)), .val (.int (e7 yy)), .val (.int (e8 yy)), .unset, .unset, .unset, .unset, .unset] []) _
  refine k_pure (g' := (mkF m 65 #[.val (.int yy), .val (.int (e1 yy)), .val (.int (e2 yy)), .val (.int (e3 yy)), .val (.int (e4 yy)), .val (.int (e5 yy)), .val (.int (e6 yy)), .val (.int (e7 yy)), .val (.int (e8 yy)), .unset, .unset, .unset, .unset, .unset] [(.int (e3 yy))])) (fun TT HH tt kk => XS.iloadN HH hx rfl (hb hby d_prog_13_m_15_64) rfl kk) ?_
  refine k_pure (g' := (mkF m 66 #[.val (.int yy), .val (.int (e1 yy)), .val (.int (e2 yy)), .val (.int (e3 yy)), .val (.int (e4 yy)), .val (.int (e5 yy)), .val (.int (e6 yy)), .val (.int (e7 yy)), .val (.int (e8 yy)), .unset, .unset, .unset, .unset, .unset] [(.int (4 : Int32)), (.int (e3 yy))])) (fun TT HH tt kk => XS.iconst HH hx rfl (hb hby d_prog_13_m_15_65) kk) ?_
  refine k_pure (g' := (mkF m 67 #[.val (.int yy), .val (.int (e1 yy)), .val (.int (e2 yy)), .val (.int (e3 yy)), .val (.int (e4 yy)), .val (.int (e5 yy)), .val (.int (e6 yy)), .val (.int (e7 yy)), .val (.int (e8 yy)), .unset, .unset, .unset, .unset, .unset] [(.int ((e3 yy) / (4 : Int32)))])) (fun TT HH tt kk => XS.idiv HH hx rfl (hb hby d_prog_13_m_15_66) rfl (by decide) kk) ?_
  refine k_pure (g' := (mkF m 69 #[.val (.int yy), .val (.int (e1 yy)), .val (.int (e2 yy)), .val (.int (e3 yy)), .val (.int (e4 yy)), .val (.int (e5 yy)), .val (.int (e6 yy)), .val (.int (e7 yy)), .val (.int (e8 yy)), .val (.int ((e3 yy) / (4 : Int32))), .unset, .unset, .unset, .unset] [])) (fun TT HH tt kk => XS.istore HH hx rfl (hb hby d_prog_13_m_15_67) rfl (l' := #[.val (.int yy), .val (.int (e1 yy)), .val (.int (e2 yy)), .val (.int (e3 yy)), .val (.int (e4 yy)), .val (.int (e5 yy)), .val (.int (e6 yy)), .val (.int (e7 yy)), .val (.int (e8 yy)), .val (.int ((e3 yy) / (4 : Int32))), .unset, .unset, .unset, .unset]) rfl kk) ?_
  show Run p l e _ s m _ below meth c Z EL1 _ n0 NoB h0 0 0 (mkF m 69 #[.val (.int yy), .val (.int (e1 yy)), .val (.int (e2 yy)), .val (.int (e3 yy)), .val (.int (e4 yy)), .val (.int (e5 yy)), .val (.int (e6 yy)), .val (.int (e7 yy)), .val (.int (e8 yy)), .val (.int (e9 yy)), .unset, .unset, .unset, .unset] []) _
  refine k_pure (g' := (mkF m 70 #[.val (.int yy), .val (.int (e1 yy)), .val (.int (e2 yy)), .val (.int (e3 yy)), .val (.int (e4 yy)), .val (.int (e5 yy)), .val (.int (e6 yy)), .val (.int (e7 yy)), .val (.int (e8 yy)), .val (.int (e9 yy)), .unset, .unset, .unset, .unset] [(.int (e3 yy))])) (fun TT HH tt kk => XS.iloadN HH hx rfl (hb hby d_prog_13_m_15_69) rfl kk) ?_
  refine k_pure (g' := (mkF m 71 #[.val (.int yy), .val (.int (e1 yy)), .val (.int (e2 yy)), .val (.int (e3 yy)), .val (.int (e4 yy)), .val (.int (e5 yy)), .val (.int (e6 yy)), .val (.int (e7 yy)), .val (.int (e8 yy)), .val (.int (e9 yy)), .unset, .unset, .unset, .unset] [(.int (4 : Int32)), (.int (e3 yy))])) (fun TT HH tt kk => XS.iconst HH hx rfl (hb hby d_prog_13_m_15_70) kk) ?_
  refine k_pure (g' := (mkF m 72 #[.val (.int yy), .val (.int (e1 yy)), .val (.int (e2 yy)), .val (.int (e3 yy)), .val (.int (e4 yy)), .val (.int (e5 yy)), .val (.int (e6 yy)), .val (.int (e7 yy)), .val (.int (e8 yy)), .val (.int (e9 yy)), .unset, .unset, .unset, .unset] [(.int ((e3 yy) % (4 : Int32)))])) (fun TT HH tt kk => s_irem HH hx rfl (hb hby d_prog_13_m_15_71) rfl (by decide) kk) ?_
  refine k_pure (g' := (mkF m 74 #[.val (.int yy), .val (.int (e1 yy)), .val (.int (e2 yy)), .val (.int (e3 yy)), .val (.int (e4 yy)), .val (.int (e5 yy)), .val (.int (e6 yy)), .val (.int (e7 yy)), .val (.int (e8 yy)), .val (.int (e9 yy)), .val (.int ((e3 yy) % (4 : Int32))), .unset, .unset, .unset] [])) (fun TT HH tt kk => XS.istore HH hx rfl (hb hby d_prog_13_m_15_72) rfl (l' := #[.val (.int yy), .val (.int (e1 yy)), .val (.int (e2 yy)), .val (.int (e3 yy)), .val (.int (e4 yy)), .val (.int (e5 yy)), .val (.int (e6 yy)), .val (.int (e7 yy)), .val (.int (e8 yy)), .val (.int (e9 yy)), .val (.int ((e3 yy) % (4 : Int32))), .unset, .unset, .unset]) rfl kk) ?_
  show Run p l e _ s m _ below meth c Z EL1 _ n0 NoB h0 0 0 (mkF m 74 #[.val (.int yy), .val (.int (e1 yy)), .val (.int (e2 yy)), .val (.int (e3 yy)), .val (.int (e4 yy)), .val (.int (e5 yy)), .val (.int (e6 yy)), .val (.int (e7 yy)), .val (.int (e8 yy)), .val (.int (e9 yy)), .val (.int (e10 yy)), .unset, .unset, .unset] []) _
  refine k_pure (g' := (mkF m 76 #[.val (.int yy), .val (.int (e1 yy)), .val (.int (e2 yy)), .val (.int (e3 yy)), .val (.int (e4 yy)), .val (.int (e5 yy)), .val (.int (e6 yy)), .val (.int (e7 yy)), .val (.int (e8 yy)), .val (.int (e9 yy)), .val (.int (e10 yy)), .unset, .unset, .unset] [(.int (32 : Int32))])) (fun TT HH tt kk => XS.bipush HH hx rfl (hb hby d_prog_13_m_15_74) kk) ?_
  refine k_pure (g' := (mkF m 77 #[.val (.int yy), .val (.int (e1 yy)), .val (.int (e2 yy)), .val (.int (e3 yy)), .val (.int (e4 yy)), .val (.int (e5 yy)), .val (.int (e6 yy)), .val (.int (e7 yy)), .val (.int (e8 yy)), .val (.int (e9 yy)), .val (.int (e10 yy)), .unset, .unset, .unset] [(.int (2 : Int32)), (.int (32 : Int32))])) (fun TT HH tt kk => XS.iconst HH hx rfl (hb hby d_prog_13_m_15_76) kk) ?_
  refine k_pure (g' := (mkF m 79 #[.val (.int yy), .val (.int (e1 yy)), .val (.int (e2 yy)), .val (.int (e3 yy)), .val (.int (e4 yy)), .val (.int (e5 yy)), .val (.int (e6 yy)), .val (.int (e7 yy)), .val (.int (e8 yy)), .val (.int (e9 yy)), .val (.int (e10 yy)), .unset, .unset, .unset] [(.int (e5 yy)), (.int (2 : Int32)), (.int (32 : Int32))])) (fun TT HH tt kk => XS.iload HH hx rfl (hb hby d_prog_13_m_15_77) rfl kk) ?_
  refine k_pure (g' := (mkF m 80 #[.val (.int yy), .val (.int (e1 yy)), .val (.int (e2 yy)), .val (.int (e3 yy)), .val (.int (e4 yy)), .val (.int (e5 yy)), .val (.int (e6 yy)), .val (.int (e7 yy)), .val (.int (e8 yy)), .val (.int (e9 yy)), .val (.int (e10 yy)), .unset, .unset, .unset] [(.int ((2 : Int32) * (e5 yy))), (.int (32 : Int32))])) (fun TT HH tt kk => XS.imul HH hx rfl (hb hby d_prog_13_m_15_79) rfl kk) ?_
  refine k_pure (g' := (mkF m 81 #[.val (.int yy), .val (.int (e1 yy)), .val (.int (e2 yy)), .val (.int (e3 yy)), .val (.int (e4 yy)), .val (.int (e5 yy)), .val (.int (e6 yy)), .val (.int (e7 yy)), .val (.int (e8 yy)), .val (.int (e9 yy)), .val (.int (e10 yy)), .unset, .unset, .unset] [(.int ((32 : Int32) + ((2 : Int32) * (e5 yy))))])) (fun TT HH tt kk => XS.iadd HH hx rfl (hb hby d_prog_13_m_15_80) rfl kk) ?_
  refine k_pure (g' := (mkF m 82 #[.val (.int yy), .val (.int (e1 yy)), .val (.int (e2 yy)), .val (.int (e3 yy)), .val (.int (e4 yy)), .val (.int (e5 yy)), .val (.int (e6 yy)), .val (.int (e7 yy)), .val (.int (e8 yy)), .val (.int (e9 yy)), .val (.int (e10 yy)), .unset, .unset, .unset] [(.int (2 : Int32)), (.int ((32 : Int32) + ((2 : Int32) * (e5 yy))))])) (fun TT HH tt kk => XS.iconst HH hx rfl (hb hby d_prog_13_m_15_81) kk) ?_
  refine k_pure (g' := (mkF m 84 #[.val (.int yy), .val (.int (e1 yy)), .val (.int (e2 yy)), .val (.int (e3 yy)), .val (.int (e4 yy)), .val (.int (e5 yy)), .val (.int (e6 yy)), .val (.int (e7 yy)), .val (.int (e8 yy)), .val (.int (e9 yy)), .val (.int (e10 yy)), .unset, .unset, .unset] [(.int (e9 yy)), (.int (2 : Int32)), (.int ((32 : Int32) + ((2 : Int32) * (e5 yy))))])) (fun TT HH tt kk => XS.iload HH hx rfl (hb hby d_prog_13_m_15_82) rfl kk) ?_
  refine k_pure (g' := (mkF m 85 #[.val (.int yy), .val (.int (e1 yy)), .val (.int (e2 yy)), .val (.int (e3 yy)), .val (.int (e4 yy)), .val (.int (e5 yy)), .val (.int (e6 yy)), .val (.int (e7 yy)), .val (.int (e8 yy)), .val (.int (e9 yy)), .val (.int (e10 yy)), .unset, .unset, .unset] [(.int ((2 : Int32) * (e9 yy))), (.int ((32 : Int32) + ((2 : Int32) * (e5 yy))))])) (fun TT HH tt kk => XS.imul HH hx rfl (hb hby d_prog_13_m_15_84) rfl kk) ?_
  refine k_pure (g' := (mkF m 86 #[.val (.int yy), .val (.int (e1 yy)), .val (.int (e2 yy)), .val (.int (e3 yy)), .val (.int (e4 yy)), .val (.int (e5 yy)), .val (.int (e6 yy)), .val (.int (e7 yy)), .val (.int (e8 yy)), .val (.int (e9 yy)), .val (.int (e10 yy)), .unset, .unset, .unset] [(.int (((32 : Int32) + ((2 : Int32) * (e5 yy))) + ((2 : Int32) * (e9 yy))))])) (fun TT HH tt kk => XS.iadd HH hx rfl (hb hby d_prog_13_m_15_85) rfl kk) ?_
  refine k_pure (g' := (mkF m 88 #[.val (.int yy), .val (.int (e1 yy)), .val (.int (e2 yy)), .val (.int (e3 yy)), .val (.int (e4 yy)), .val (.int (e5 yy)), .val (.int (e6 yy)), .val (.int (e7 yy)), .val (.int (e8 yy)), .val (.int (e9 yy)), .val (.int (e10 yy)), .unset, .unset, .unset] [(.int (e8 yy)), (.int (((32 : Int32) + ((2 : Int32) * (e5 yy))) + ((2 : Int32) * (e9 yy))))])) (fun TT HH tt kk => XS.iload HH hx rfl (hb hby d_prog_13_m_15_86) rfl kk) ?_
  refine k_pure (g' := (mkF m 89 #[.val (.int yy), .val (.int (e1 yy)), .val (.int (e2 yy)), .val (.int (e3 yy)), .val (.int (e4 yy)), .val (.int (e5 yy)), .val (.int (e6 yy)), .val (.int (e7 yy)), .val (.int (e8 yy)), .val (.int (e9 yy)), .val (.int (e10 yy)), .unset, .unset, .unset] [(.int ((((32 : Int32) + ((2 : Int32) * (e5 yy))) + ((2 : Int32) * (e9 yy))) - (e8 yy)))])) (fun TT HH tt kk => XS.isub HH hx rfl (hb hby d_prog_13_m_15_88) rfl kk) ?_
  refine k_pure (g' := (mkF m 91 #[.val (.int yy), .val (.int (e1 yy)), .val (.int (e2 yy)), .val (.int (e3 yy)), .val (.int (e4 yy)), .val (.int (e5 yy)), .val (.int (e6 yy)), .val (.int (e7 yy)), .val (.int (e8 yy)), .val (.int (e9 yy)), .val (.int (e10 yy)), .unset, .unset, .unset] [(.int (e10 yy)), (.int ((((32 : Int32) + ((2 : Int32) * (e5 yy))) + ((2 : Int32) * (e9 yy))) - (e8 yy)))])) (fun TT HH tt kk => XS.iload HH hx rfl (hb hby d_prog_13_m_15_89) rfl kk) ?_
  refine k_pure (g' := (mkF m 92 #[.val (.int yy), .val (.int (e1 yy)), .val (.int (e2 yy)), .val (.int (e3 yy)), .val (.int (e4 yy)), .val (.int (e5 yy)), .val (.int (e6 yy)), .val (.int (e7 yy)), .val (.int (e8 yy)), .val (.int (e9 yy)), .val (.int (e10 yy)), .unset, .unset, .unset] [(.int (((((32 : Int32) + ((2 : Int32) * (e5 yy))) + ((2 : Int32) * (e9 yy))) - (e8 yy)) - (e10 yy)))])) (fun TT HH tt kk => XS.isub HH hx rfl (hb hby d_prog_13_m_15_91) rfl kk) ?_
  refine k_pure (g' := (mkF m 94 #[.val (.int yy), .val (.int (e1 yy)), .val (.int (e2 yy)), .val (.int (e3 yy)), .val (.int (e4 yy)), .val (.int (e5 yy)), .val (.int (e6 yy)), .val (.int (e7 yy)), .val (.int (e8 yy)), .val (.int (e9 yy)), .val (.int (e10 yy)), .unset, .unset, .unset] [(.int (7 : Int32)), (.int (((((32 : Int32) + ((2 : Int32) * (e5 yy))) + ((2 : Int32) * (e9 yy))) - (e8 yy)) - (e10 yy)))])) (fun TT HH tt kk => XS.bipush HH hx rfl (hb hby d_prog_13_m_15_92) kk) ?_
  refine k_pure (g' := (mkF m 95 #[.val (.int yy), .val (.int (e1 yy)), .val (.int (e2 yy)), .val (.int (e3 yy)), .val (.int (e4 yy)), .val (.int (e5 yy)), .val (.int (e6 yy)), .val (.int (e7 yy)), .val (.int (e8 yy)), .val (.int (e9 yy)), .val (.int (e10 yy)), .unset, .unset, .unset] [(.int ((((((32 : Int32) + ((2 : Int32) * (e5 yy))) + ((2 : Int32) * (e9 yy))) - (e8 yy)) - (e10 yy)) % (7 : Int32)))])) (fun TT HH tt kk => s_irem HH hx rfl (hb hby d_prog_13_m_15_94) rfl (by decide) kk) ?_
  refine k_pure (g' := (mkF m 97 #[.val (.int yy), .val (.int (e1 yy)), .val (.int (e2 yy)), .val (.int (e3 yy)), .val (.int (e4 yy)), .val (.int (e5 yy)), .val (.int (e6 yy)), .val (.int (e7 yy)), .val (.int (e8 yy)), .val (.int (e9 yy)), .val (.int (e10 yy)), .val (.int ((((((32 : Int32) + ((2 : Int32) * (e5 yy))) + ((2 : Int32) * (e9 yy))) - (e8 yy)) - (e10 yy)) % (7 : Int32))), .unset, .unset] [])) (fun TT HH tt kk => XS.istore HH hx rfl (hb hby d_prog_13_m_15_95) rfl (l' := #[.val (.int yy), .val (.int (e1 yy)), .val (.int (e2 yy)), .val (.int (e3 yy)), .val (.int (e4 yy)), .val (.int (e5 yy)), .val (.int (e6 yy)), .val (.int (e7 yy)), .val (.int (e8 yy)), .val (.int (e9 yy)), .val (.int (e10 yy)), .val (.int ((((((32 : Int32) + ((2 : Int32) * (e5 yy))) + ((2 : Int32) * (e9 yy))) - (e8 yy)) - (e10 yy)) % (7 : Int32))), .unset, .unset]) rfl kk) ?_
  show Run p l e _ s m _ below meth c Z EL1 _ n0 NoB h0 0 0 (mkF m 97 #[.val (.int yy), .val (.int (e1 yy)), .val (.int (e2 yy)), .val (.int (e3 yy)), .val (.int (e4 yy)), .val (.int (e5 yy)), .val (.int (e6 yy)), .val (.int (e7 yy)), .val (.int (e8 yy)), .val (.int (e9 yy)), .val (.int (e10 yy)), .val (.int (e11 yy)), .unset, .unset] []) _
  refine k_pure (g' := (mkF m 98 #[.val (.int yy), .val (.int (e1 yy)), .val (.int (e2 yy)), .val (.int (e3 yy)), .val (.int (e4 yy)), .val (.int (e5 yy)), .val (.int (e6 yy)), .val (.int (e7 yy)), .val (.int (e8 yy)), .val (.int (e9 yy)), .val (.int (e10 yy)), .val (.int (e11 yy)), .unset, .unset] [(.int (e1 yy))])) (fun TT HH tt kk => XS.iloadN HH hx rfl (hb hby d_prog_13_m_15_97) rfl kk) ?_
  refine k_pure (g' := (mkF m 100 #[.val (.int yy), .val (.int (e1 yy)), .val (.int (e2 yy)), .val (.int (e3 yy)), .val (.int (e4 yy)), .val (.int (e5 yy)), .val (.int (e6 yy)), .val (.int (e7 yy)), .val (.int (e8 yy)), .val (.int (e9 yy)), .val (.int (e10 yy)), .val (.int (e11 yy)), .unset, .unset] [(.int (11 : Int32)), (.int (e1 yy))])) (fun TT HH tt kk => XS.bipush HH hx rfl (hb hby d_prog_13_m_15_98) kk) ?_
  refine k_pure (g' := (mkF m 102 #[.val (.int yy), .val (.int (e1 yy)), .val (.int (e2 yy)), .val (.int (e3 yy)), .val (.int (e4 yy)), .val (.int (e5 yy)), .val (.int (e6 yy)), .val (.int (e7 yy)), .val (.int (e8 yy)), .val (.int (e9 yy)), .val (.int (e10 yy)), .val (.int (e11 yy)), .unset, .unset] [(.int (e8 yy)), (.int (11 : Int32)), (.int (e1 yy))])) (fun TT HH tt kk => XS.iload HH hx rfl (hb hby d_prog_13_m_15_100) rfl kk) ?_
  refine k_pure (g' := (mkF m 103 #[.val (.int yy), .val (.int (e1 yy)), .val (.int (e2 yy)), .val (.int (e3 yy)), .val (.int (e4 yy)), .val (.int (e5 yy)), .val (.int (e6 yy)), .val (.int (e7 yy)), .val (.int (e8 yy)), .val (.int (e9 yy)), .val (.int (e10 yy)), .val (.int (e11 yy)), .unset, .unset] [(.int ((11 : Int32) * (e8 yy))), (.int (e1 yy))])) (fun TT HH tt kk => XS.imul HH hx rfl (hb hby d_prog_13_m_15_102) rfl kk) ?_
  refine k_pure (g' := (mkF m 104 #[.val (.int yy), .val (.int (e1 yy)), .val (.int (e2 yy)), .val (.int (e3 yy)), .val (.int (e4 yy)), .val (.int (e5 yy)), .val (.int (e6 yy)), .val (.int (e7 yy)), .val (.int (e8 yy)), .val (.int (e9 yy)), .val (.int (e10 yy)), .val (.int (e11 yy)), .unset, .unset] [(.int ((e1 yy) + ((11 : Int32) * (e8 yy))))])) (fun TT HH tt kk => XS.iadd HH hx rfl (hb hby d_prog_13_m_15_103) rfl kk) ?_
  refine k_pure (g' := (mkF m 106 #[.val (.int yy), .val (.int (e1 yy)), .val (.int (e2 yy)), .val (.int (e3 yy)), .val (.int (e4 yy)), .val (.int (e5 yy)), .val (.int (e6 yy)), .val (.int (e7 yy)), .val (.int (e8 yy)), .val (.int (e9 yy)), .val (.int (e10 yy)), .val (.int (e11 yy)), .unset, .unset] [(.int (22 : Int32)), (.int ((e1 yy) + ((11 : Int32) * (e8 yy))))])) (fun TT HH tt kk => XS.bipush HH hx rfl (hb hby d_prog_13_m_15_104) kk) ?_
  refine k_pure (g' := (mkF m 108 #[.val (.int yy), .val (.int (e1 yy)), .val (.int (e2 yy)), .val (.int (e3 yy)), .val (.int (e4 yy)), .val (.int (e5 yy)), .val (.int (e6 yy)), .val (.int (e7 yy)), .val (.int (e8 yy)), .val (.int (e9 yy)), .val (.int (e10 yy)), .val (.int (e11 yy)), .unset, .unset] [(.int (e11 yy)), (.int (22 : Int32)), (.int ((e1 yy) + ((11 : Int32) * (e8 yy))))])) (fun TT HH tt kk => XS.iload HH hx rfl (hb hby d_prog_13_m_15_106) rfl kk) ?_
  refine k_pure (g' := (mkF m 109 #[.val (.int yy), .val (.int (e1 yy)), .val (.int (e2 yy)), .val (.int (e3 yy)), .val (.int (e4 yy)), .val (.int (e5 yy)), .val (.int (e6 yy)), .val (.int (e7 yy)), .val (.int (e8 yy)), .val (.int (e9 yy)), .val (.int (e10 yy)), .val (.int (e11 yy)), .unset, .unset] [(.int ((22 : Int32) * (e11 yy))), (.int ((e1 yy) + ((11 : Int32) * (e8 yy))))])) (fun TT HH tt kk => XS.imul HH hx rfl (hb hby d_prog_13_m_15_108) rfl kk) ?_
  refine k_pure (g' := (mkF m 110 #[.val (.int yy), .val (.int (e1 yy)), .val (.int (e2 yy)), .val (.int (e3 yy)), .val (.int (e4 yy)), .val (.int (e5 yy)), .val (.int (e6 yy)), .val (.int (e7 yy)), .val (.int (e8 yy)), .val (.int (e9 yy)), .val (.int (e10 yy)), .val (.int (e11 yy)), .unset, .unset] [(.int (((e1 yy) + ((11 : Int32) * (e8 yy))) + ((22 : Int32) * (e11 yy))))])) (fun TT HH tt kk => XS.iadd HH hx rfl (hb hby d_prog_13_m_15_109) rfl kk) ?_
  refine k_pure (g' := (mkF m 113 #[.val (.int yy), .val (.int (e1 yy)), .val (.int (e2 yy)), .val (.int (e3 yy)), .val (.int (e4 yy)), .val (.int (e5 yy)), .val (.int (e6 yy)), .val (.int (e7 yy)), .val (.int (e8 yy)), .val (.int (e9 yy)), .val (.int (e10 yy)), .val (.int (e11 yy)), .unset, .unset] [(.int (451 : Int32)), (.int (((e1 yy) + ((11 : Int32) * (e8 yy))) + ((22 : Int32) * (e11 yy))))])) (fun TT HH tt kk => XS.sipush HH hx rfl (hb hby d_prog_13_m_15_110) kk) ?_
  refine k_pure (g' := (mkF m 114 #[.val (.int yy), .val (.int (e1 yy)), .val (.int (e2 yy)), .val (.int (e3 yy)), .val (.int (e4 yy)), .val (.int (e5 yy)), .val (.int (e6 yy)), .val (.int (e7 yy)), .val (.int (e8 yy)), .val (.int (e9 yy)), .val (.int (e10 yy)), .val (.int (e11 yy)), .unset, .unset] [(.int ((((e1 yy) + ((11 : Int32) * (e8 yy))) + ((22 : Int32) * (e11 yy))) / (451 : Int32)))])) (fun TT HH tt kk => XS.idiv HH hx rfl (hb hby d_prog_13_m_15_113) rfl (by decide) kk) ?_
  refine k_pure (g' := (mkF m 116 #[.val (.int yy), .val (.int (e1 yy)), .val (.int (e2 yy)), .val (.int (e3 yy)), .val (.int (e4 yy)), .val (.int (e5 yy)), .val (.int (e6 yy)), .val (.int (e7 yy)), .val (.int (e8 yy)), .val (.int (e9 yy)), .val (.int (e10 yy)), .val (.int (e11 yy)), .val (.int ((((e1 yy) + ((11 : Int32) * (e8 yy))) + ((22 : Int32) * (e11 yy))) / (451 : Int32))), .unset] [])) (fun TT HH tt kk => XS.istore HH hx rfl (hb hby d_prog_13_m_15_114) rfl (l' := #[.val (.int yy), .val (.int (e1 yy)), .val (.int (e2 yy)), .val (.int (e3 yy)), .val (.int (e4 yy)), .val (.int (e5 yy)), .val (.int (e6 yy)), .val (.int (e7 yy)), .val (.int (e8 yy)), .val (.int (e9 yy)), .val (.int (e10 yy)), .val (.int (e11 yy)), .val (.int ((((e1 yy) + ((11 : Int32) * (e8 yy))) + ((22 : Int32) * (e11 yy))) / (451 : Int32))), .unset]) rfl kk) ?_
  show Run p l e _ s m _ below meth c Z EL1 _ n0 NoB h0 0 0 (mkF m 116 #[.val (.int yy), .val (.int (e1 yy)), .val (.int (e2 yy)), .val (.int (e3 yy)), .val (.int (e4 yy)), .val (.int (e5 yy)), .val (.int (e6 yy)), .val (.int (e7 yy)), .val (.int (e8 yy)), .val (.int (e9 yy)), .val (.int (e10 yy)), .val (.int (e11 yy)), .val (.int (e12 yy)), .unset] []) _
  refine k_pure (g' := (mkF m 118 #[.val (.int yy), .val (.int (e1 yy)), .val (.int (e2 yy)), .val (.int (e3 yy)), .val (.int (e4 yy)), .val (.int (e5 yy)), .val (.int (e6 yy)), .val (.int (e7 yy)), .val (.int (e8 yy)), .val (.int (e9 yy)), .val (.int (e10 yy)), .val (.int (e11 yy)), .val (.int (e12 yy)), .unset] [(.int (e8 yy))])) (fun TT HH tt kk => XS.iload HH hx rfl (hb hby d_prog_13_m_15_116) rfl kk) ?_
  refine k_pure (g' := (mkF m 120 #[.val (.int yy), .val (.int (e1 yy)), .val (.int (e2 yy)), .val (.int (e3 yy)), .val (.int (e4 yy)), .val (.int (e5 yy)), .val (.int (e6 yy)), .val (.int (e7 yy)), .val (.int (e8 yy)), .val (.int (e9 yy)), .val (.int (e10 yy)), .val (.int (e11 yy)), .val (.int (e12 yy)), .unset] [(.int (e11 yy)), (.int (e8 yy))])) (fun TT HH tt kk => XS.iload HH hx rfl (hb hby d_prog_13_m_15_118) rfl kk) ?_
  refine k_pure (g' := (mkF m 121 #[.val (.int yy), .val (.int (e1 yy)), .val (.int (e2 yy)), .val (.int (e3 yy)), .val (.int (e4 yy)), .val (.int (e5 yy)), .val (.int (e6 yy)), .val (.int (e7 yy)), .val (.int (e8 yy)), .val (.int (e9 yy)), .val (.int (e10 yy)), .val (.int (e11 yy)), .val (.int (e12 yy)), .unset] [(.int ((e8 yy) + (e11 yy)))])) (fun TT HH tt kk => XS.iadd HH hx rfl (hb hby d_prog_13_m_15_120) rfl kk) ?_
  refine k_pure (g' := (mkF m 123 #[.val (.int yy), .val (.int (e1 yy)), .val (.int (e2 yy)), .val (.int (e3 yy)), .val (.int (e4 yy)), .val (.int (e5 yy)), .val (.int (e6 yy)), .val (.int (e7 yy)), .val (.int (e8 yy)), .val (.int (e9 yy)), .val (.int (e10 yy)), .val (.int (e11 yy)), .val (.int (e12 yy)), .unset] [(.int (7 : Int32)), (.int ((e8 yy) + (e11 yy)))])) (fun TT HH tt kk => XS.bipush HH hx rfl (hb hby d_prog_13_m_15_121) kk) ?_
  refine k_pure (g' := (mkF m 125 #[.val (.int yy), .val (.int (e1 yy)), .val (.int (e2 yy)), .val (.int (e3 yy)), .val (.int (e4 yy)), .val (.int (e5 yy)), .val (.int (e6 yy)), .val (.int (e7 yy)), .val (.int (e8 yy)), .val (.int (e9 yy)), .val (.int (e10 yy)), .val (.int (e11 yy)), .val (.int (e12 yy)), .unset] [(.int (e12 yy)), (.int (7 : Int32)), (.int ((e8 yy) + (e11 yy)))])) (fun TT HH tt kk => XS.iload HH hx rfl (hb hby d_prog_13_m_15_123) rfl kk) ?_
  refine k_pure (g' := (mkF m 126 #[.val (.int yy), .val (.int (e1 yy)), .val (.int (e2 yy)), .val (.int (e3 yy)), .val (.int (e4 yy)), .val (.int (e5 yy)), .val (.int (e6 yy)), .val (.int (e7 yy)), .val (.int (e8 yy)), .val (.int (e9 yy)), .val (.int (e10 yy)), .val (.int (e11 yy)), .val (.int (e12 yy)), .unset] [(.int ((7 : Int32) * (e12 yy))), (.int ((e8 yy) + (e11 yy)))])) (fun TT HH tt kk => XS.imul HH hx rfl (hb hby d_prog_13_m_15_125) rfl kk) ?_
  refine k_pure (g' := (mkF m 127 #[.val (.int yy), .val (.int (e1 yy)), .val (.int (e2 yy)), .val (.int (e3 yy)), .val (.int (e4 yy)), .val (.int (e5 yy)), .val (.int (e6 yy)), .val (.int (e7 yy)), .val (.int (e8 yy)), .val (.int (e9 yy)), .val (.int (e10 yy)), .val (.int (e11 yy)), .val (.int (e12 yy)), .unset] [(.int (((e8 yy) + (e11 yy)) - ((7 : Int32) * (e12 yy))))])) (fun TT HH tt kk => XS.isub HH hx rfl (hb hby d_prog_13_m_15_126) rfl kk) ?_
  refine k_pure (g' := (mkF m 129 #[.val (.int yy), .val (.int (e1 yy)), .val (.int (e2 yy)), .val (.int (e3 yy)), .val (.int (e4 yy)), .val (.int (e5 yy)), .val (.int (e6 yy)), .val (.int (e7 yy)), .val (.int (e8 yy)), .val (.int (e9 yy)), .val (.int (e10 yy)), .val (.int (e11 yy)), .val (.int (e12 yy)), .val (.int (((e8 yy) + (e11 yy)) - ((7 : Int32) * (e12 yy))))] [])) (fun TT HH tt kk => XS.istore HH hx rfl (hb hby d_prog_13_m_15_127) rfl (l' := #[.val (.int yy), .val (.int (e1 yy)), .val (.int (e2 yy)), .val (.int (e3 yy)), .val (.int (e4 yy)), .val (.int (e5 yy)), .val (.int (e6 yy)), .val (.int (e7 yy)), .val (.int (e8 yy)), .val (.int (e9 yy)), .val (.int (e10 yy)), .val (.int (e11 yy)), .val (.int (e12 yy)), .val (.int (((e8 yy) + (e11 yy)) - ((7 : Int32) * (e12 yy))))]) rfl kk) ?_
  show Run p l e _ s m _ below meth c Z EL1 _ n0 NoB h0 0 0 (mkF m 129 #[.val (.int yy), .val (.int (e1 yy)), .val (.int (e2 yy)), .val (.int (e3 yy)), .val (.int (e4 yy)), .val (.int (e5 yy)), .val (.int (e6 yy)), .val (.int (e7 yy)), .val (.int (e8 yy)), .val (.int (e9 yy)), .val (.int (e10 yy)), .val (.int (e11 yy)), .val (.int (e12 yy)), .val (.int (e13 yy))] []) _
  refine k_pure (g' := (mkF m 130 #[.val (.int yy), .val (.int (e1 yy)), .val (.int (e2 yy)), .val (.int (e3 yy)), .val (.int (e4 yy)), .val (.int (e5 yy)), .val (.int (e6 yy)), .val (.int (e7 yy)), .val (.int (e8 yy)), .val (.int (e9 yy)), .val (.int (e10 yy)), .val (.int (e11 yy)), .val (.int (e12 yy)), .val (.int (e13 yy))] [(.int yy)])) (fun TT HH tt kk => XS.iloadN HH hx rfl (hb hby d_prog_13_m_15_129) rfl kk) ?_
  refine k_getS hx (host := "") (Or.inl (hw _ (List.mem_of_getElem? (i := 5) rfl))) Via.refl (sM.ext O0.2) rfl (hb hby d_prog_13_m_15_130) ?_
  show Run p l e _ s m _ below meth c Z EL1 _ n0 NoB h0 0 0 (mkF m 133 #[.val (.int yy), .val (.int (e1 yy)), .val (.int (e2 yy)), .val (.int (e3 yy)), .val (.int (e4 yy)), .val (.int (e5 yy)), .val (.int (e6 yy)), .val (.int (e7 yy)), .val (.int (e8 yy)), .val (.int (e9 yy)), .val (.int (e10 yy)), .val (.int (e11 yy)), .val (.int (e12 yy)), .val (.int (e13 yy))] [(.ref gM), (.int yy)]) _
  refine k_pure (g' := (mkF m 135 #[.val (.int yy), .val (.int (e1 yy)), .val (.int (e2 yy)), .val (.int (e3 yy)), .val (.int (e4 yy)), .val (.int (e5 yy)), .val (.int (e6 yy)), .val (.int (e7 yy)), .val (.int (e8 yy)), .val (.int (e9 yy)), .val (.int (e10 yy)), .val (.int (e11 yy)), .val (.int (e12 yy)), .val (.int (e13 yy))] [(.int (22 : Int32)), (.ref gM), (.int yy)])) (fun TT HH tt kk => XS.bipush HH hx rfl (hb hby d_prog_13_m_15_133) kk) ?_
  refine k_callS hx (y := (⟨"java/time/LocalDate", "of", "(ILjava/time/Month;I)Ljava/time/LocalDate;"⟩ : MethodName)) (hw _ (List.mem_of_getElem? (i := 7) rfl)) (hw _ (List.mem_of_getElem? (i := 8) rfl)) (hw _ (List.mem_of_getElem? (i := 9) rfl)) (hw _ (List.mem_of_getElem? (i := 10) rfl)) (by decide) (W := 0) (argsL := [(.int yy), (.ref gM), (.int (22 : Int32))]) (rest := []) (Pays.of_met (rm_of l Z a0 gM gY rY gD rD hX hY n0 h0 O0 yy y1 y2 []) (hw _ (List.mem_of_getElem? (i := 10) rfl)) (hw _ (List.mem_of_getElem? (i := 9) rfl)) (by decide) (by decide)) rfl (by rw [hml]; rfl) (lenOf pd__28_ILjava_2f_time_2f_Month_3b_I_29_Ljava_2f_time_2f_LocalDate_3b_ rfl) rfl (by show 2 * 0 + _ ≤ _; exact Nat.le_of_eq rfl) (hb hby d_prog_13_m_15_135) (by decide) (by decide) ?_
  intro v_1 h_2 bk_3 O_4 z_5 Q_6
  obtain ⟨a_7, rfl, rfl, K_8, F_9, F_10, F_11, F_12, P_13⟩ := Q_6
  have lt_14 : @LT.lt Nat _ a_7 (Array.size h_2) := F_9.lt
  have lt_15 : @LT.lt Nat _ a_7 (Array.size h_2) := F_10.lt
  have lt_16 : @LT.lt Nat _ a_7 (Array.size h_2) := F_11.lt
  have lt_17 : @LT.lt Nat _ a_7 (Array.size h_2) := F_12.lt
  show Run p l e _ s m _ below meth c Z EL1 _ n0 NoB h_2 3 27 (mkF m 138 #[.val (.int yy), .val (.int (e1 yy)), .val (.int (e2 yy)), .val (.int (e3 yy)), .val (.int (e4 yy)), .val (.int (e5 yy)), .val (.int (e6 yy)), .val (.int (e7 yy)), .val (.int (e8 yy)), .val (.int (e9 yy)), .val (.int (e10 yy)), .val (.int (e11 yy)), .val (.int (e12 yy)), .val (.int (e13 yy))] [(.ref a_7)]) _
  refine k_pure (g' := (mkF m 140 #[.val (.int yy), .val (.int (e1 yy)), .val (.int (e2 yy)), .val (.int (e3 yy)), .val (.int (e4 yy)), .val (.int (e5 yy)), .val (.int (e6 yy)), .val (.int (e7 yy)), .val (.int (e8 yy)), .val (.int (e9 yy)), .val (.int (e10 yy)), .val (.int (e11 yy)), .val (.int (e12 yy)), .val (.int (e13 yy))] [(.int (e13 yy)), (.ref a_7)])) (fun TT HH tt kk => XS.iload HH hx rfl (hb hby d_prog_13_m_15_138) rfl kk) ?_
  refine k_pure (g' := (mkF m 141 #[.val (.int yy), .val (.int (e1 yy)), .val (.int (e2 yy)), .val (.int (e3 yy)), .val (.int (e4 yy)), .val (.int (e5 yy)), .val (.int (e6 yy)), .val (.int (e7 yy)), .val (.int (e8 yy)), .val (.int (e9 yy)), .val (.int (e10 yy)), .val (.int (e11 yy)), .val (.int (e12 yy)), .val (.int (e13 yy))] [(.long ((e13 yy).toInt64)), (.ref a_7)])) (fun TT HH tt kk => XS.i2l HH hx rfl (hb hby d_prog_13_m_15_140) rfl kk) ?_
  refine k_callV hx (y := (⟨"java/time/LocalDate", "plusDays", "(J)Ljava/time/LocalDate;"⟩ : MethodName)) (z := (⟨"java/time/LocalDate", "plusDays", "(J)Ljava/time/LocalDate;"⟩ : MethodName)) (hw _ (List.mem_of_getElem? (i := 95) rfl)) (hw _ (List.mem_of_getElem? (i := 96) rfl)) (fun s' hZ => notFace_of_selects (args := #[]) (mv hZ (hw _ (List.mem_of_getElem? (i := 98) rfl)))) (hw _ (List.mem_of_getElem? (i := 98) rfl)) (hw _ (List.mem_of_getElem? (i := 97) rfl)) (by decide) (W := 0) (a := a_7) (argsL := [(.long ((e13 yy).toInt64))]) (rest := []) (Pays.of_met (rm_pld l Z a0 gM gY rY gD rD hX hY n0 h_2 O_4 a_7 yy (e13 yy) mm dd F_9 F_10 F_11 F_12 k1 k2 ha hb9 []) (hw _ (List.mem_of_getElem? (i := 99) rfl)) (hw _ (List.mem_of_getElem? (i := 9) rfl)) (by decide) (by decide)) F_9 rfl (by rw [hml]; rfl) (lenOf pd__28_J_29_Ljava_2f_time_2f_LocalDate_3b_ rfl) rfl (by show 2 * 0 + _ ≤ _; exact Nat.le_of_eq rfl) (hb hby d_prog_13_m_15_141) (by decide) (by decide) ?_
  intro v_18 h_19 bk_20 O_21 z_22 Q_23
  obtain ⟨a_24, rfl, rfl, K_25, F_26, F_27, F_28, F_29⟩ := Q_23
  have lt_30 : @LT.lt Nat _ a_24 (Array.size h_19) := F_26.lt
  have lt_31 : @LT.lt Nat _ a_24 (Array.size h_19) := F_27.lt
  have lt_32 : @LT.lt Nat _ a_24 (Array.size h_19) := F_28.lt
  have lt_33 : @LT.lt Nat _ a_24 (Array.size h_19) := F_29.lt
  show Run p l e _ s m _ below meth c Z EL1 _ n0 NoB h_19 4 30 (mkF m 144 #[.val (.int yy), .val (.int (e1 yy)), .val (.int (e2 yy)), .val (.int (e3 yy)), .val (.int (e4 yy)), .val (.int (e5 yy)), .val (.int (e6 yy)), .val (.int (e7 yy)), .val (.int (e8 yy)), .val (.int (e9 yy)), .val (.int (e10 yy)), .val (.int (e11 yy)), .val (.int (e12 yy)), .val (.int (e13 yy))] [(.ref a_24)]) _
  exact k_retA hx hlk hret rfl rfl rfl (hb hby d_prog_13_m_15_144) (by decide) (by decide) ⟨a_24, rfl, rfl, (((Keep.refl _ _).trans K_8 kk0).trans K_25 kk0), F_26, F_27, F_28, F_29⟩
def Q_law (Z : State) (x : Int32) (h0 : Heap) (n0 : Nat) (bk : Addr → Prop) (v : Option Value) (h : Heap) (bk' : Addr → Prop) : Prop := v = some (.int (1 : Int32)) ∧ NoB = bk' ∧ Keep h0 h []
theorem pd__28_I_29_Ljava_2f_time_2f_LocalDate_3b_ : parseMethodDescriptor "(I)Ljava/time/LocalDate;" = some ⟨[.int], some (.object "java/time/LocalDate")⟩ := by decide +kernel
theorem ef_law (m : MethodId) (x0 : Int32) : entryFrame m #[(.int x0)] maxLocals = mkF m 0 #[.val (.int x0), .unset, .unset, .unset, .unset, .unset, .unset, .unset, .unset, .unset, .unset] [] := by first | (simp [entryFrame, mkF, argsToLocals, Value.category, maxLocals]; done) | rfl
set_option maxRecDepth 65536 in
set_option maxHeartbeats 40000000 in
theorem rm_law (l : Launch) (Z : State) (a0 : Array Value) (gM gY rY gD rD : Addr) (hX : Ctx Z a0) (hY : More Z gM gY rY gD rD) (n0 : Nat) (h0 : Heap) (O0 : Old Z n0 h0) (x : Int32)  (ws : List Jvm.Cond) : Met l Z EL1 n0 NoB Jvm.Pilot.@@N@@.x code maxLocals ret room_1 #[(.int x)] h0 (Q_law Z x h0 n0 NoB) ws := by
  have hX' := hX
  obtain ⟨hw, hE⟩ := hX'
  have hY' := hY
  obtain ⟨sM, xM, oM, sY, xY, fY, yY, iY, aY, sD, xD, fD, yD, iD, aD⟩ := hY'
  have hSA := sa_of hw
  have z0 : n0 ≤ h0.size := by rw [← O0.1]; exact O0.2.1
  refine Met.of (by decide +kernel) O0 hE ?_
  intro p e s m below meth c hx hby hml hret hlk hnm
  refine k_cast (ef_law m x) ?_
  show Run p l e _ s m _ below meth c Z EL1 _ n0 NoB h0 0 0 (mkF m 0 #[.val (.int x), .unset, .unset, .unset, .unset, .unset, .unset, .unset, .unset, .unset, .unset] []) _
  refine k_pure (g' := (mkF m 3 #[.val (.int x), .unset, .unset, .unset, .unset, .unset, .unset, .unset, .unset, .unset, .unset] [(.int (1583 : Int32))])) (fun TT HH tt kk => XS.sipush HH hx rfl (hb hby at_0) kk) ?_
  refine k_pure (g' := (mkF m 4 #[.val (.int x), .unset, .unset, .unset, .unset, .unset, .unset, .unset, .unset, .unset, .unset] [(.int x), (.int (1583 : Int32))])) (fun TT HH tt kk => XS.iloadN HH hx rfl (hb hby at_3) rfl kk) ?_
  refine k_ldcI hx (hw _ (List.mem_of_getElem? (i := 0) rfl)) rfl (hb hby at_4) ?_
  show Run p l e _ s m _ below meth c Z EL1 _ n0 NoB h0 0 0 (mkF m 6 #[.val (.int x), .unset, .unset, .unset, .unset, .unset, .unset, .unset, .unset, .unset, .unset] [(.int (2147483647 : Int32)), (.int x), (.int (1583 : Int32))]) _
  refine k_pure (g' := (mkF m 7 #[.val (.int x), .unset, .unset, .unset, .unset, .unset, .unset, .unset, .unset, .unset, .unset] [(.int (x &&& (2147483647 : Int32))), (.int (1583 : Int32))])) (fun TT HH tt kk => XS.iand HH hx rfl (hb hby at_6) rfl kk) ?_
  refine k_pure (g' := (mkF m 10 #[.val (.int x), .unset, .unset, .unset, .unset, .unset, .unset, .unset, .unset, .unset, .unset] [(.int (2517 : Int32)), (.int (x &&& (2147483647 : Int32))), (.int (1583 : Int32))])) (fun TT HH tt kk => XS.sipush HH hx rfl (hb hby at_7) kk) ?_
  refine k_pure (g' := (mkF m 11 #[.val (.int x), .unset, .unset, .unset, .unset, .unset, .unset, .unset, .unset, .unset, .unset] [(.int ((x &&& (2147483647 : Int32)) % (2517 : Int32))), (.int (1583 : Int32))])) (fun TT HH tt kk => s_irem HH hx rfl (hb hby at_10) rfl (by decide) kk) ?_
  refine k_pure (g' := (mkF m 12 #[.val (.int x), .unset, .unset, .unset, .unset, .unset, .unset, .unset, .unset, .unset, .unset] [(.int ((1583 : Int32) + ((x &&& (2147483647 : Int32)) % (2517 : Int32))))])) (fun TT HH tt kk => XS.iadd HH hx rfl (hb hby at_11) rfl kk) ?_
  refine k_pure (g' := (mkF m 13 #[.val (.int x), .val (.int ((1583 : Int32) + ((x &&& (2147483647 : Int32)) % (2517 : Int32)))), .unset, .unset, .unset, .unset, .unset, .unset, .unset, .unset, .unset] [])) (fun TT HH tt kk => XS.istoreN HH hx rfl (hb hby at_12) rfl (l' := #[.val (.int x), .val (.int ((1583 : Int32) + ((x &&& (2147483647 : Int32)) % (2517 : Int32)))), .unset, .unset, .unset, .unset, .unset, .unset, .unset, .unset, .unset]) rfl kk) ?_
  have y1 : 1583 ≤ ((1583 : Int32) + ((x &&& (2147483647 : Int32)) % (2517 : Int32))).toInt := (by have r0 : (1583 : Int32).toInt = 1583 := (by decide); have r1 := rng32 x; have r2 : (x &&& (2147483647 : Int32)).toInt = x.toInt % 2147483648 := (c_mask x (2147483647 : Int32) 31 (by decide) (by decide)); have r3 := rng32 (x &&& (2147483647 : Int32)); have r4 := c_irem (x &&& (2147483647 : Int32)) (2517 : Int32) 2517 (by decide); have r5 := rng32 ((x &&& (2147483647 : Int32)) % (2517 : Int32)); have r6 := c_iadd (1583 : Int32) ((x &&& (2147483647 : Int32)) % (2517 : Int32)); have r7 := rng32 ((1583 : Int32) + ((x &&& (2147483647 : Int32)) % (2517 : Int32))); omega)
  have y2 : ((1583 : Int32) + ((x &&& (2147483647 : Int32)) % (2517 : Int32))).toInt ≤ 4099 := (by have r0 : (1583 : Int32).toInt = 1583 := (by decide); have r1 := rng32 x; have r2 : (x &&& (2147483647 : Int32)).toInt = x.toInt % 2147483648 := (c_mask x (2147483647 : Int32) 31 (by decide) (by decide)); have r3 := rng32 (x &&& (2147483647 : Int32)); have r4 := c_irem (x &&& (2147483647 : Int32)) (2517 : Int32) 2517 (by decide); have r5 := rng32 ((x &&& (2147483647 : Int32)) % (2517 : Int32)); have r6 := c_iadd (1583 : Int32) ((x &&& (2147483647 : Int32)) % (2517 : Int32)); have r7 := rng32 ((1583 : Int32) + ((x &&& (2147483647 : Int32)) % (2517 : Int32))); omega)
  generalize ((1583 : Int32) + ((x &&& (2147483647 : Int32)) % (2517 : Int32))) = y at y1 y2 ⊢
  obtain ⟨ok1, ok2, ok3⟩ := year_ok y1 y2
  show Run p l e _ s m _ below meth c Z EL1 _ n0 NoB h0 0 0 (mkF m 13 #[.val (.int x), .val (.int y), .unset, .unset, .unset, .unset, .unset, .unset, .unset, .unset, .unset] []) _
  refine k_pure (g' := (mkF m 14 #[.val (.int x), .val (.int y), .unset, .unset, .unset, .unset, .unset, .unset, .unset, .unset, .unset] [(.int y)])) (fun TT HH tt kk => XS.iloadN HH hx rfl (hb hby at_13) rfl kk) ?_
  refine k_pure (g' := (mkF m 16 #[.val (.int x), .val (.int y), .unset, .unset, .unset, .unset, .unset, .unset, .unset, .unset, .unset] [(.int (19 : Int32)), (.int y)])) (fun TT HH tt kk => XS.bipush HH hx rfl (hb hby at_14) kk) ?_
  refine k_pure (g' := (mkF m 17 #[.val (.int x), .val (.int y), .unset, .unset, .unset, .unset, .unset, .unset, .unset, .unset, .unset] [(.int (y % (19 : Int32)))])) (fun TT HH tt kk => s_irem HH hx rfl (hb hby at_16) rfl (by decide) kk) ?_
  refine k_pure (g' := (mkF m 18 #[.val (.int x), .val (.int y), .val (.int (y % (19 : Int32))), .unset, .unset, .unset, .unset, .unset, .unset, .unset, .unset] [])) (fun TT HH tt kk => XS.istoreN HH hx rfl (hb hby at_17) rfl (l' := #[.val (.int x), .val (.int y), .val (.int (y % (19 : Int32))), .unset, .unset, .unset, .unset, .unset, .unset, .unset, .unset]) rfl kk) ?_
  show Run p l e _ s m _ below meth c Z EL1 _ n0 NoB h0 0 0 (mkF m 18 #[.val (.int x), .val (.int y), .val (.int (e1 y)), .unset, .unset, .unset, .unset, .unset, .unset, .unset, .unset] []) _
  refine k_pure (g' := (mkF m 19 #[.val (.int x), .val (.int y), .val (.int (e1 y)), .unset, .unset, .unset, .unset, .unset, .unset, .unset, .unset] [(.int y)])) (fun TT HH tt kk => XS.iloadN HH hx rfl (hb hby at_18) rfl kk) ?_
  refine k_pure (g' := (mkF m 21 #[.val (.int x), .val (.int y), .val (.int (e1 y)), .unset, .unset, .unset, .unset, .unset, .unset, .unset, .unset] [(.int (100 : Int32)), (.int y)])) (fun TT HH tt kk => XS.bipush HH hx rfl (hb hby at_19) kk) ?_
  refine k_pure (g' := (mkF m 22 #[.val (.int x), .val (.int y), .val (.int (e1 y)), .unset, .unset, .unset, .unset, .unset, .unset, .unset, .unset] [(.int (y / (100 : Int32)))])) (fun TT HH tt kk => XS.idiv HH hx rfl (hb hby at_21) rfl (by decide) kk) ?_
  refine k_pure (g' := (mkF m 23 #[.val (.int x), .val (.int y), .val (.int (e1 y)), .val (.int (y / (100 : Int32))), .unset, .unset, .unset, .unset, .unset, .unset, .unset] [])) (fun TT HH tt kk => XS.istoreN HH hx rfl (hb hby at_22) rfl (l' := #[.val (.int x), .val (.int y), .val (.int (e1 y)), .val (.int (y / (100 : Int32))), .unset, .unset, .unset, .unset, .unset, .unset, .unset]) rfl kk) ?_
  show Run p l e _ s m _ below meth c Z EL1 _ n0 NoB h0 0 0 (mkF m 23 #[.val (.int x), .val (.int y), .val (.int (e1 y)), .val (.int (e2 y)), .unset, .unset, .unset, .unset, .unset, .unset, .unset] []) _
  refine k_pure (g' := (mkF m 25 #[.val (.int x), .val (.int y), .val (.int (e1 y)), .val (.int (e2 y)), .unset, .unset, .unset, .unset, .unset, .unset, .unset] [(.int (19 : Int32))])) (fun TT HH tt kk => XS.bipush HH hx rfl (hb hby at_23) kk) ?_
  refine k_pure (g' := (mkF m 26 #[.val (.int x), .val (.int y), .val (.int (e1 y)), .val (.int (e2 y)), .unset, .unset, .unset, .unset, .unset, .unset, .unset] [(.int (e1 y)), (.int (19 : Int32))])) (fun TT HH tt kk => XS.iloadN HH hx rfl (hb hby at_25) rfl kk) ?_
  refine k_pure (g' := (mkF m 27 #[.val (.int x), .val (.int y), .val (.int (e1 y)), .val (.int (e2 y)), .unset, .unset, .unset, .unset, .unset, .unset, .unset] [(.int ((19 : Int32) * (e1 y)))])) (fun TT HH tt kk => XS.imul HH hx rfl (hb hby at_26) rfl kk) ?_
  refine k_pure (g' := (mkF m 29 #[.val (.int x), .val (.int y), .val (.int (e1 y)), .val (.int (e2 y)), .unset, .unset, .unset, .unset, .unset, .unset, .unset] [(.int (15 : Int32)), (.int ((19 : Int32) * (e1 y)))])) (fun TT HH tt kk => XS.bipush HH hx rfl (hb hby at_27) kk) ?_
  refine k_pure (g' := (mkF m 30 #[.val (.int x), .val (.int y), .val (.int (e1 y)), .val (.int (e2 y)), .unset, .unset, .unset, .unset, .unset, .unset, .unset] [(.int (((19 : Int32) * (e1 y)) + (15 : Int32)))])) (fun TT HH tt kk => XS.iadd HH hx rfl (hb hby at_29) rfl kk) ?_
  refine k_pure (g' := (mkF m 31 #[.val (.int x), .val (.int y), .val (.int (e1 y)), .val (.int (e2 y)), .unset, .unset, .unset, .unset, .unset, .unset, .unset] [(.int (e2 y)), (.int (((19 : Int32) * (e1 y)) + (15 : Int32)))])) (fun TT HH tt kk => XS.iloadN HH hx rfl (hb hby at_30) rfl kk) ?_
  refine k_pure (g' := (mkF m 32 #[.val (.int x), .val (.int y), .val (.int (e1 y)), .val (.int (e2 y)), .unset, .unset, .unset, .unset, .unset, .unset, .unset] [(.int ((((19 : Int32) * (e1 y)) + (15 : Int32)) + (e2 y)))])) (fun TT HH tt kk => XS.iadd HH hx rfl (hb hby at_31) rfl kk) ?_
  refine k_pure (g' := (mkF m 33 #[.val (.int x), .val (.int y), .val (.int (e1 y)), .val (.int (e2 y)), .unset, .unset, .unset, .unset, .unset, .unset, .unset] [(.int (e2 y)), (.int ((((19 : Int32) * (e1 y)) + (15 : Int32)) + (e2 y)))])) (fun TT HH tt kk => XS.iloadN HH hx rfl (hb hby at_32) rfl kk) ?_
  refine k_pure (g' := (mkF m 34 #[.val (.int x), .val (.int y), .val (.int (e1 y)), .val (.int (e2 y)), .unset, .unset, .unset, .unset, .unset, .unset, .unset] [(.int (4 : Int32)), (.int (e2 y)), (.int ((((19 : Int32) * (e1 y)) + (15 : Int32)) + (e2 y)))])) (fun TT HH tt kk => XS.iconst HH hx rfl (hb hby at_33) kk) ?_
  refine k_pure (g' := (mkF m 35 #[.val (.int x), .val (.int y), .val (.int (e1 y)), .val (.int (e2 y)), .unset, .unset, .unset, .unset, .unset, .unset, .unset] [(.int ((e2 y) / (4 : Int32))), (.int ((((19 : Int32) * (e1 y)) + (15 : Int32)) + (e2 y)))])) (fun TT HH tt kk => XS.idiv HH hx rfl (hb hby at_34) rfl (by decide) kk) ?_
  refine k_pure (g' := (mkF m 36 #[.val (.int x), .val (.int y), .val (.int (e1 y)), .val (.int (e2 y)), .unset, .unset, .unset, .unset, .unset, .unset, .unset] [(.int (((((19 : Int32) * (e1 y)) + (15 : Int32)) + (e2 y)) - ((e2 y) / (4 : Int32))))])) (fun TT HH tt kk => XS.isub HH hx rfl (hb hby at_35) rfl kk) ?_
  refine k_pure (g' := (mkF m 38 #[.val (.int x), .val (.int y), .val (.int (e1 y)), .val (.int (e2 y)), .unset, .unset, .unset, .unset, .unset, .unset, .unset] [(.int (8 : Int32)), (.int (((((19 : Int32) * (e1 y)) + (15 : Int32)) + (e2 y)) - ((e2 y) / (4 : Int32))))])) (fun TT HH tt kk => XS.bipush HH hx rfl (hb hby at_36) kk) ?_
  refine k_pure (g' := (mkF m 39 #[.val (.int x), .val (.int y), .val (.int (e1 y)), .val (.int (e2 y)), .unset, .unset, .unset, .unset, .unset, .unset, .unset] [(.int (e2 y)), (.int (8 : Int32)), (.int (((((19 : Int32) * (e1 y)) + (15 : Int32)) + (e2 y)) - ((e2 y) / (4 : Int32))))])) (fun TT HH tt kk => XS.iloadN HH hx rfl (hb hby at_38) rfl kk) ?_
  refine k_pure (g' := (mkF m 40 #[.val (.int x), .val (.int y), .val (.int (e1 y)), .val (.int (e2 y)), .unset, .unset, .unset, .unset, .unset, .unset, .unset] [(.int ((8 : Int32) * (e2 y))), (.int (((((19 : Int32) * (e1 y)) + (15 : Int32)) + (e2 y)) - ((e2 y) / (4 : Int32))))])) (fun TT HH tt kk => XS.imul HH hx rfl (hb hby at_39) rfl kk) ?_
  refine k_pure (g' := (mkF m 42 #[.val (.int x), .val (.int y), .val (.int (e1 y)), .val (.int (e2 y)), .unset, .unset, .unset, .unset, .unset, .unset, .unset] [(.int (13 : Int32)), (.int ((8 : Int32) * (e2 y))), (.int (((((19 : Int32) * (e1 y)) + (15 : Int32)) + (e2 y)) - ((e2 y) / (4 : Int32))))])) (fun TT HH tt kk => XS.bipush HH hx rfl (hb hby at_40) kk) ?_
  refine k_pure (g' := (mkF m 43 #[.val (.int x), .val (.int y), .val (.int (e1 y)), .val (.int (e2 y)), .unset, .unset, .unset, .unset, .unset, .unset, .unset] [(.int (((8 : Int32) * (e2 y)) + (13 : Int32))), (.int (((((19 : Int32) * (e1 y)) + (15 : Int32)) + (e2 y)) - ((e2 y) / (4 : Int32))))])) (fun TT HH tt kk => XS.iadd HH hx rfl (hb hby at_42) rfl kk) ?_
  refine k_pure (g' := (mkF m 45 #[.val (.int x), .val (.int y), .val (.int (e1 y)), .val (.int (e2 y)), .unset, .unset, .unset, .unset, .unset, .unset, .unset] [(.int (25 : Int32)), (.int (((8 : Int32) * (e2 y)) + (13 : Int32))), (.int (((((19 : Int32) * (e1 y)) + (15 : Int32)) + (e2 y)) - ((e2 y) / (4 : Int32))))])) (fun TT HH tt kk => XS.bipush HH hx rfl (hb hby at_43) kk) ?_
  refine k_pure (g' := (mkF m 46 #[.val (.int x), .val (.int y), .val (.int (e1 y)), .val (.int (e2 y)), .unset, .unset, .unset, .unset, .unset, .unset, .unset] [(.int ((((8 : Int32) * (e2 y)) + (13 : Int32)) / (25 : Int32))), (.int (((((19 : Int32) * (e1 y)) + (15 : Int32)) + (e2 y)) - ((e2 y) / (4 : Int32))))])) (fun TT HH tt kk => XS.idiv HH hx rfl (hb hby at_45) rfl (by decide) kk) ?_
  refine k_pure (g' := (mkF m 47 #[.val (.int x), .val (.int y), .val (.int (e1 y)), .val (.int (e2 y)), .unset, .unset, .unset, .unset, .unset, .unset, .unset] [(.int ((((((19 : Int32) * (e1 y)) + (15 : Int32)) + (e2 y)) - ((e2 y) / (4 : Int32))) - ((((8 : Int32) * (e2 y)) + (13 : Int32)) / (25 : Int32))))])) (fun TT HH tt kk => XS.isub HH hx rfl (hb hby at_46) rfl kk) ?_
  refine k_pure (g' := (mkF m 49 #[.val (.int x), .val (.int y), .val (.int (e1 y)), .val (.int (e2 y)), .unset, .unset, .unset, .unset, .unset, .unset, .unset] [(.int (30 : Int32)), (.int ((((((19 : Int32) * (e1 y)) + (15 : Int32)) + (e2 y)) - ((e2 y) / (4 : Int32))) - ((((8 : Int32) * (e2 y)) + (13 : Int32)) / (25 : Int32))))])) (fun TT HH tt kk => XS.bipush HH hx rfl (hb hby at_47) kk) ?_
  refine k_pure (g' := (mkF m 50 #[.val (.int x), .val (.int y), .val (.int (e1 y)), .val (.int (e2 y)), .unset, .unset, .unset, .unset, .unset, .unset, .unset] [(.int (((((((19 : Int32) * (e1 y)) + (15 : Int32)) + (e2 y)) - ((e2 y) / (4 : Int32))) - ((((8 : Int32) * (e2 y)) + (13 : Int32)) / (25 : Int32))) % (30 : Int32)))])) (fun TT HH tt kk => s_irem HH hx rfl (hb hby at_49) rfl (by decide) kk) ?_
  refine k_pure (g' := (mkF m 52 #[.val (.int x), .val (.int y), .val (.int (e1 y)), .val (.int (e2 y)), .val (.int (((((((19 : Int32) * (e1 y)) + (15 : Int32)) + (e2 y)) - ((e2 y) / (4 : Int32))) - ((((8 : Int32) * (e2 y)) + (13 : Int32)) / (25 : Int32))) % (30 : Int32))), .unset, .unset, .unset, .unset, .unset, .unset] [])) (fun TT HH tt kk => XS.istore HH hx rfl (hb hby at_50) rfl (l' := #[.val (.int x), .val (.int y), .val (.int (e1 y)), .val (.int (e2 y)), .val (.int (((((((19 : Int32) * (e1 y)) + (15 : Int32)) + (e2 y)) - ((e2 y) / (4 : Int32))) - ((((8 : Int32) * (e2 y)) + (13 : Int32)) / (25 : Int32))) % (30 : Int32))), .unset, .unset, .unset, .unset, .unset, .unset]) rfl kk) ?_
  show Run p l e _ s m _ below meth c Z EL1 _ n0 NoB h0 0 0 (mkF m 52 #[.val (.int x), .val (.int y), .val (.int (e1 y)), .val (.int (e2 y)), .val (.int (lh y)), .unset, .unset, .unset, .unset, .unset, .unset] []) _
  have J87 : ∀ pf : Int32, pf = lp y → Run p l e room_1 s m #[(.int x)] below meth c Z EL1 "com/example/ratable/ratable/HolidayCalendarEasterSundayPinLaw" n0 NoB h0 0 0 (mkF m 87 #[.val (.int x), .val (.int y), .val (.int (e1 y)), .val (.int (e2 y)), .val (.int (lh y)), .val (.int pf), .unset, .unset, .unset, .unset, .unset] []) (Q_law Z x h0 n0 NoB) := by
    intro pf hpf
    subst hpf
    show Run p l e _ s m _ below meth c Z EL1 _ n0 NoB h0 0 0 (mkF m 87 #[.val (.int x), .val (.int y), .val (.int (e1 y)), .val (.int (e2 y)), .val (.int (lh y)), .val (.int (lp y)), .unset, .unset, .unset, .unset, .unset] []) _
    refine k_pure (g' := (mkF m 88 #[.val (.int x), .val (.int y), .val (.int (e1 y)), .val (.int (e2 y)), .val (.int (lh y)), .val (.int (lp y)), .unset, .unset, .unset, .unset, .unset] [(.int y)])) (fun TT HH tt kk => XS.iloadN HH hx rfl (hb hby at_87) rfl kk) ?_
    refine k_pure (g' := (mkF m 89 #[.val (.int x), .val (.int y), .val (.int (e1 y)), .val (.int (e2 y)), .val (.int (lh y)), .val (.int (lp y)), .unset, .unset, .unset, .unset, .unset] [(.int y), (.int y)])) (fun TT HH tt kk => XS.iloadN HH hx rfl (hb hby at_88) rfl kk) ?_
    refine k_pure (g' := (mkF m 90 #[.val (.int x), .val (.int y), .val (.int (e1 y)), .val (.int (e2 y)), .val (.int (lh y)), .val (.int (lp y)), .unset, .unset, .unset, .unset, .unset] [(.int (4 : Int32)), (.int y), (.int y)])) (fun TT HH tt kk => XS.iconst HH hx rfl (hb hby at_89) kk) ?_
    refine k_pure (g' := (mkF m 91 #[.val (.int x), .val (.int y), .val (.int (e1 y)), .val (.int (e2 y)), .val (.int (lh y)), .val (.int (lp y)), .unset, .unset, .unset, .unset, .unset] [(.int (y / (4 : Int32))), (.int y)])) (fun TT HH tt kk => XS.idiv HH hx rfl (hb hby at_90) rfl (by decide) kk) ?_
    refine k_pure (g' := (mkF m 92 #[.val (.int x), .val (.int y), .val (.int (e1 y)), .val (.int (e2 y)), .val (.int (lh y)), .val (.int (lp y)), .unset, .unset, .unset, .unset, .unset] [(.int (y + (y / (4 : Int32))))])) (fun TT HH tt kk => XS.iadd HH hx rfl (hb hby at_91) rfl kk) ?_
    refine k_pure (g' := (mkF m 93 #[.val (.int x), .val (.int y), .val (.int (e1 y)), .val (.int (e2 y)), .val (.int (lh y)), .val (.int (lp y)), .unset, .unset, .unset, .unset, .unset] [(.int (e2 y)), (.int (y + (y / (4 : Int32))))])) (fun TT HH tt kk => XS.iloadN HH hx rfl (hb hby at_92) rfl kk) ?_
    refine k_pure (g' := (mkF m 94 #[.val (.int x), .val (.int y), .val (.int (e1 y)), .val (.int (e2 y)), .val (.int (lh y)), .val (.int (lp y)), .unset, .unset, .unset, .unset, .unset] [(.int ((y + (y / (4 : Int32))) - (e2 y)))])) (fun TT HH tt kk => XS.isub HH hx rfl (hb hby at_93) rfl kk) ?_
    refine k_pure (g' := (mkF m 95 #[.val (.int x), .val (.int y), .val (.int (e1 y)), .val (.int (e2 y)), .val (.int (lh y)), .val (.int (lp y)), .unset, .unset, .unset, .unset, .unset] [(.int (e2 y)), (.int ((y + (y / (4 : Int32))) - (e2 y)))])) (fun TT HH tt kk => XS.iloadN HH hx rfl (hb hby at_94) rfl kk) ?_
    refine k_pure (g' := (mkF m 96 #[.val (.int x), .val (.int y), .val (.int (e1 y)), .val (.int (e2 y)), .val (.int (lh y)), .val (.int (lp y)), .unset, .unset, .unset, .unset, .unset] [(.int (4 : Int32)), (.int (e2 y)), (.int ((y + (y / (4 : Int32))) - (e2 y)))])) (fun TT HH tt kk => XS.iconst HH hx rfl (hb hby at_95) kk) ?_
    refine k_pure (g' := (mkF m 97 #[.val (.int x), .val (.int y), .val (.int (e1 y)), .val (.int (e2 y)), .val (.int (lh y)), .val (.int (lp y)), .unset, .unset, .unset, .unset, .unset] [(.int ((e2 y) / (4 : Int32))), (.int ((y + (y / (4 : Int32))) - (e2 y)))])) (fun TT HH tt kk => XS.idiv HH hx rfl (hb hby at_96) rfl (by decide) kk) ?_
    refine k_pure (g' := (mkF m 98 #[.val (.int x), .val (.int y), .val (.int (e1 y)), .val (.int (e2 y)), .val (.int (lh y)), .val (.int (lp y)), .unset, .unset, .unset, .unset, .unset] [(.int (((y + (y / (4 : Int32))) - (e2 y)) + ((e2 y) / (4 : Int32))))])) (fun TT HH tt kk => XS.iadd HH hx rfl (hb hby at_97) rfl kk) ?_
    refine k_pure (g' := (mkF m 100 #[.val (.int x), .val (.int y), .val (.int (e1 y)), .val (.int (e2 y)), .val (.int (lh y)), .val (.int (lp y)), .unset, .unset, .unset, .unset, .unset] [(.int (lp y)), (.int (((y + (y / (4 : Int32))) - (e2 y)) + ((e2 y) / (4 : Int32))))])) (fun TT HH tt kk => XS.iload HH hx rfl (hb hby at_98) rfl kk) ?_
    refine k_pure (g' := (mkF m 101 #[.val (.int x), .val (.int y), .val (.int (e1 y)), .val (.int (e2 y)), .val (.int (lh y)), .val (.int (lp y)), .unset, .unset, .unset, .unset, .unset] [(.int ((((y + (y / (4 : Int32))) - (e2 y)) + ((e2 y) / (4 : Int32))) + (lp y)))])) (fun TT HH tt kk => XS.iadd HH hx rfl (hb hby at_100) rfl kk) ?_
    refine k_pure (g' := (mkF m 102 #[.val (.int x), .val (.int y), .val (.int (e1 y)), .val (.int (e2 y)), .val (.int (lh y)), .val (.int (lp y)), .unset, .unset, .unset, .unset, .unset] [(.int (2 : Int32)), (.int ((((y + (y / (4 : Int32))) - (e2 y)) + ((e2 y) / (4 : Int32))) + (lp y)))])) (fun TT HH tt kk => XS.iconst HH hx rfl (hb hby at_101) kk) ?_
    refine k_pure (g' := (mkF m 103 #[.val (.int x), .val (.int y), .val (.int (e1 y)), .val (.int (e2 y)), .val (.int (lh y)), .val (.int (lp y)), .unset, .unset, .unset, .unset, .unset] [(.int (((((y + (y / (4 : Int32))) - (e2 y)) + ((e2 y) / (4 : Int32))) + (lp y)) + (2 : Int32)))])) (fun TT HH tt kk => XS.iadd HH hx rfl (hb hby at_102) rfl kk) ?_
    refine k_pure (g' := (mkF m 105 #[.val (.int x), .val (.int y), .val (.int (e1 y)), .val (.int (e2 y)), .val (.int (lh y)), .val (.int (lp y)), .unset, .unset, .unset, .unset, .unset] [(.int (7 : Int32)), (.int (((((y + (y / (4 : Int32))) - (e2 y)) + ((e2 y) / (4 : Int32))) + (lp y)) + (2 : Int32)))])) (fun TT HH tt kk => XS.bipush HH hx rfl (hb hby at_103) kk) ?_
    refine k_pure (g' := (mkF m 106 #[.val (.int x), .val (.int y), .val (.int (e1 y)), .val (.int (e2 y)), .val (.int (lh y)), .val (.int (lp y)), .unset, .unset, .unset, .unset, .unset] [(.int ((((((y + (y / (4 : Int32))) - (e2 y)) + ((e2 y) / (4 : Int32))) + (lp y)) + (2 : Int32)) % (7 : Int32)))])) (fun TT HH tt kk => s_irem HH hx rfl (hb hby at_105) rfl (by decide) kk) ?_
    refine k_pure (g' := (mkF m 108 #[.val (.int x), .val (.int y), .val (.int (e1 y)), .val (.int (e2 y)), .val (.int (lh y)), .val (.int (lp y)), .val (.int ((((((y + (y / (4 : Int32))) - (e2 y)) + ((e2 y) / (4 : Int32))) + (lp y)) + (2 : Int32)) % (7 : Int32))), .unset, .unset, .unset, .unset] [])) (fun TT HH tt kk => XS.istore HH hx rfl (hb hby at_106) rfl (l' := #[.val (.int x), .val (.int y), .val (.int (e1 y)), .val (.int (e2 y)), .val (.int (lh y)), .val (.int (lp y)), .val (.int ((((((y + (y / (4 : Int32))) - (e2 y)) + ((e2 y) / (4 : Int32))) + (lp y)) + (2 : Int32)) % (7 : Int32))), .unset, .unset, .unset, .unset]) rfl kk) ?_
    refine k_pure (g' := (mkF m 110 #[.val (.int x), .val (.int y), .val (.int (e1 y)), .val (.int (e2 y)), .val (.int (lh y)), .val (.int (lp y)), .val (.int ((((((y + (y / (4 : Int32))) - (e2 y)) + ((e2 y) / (4 : Int32))) + (lp y)) + (2 : Int32)) % (7 : Int32))), .unset, .unset, .unset, .unset] [(.int (lp y))])) (fun TT HH tt kk => XS.iload HH hx rfl (hb hby at_108) rfl kk) ?_
    refine k_pure (g' := (mkF m 112 #[.val (.int x), .val (.int y), .val (.int (e1 y)), .val (.int (e2 y)), .val (.int (lh y)), .val (.int (lp y)), .val (.int ((((((y + (y / (4 : Int32))) - (e2 y)) + ((e2 y) / (4 : Int32))) + (lp y)) + (2 : Int32)) % (7 : Int32))), .unset, .unset, .unset, .unset] [(.int (6 : Int32)), (.int (lp y))])) (fun TT HH tt kk => XS.bipush HH hx rfl (hb hby at_110) kk) ?_
    refine k_pure (g' := (mkF m 113 #[.val (.int x), .val (.int y), .val (.int (e1 y)), .val (.int (e2 y)), .val (.int (lh y)), .val (.int (lp y)), .val (.int ((((((y + (y / (4 : Int32))) - (e2 y)) + ((e2 y) / (4 : Int32))) + (lp y)) + (2 : Int32)) % (7 : Int32))), .unset, .unset, .unset, .unset] [(.int ((lp y) + (6 : Int32)))])) (fun TT HH tt kk => XS.iadd HH hx rfl (hb hby at_112) rfl kk) ?_
    refine k_pure (g' := (mkF m 115 #[.val (.int x), .val (.int y), .val (.int (e1 y)), .val (.int (e2 y)), .val (.int (lh y)), .val (.int (lp y)), .val (.int ((((((y + (y / (4 : Int32))) - (e2 y)) + ((e2 y) / (4 : Int32))) + (lp y)) + (2 : Int32)) % (7 : Int32))), .unset, .unset, .unset, .unset] [(.int ((((((y + (y / (4 : Int32))) - (e2 y)) + ((e2 y) / (4 : Int32))) + (lp y)) + (2 : Int32)) % (7 : Int32))), (.int ((lp y) + (6 : Int32)))])) (fun TT HH tt kk => XS.iload HH hx rfl (hb hby at_113) rfl kk) ?_
    refine k_pure (g' := (mkF m 116 #[.val (.int x), .val (.int y), .val (.int (e1 y)), .val (.int (e2 y)), .val (.int (lh y)), .val (.int (lp y)), .val (.int ((((((y + (y / (4 : Int32))) - (e2 y)) + ((e2 y) / (4 : Int32))) + (lp y)) + (2 : Int32)) % (7 : Int32))), .unset, .unset, .unset, .unset] [(.int (((lp y) + (6 : Int32)) - ((((((y + (y / (4 : Int32))) - (e2 y)) + ((e2 y) / (4 : Int32))) + (lp y)) + (2 : Int32)) % (7 : Int32))))])) (fun TT HH tt kk => XS.isub HH hx rfl (hb hby at_115) rfl kk) ?_
    refine k_pure (g' := (mkF m 118 #[.val (.int x), .val (.int y), .val (.int (e1 y)), .val (.int (e2 y)), .val (.int (lh y)), .val (.int (lp y)), .val (.int ((((((y + (y / (4 : Int32))) - (e2 y)) + ((e2 y) / (4 : Int32))) + (lp y)) + (2 : Int32)) % (7 : Int32))), .val (.int (((lp y) + (6 : Int32)) - ((((((y + (y / (4 : Int32))) - (e2 y)) + ((e2 y) / (4 : Int32))) + (lp y)) + (2 : Int32)) % (7 : Int32)))), .unset, .unset, .unset] [])) (fun TT HH tt kk => XS.istore HH hx rfl (hb hby at_116) rfl (l' := #[.val (.int x), .val (.int y), .val (.int (e1 y)), .val (.int (e2 y)), .val (.int (lh y)), .val (.int (lp y)), .val (.int ((((((y + (y / (4 : Int32))) - (e2 y)) + ((e2 y) / (4 : Int32))) + (lp y)) + (2 : Int32)) % (7 : Int32))), .val (.int (((lp y) + (6 : Int32)) - ((((((y + (y / (4 : Int32))) - (e2 y)) + ((e2 y) / (4 : Int32))) + (lp y)) + (2 : Int32)) % (7 : Int32)))), .unset, .unset, .unset]) rfl kk) ?_
    show Run p l e _ s m _ below meth c Z EL1 _ n0 NoB h0 0 0 (mkF m 118 #[.val (.int x), .val (.int y), .val (.int (e1 y)), .val (.int (e2 y)), .val (.int (lh y)), .val (.int (lp y)), .val (.int (lw y)), .val (.int (lf y)), .unset, .unset, .unset] []) _
    have J148 : ∀ mo da : Int32, ((lf y).toInt ≤ 9 → mo = 3 ∧ da.toInt = 22 + (lf y).toInt) → (9 < (lf y).toInt → mo = 4 ∧ da.toInt = (lf y).toInt - 9) → Run p l e room_1 s m #[(.int x)] below meth c Z EL1 "com/example/ratable/ratable/HolidayCalendarEasterSundayPinLaw" n0 NoB h0 0 0 (mkF m 148 #[.val (.int x), .val (.int y), .val (.int (e1 y)), .val (.int (e2 y)), .val (.int (lh y)), .val (.int (lp y)), .val (.int (lw y)), .val (.int (lf y)), .val (.int mo), .val (.int da), .unset] []) (Q_law Z x h0 n0 NoB) := by
      intro mo da ha hb9
      refine k_pure (g' := (mkF m 149 #[.val (.int x), .val (.int y), .val (.int (e1 y)), .val (.int (e2 y)), .val (.int (lh y)), .val (.int (lp y)), .val (.int (lw y)), .val (.int (lf y)), .val (.int mo), .val (.int da), .unset] [(.int y)])) (fun TT HH tt kk => XS.iloadN HH hx rfl (hb hby at_148) rfl kk) ?_
      refine k_callS hx (y := (⟨"com/example/ratable/ratable/HolidayCalendar", "easterSunday", "(I)Ljava/time/LocalDate;"⟩ : MethodName)) (hw _ (List.mem_of_getElem? (i := 1) rfl)) (hw _ (List.mem_of_getElem? (i := 2) rfl)) (hw _ (List.mem_of_getElem? (i := 3) rfl)) (hw _ (List.mem_of_getElem? (i := 4) rfl)) (by decide) (W := 0) (argsL := [(.int y)]) (rest := []) (Pays.of_met (rm_est l Z a0 gM gY rY gD rD hX hY n0 h0 O0 y mo da (by omega) (by omega) (by rw [ok1]; exact ok2) (by rw [ok1]; exact ok3) (by rw [ok1]; exact ha) (by rw [ok1]; exact hb9) []) (hw _ (List.mem_of_getElem? (i := 4) rfl)) (hw _ (List.mem_of_getElem? (i := 3) rfl)) (by decide) (by decide)) rfl (by rw [hml]; rfl) (lenOf pd__28_I_29_Ljava_2f_time_2f_LocalDate_3b_ rfl) rfl (by show 2 * 0 + _ ≤ _; exact Nat.le_of_eq rfl) (hb hby at_149) (by decide) (by decide) ?_
      intro v_1 h_2 bk_3 O_4 z_5 Q_6
      obtain ⟨a_7, rfl, rfl, K_8, F_9, F_10, F_11, F_12⟩ := Q_6
      have lt_13 : @LT.lt Nat _ a_7 (Array.size h_2) := F_9.lt
      have lt_14 : @LT.lt Nat _ a_7 (Array.size h_2) := F_10.lt
      have lt_15 : @LT.lt Nat _ a_7 (Array.size h_2) := F_11.lt
      have lt_16 : @LT.lt Nat _ a_7 (Array.size h_2) := F_12.lt
      show Run p l e _ s m _ below meth c Z EL1 _ n0 NoB h_2 4 30 (mkF m 152 #[.val (.int x), .val (.int y), .val (.int (e1 y)), .val (.int (e2 y)), .val (.int (lh y)), .val (.int (lp y)), .val (.int (lw y)), .val (.int (lf y)), .val (.int mo), .val (.int da), .unset] [(.ref a_7)]) _
      refine k_pure (g' := (mkF m 154 #[.val (.int x), .val (.int y), .val (.int (e1 y)), .val (.int (e2 y)), .val (.int (lh y)), .val (.int (lp y)), .val (.int (lw y)), .val (.int (lf y)), .val (.int mo), .val (.int da), .val (.ref a_7)] [])) (fun TT HH tt kk => XS.astore HH hx rfl (hb hby at_152) rfl rfl (l' := #[.val (.int x), .val (.int y), .val (.int (e1 y)), .val (.int (e2 y)), .val (.int (lh y)), .val (.int (lp y)), .val (.int (lw y)), .val (.int (lf y)), .val (.int mo), .val (.int da), .val (.ref a_7)]) rfl kk) ?_
      refine k_pure (g' := (mkF m 156 #[.val (.int x), .val (.int y), .val (.int (e1 y)), .val (.int (e2 y)), .val (.int (lh y)), .val (.int (lp y)), .val (.int (lw y)), .val (.int (lf y)), .val (.int mo), .val (.int da), .val (.ref a_7)] [(.ref a_7)])) (fun TT HH tt kk => XS.aload HH hx rfl (hb hby at_154) rfl rfl kk) ?_
      refine k_callV hx (y := (⟨"java/time/LocalDate", "getYear", "()I"⟩ : MethodName)) (z := (⟨"java/time/LocalDate", "getYear", "()I"⟩ : MethodName)) (hw _ (List.mem_of_getElem? (i := 107) rfl)) (hw _ (List.mem_of_getElem? (i := 108) rfl)) (fun s' hZ => notFace_of_selects (args := #[]) (mv hZ (hw _ (List.mem_of_getElem? (i := 110) rfl)))) (hw _ (List.mem_of_getElem? (i := 110) rfl)) (hw _ (List.mem_of_getElem? (i := 109) rfl)) (by decide) (W := 0) (a := a_7) (argsL := []) (rest := []) (Pays.of_met (rm_getYear l Z a0 gM gY rY gD rD hX hY n0 h_2 O_4 a_7 y F_10 []) (hw _ (List.mem_of_getElem? (i := 111) rfl)) (hw _ (List.mem_of_getElem? (i := 9) rfl)) (by decide) (by decide)) F_9 rfl (by rw [hml]; rfl) (lenOf pd__28__29_I rfl) rfl (by show 2 * 0 + _ ≤ _; exact Nat.le_of_eq rfl) (hb hby at_156) (by decide) (by decide) ?_
      intro v_17 h_18 bk_19 O_20 z_21 Q_22
      obtain ⟨rfl, rfl, rfl⟩ := Q_22
      show Run p l e _ s m _ below meth c Z EL1 _ n0 NoB h_2 4 30 (mkF m 159 #[.val (.int x), .val (.int y), .val (.int (e1 y)), .val (.int (e2 y)), .val (.int (lh y)), .val (.int (lp y)), .val (.int (lw y)), .val (.int (lf y)), .val (.int mo), .val (.int da), .val (.ref a_7)] [(.int y)]) _
      refine k_pure (g' := (mkF m 160 #[.val (.int x), .val (.int y), .val (.int (e1 y)), .val (.int (e2 y)), .val (.int (lh y)), .val (.int (lp y)), .val (.int (lw y)), .val (.int (lf y)), .val (.int mo), .val (.int da), .val (.ref a_7)] [(.int y), (.int y)])) (fun TT HH tt kk => XS.iloadN HH hx rfl (hb hby at_159) rfl kk) ?_
      refine k_pure (g' := (mkF m 163 #[.val (.int x), .val (.int y), .val (.int (e1 y)), .val (.int (e2 y)), .val (.int (lh y)), .val (.int (lp y)), .val (.int (lw y)), .val (.int (lf y)), .val (.int mo), .val (.int da), .val (.ref a_7)] [])) (fun TT HH tt kk => XS.icmpNo HH hx rfl (hb hby at_160) rfl (teq rfl).2 kk) ?_
      refine k_pure (g' := (mkF m 165 #[.val (.int x), .val (.int y), .val (.int (e1 y)), .val (.int (e2 y)), .val (.int (lh y)), .val (.int (lp y)), .val (.int (lw y)), .val (.int (lf y)), .val (.int mo), .val (.int da), .val (.ref a_7)] [(.ref a_7)])) (fun TT HH tt kk => XS.aload HH hx rfl (hb hby at_163) rfl rfl kk) ?_
      refine k_callV hx (y := (⟨"java/time/LocalDate", "getMonthValue", "()I"⟩ : MethodName)) (z := (⟨"java/time/LocalDate", "getMonthValue", "()I"⟩ : MethodName)) (hw _ (List.mem_of_getElem? (i := 112) rfl)) (hw _ (List.mem_of_getElem? (i := 113) rfl)) (fun s' hZ => notFace_of_selects (args := #[]) (mv hZ (hw _ (List.mem_of_getElem? (i := 115) rfl)))) (hw _ (List.mem_of_getElem? (i := 115) rfl)) (hw _ (List.mem_of_getElem? (i := 114) rfl)) (by decide) (W := 0) (a := a_7) (argsL := []) (rest := []) (Pays.of_met (rm_getMonthValue l Z a0 gM gY rY gD rD hX hY n0 h_2 O_4 a_7 mo F_11 []) (hw _ (List.mem_of_getElem? (i := 116) rfl)) (hw _ (List.mem_of_getElem? (i := 9) rfl)) (by decide) (by decide)) F_9 rfl (by rw [hml]; rfl) (lenOf pd__28__29_I rfl) rfl (by show 2 * 0 + _ ≤ _; exact Nat.le_of_eq rfl) (hb hby at_165) (by decide) (by decide) ?_
      intro v_23 h_24 bk_25 O_26 z_27 Q_28
      obtain ⟨rfl, rfl, rfl⟩ := Q_28
      show Run p l e _ s m _ below meth c Z EL1 _ n0 NoB h_2 4 30 (mkF m 168 #[.val (.int x), .val (.int y), .val (.int (e1 y)), .val (.int (e2 y)), .val (.int (lh y)), .val (.int (lp y)), .val (.int (lw y)), .val (.int (lf y)), .val (.int mo), .val (.int da), .val (.ref a_7)] [(.int mo)]) _
      refine k_pure (g' := (mkF m 170 #[.val (.int x), .val (.int y), .val (.int (e1 y)), .val (.int (e2 y)), .val (.int (lh y)), .val (.int (lp y)), .val (.int (lw y)), .val (.int (lf y)), .val (.int mo), .val (.int da), .val (.ref a_7)] [(.int mo), (.int mo)])) (fun TT HH tt kk => XS.iload HH hx rfl (hb hby at_168) rfl kk) ?_
      refine k_pure (g' := (mkF m 173 #[.val (.int x), .val (.int y), .val (.int (e1 y)), .val (.int (e2 y)), .val (.int (lh y)), .val (.int (lp y)), .val (.int (lw y)), .val (.int (lf y)), .val (.int mo), .val (.int da), .val (.ref a_7)] [])) (fun TT HH tt kk => XS.icmpNo HH hx rfl (hb hby at_170) rfl (teq rfl).2 kk) ?_
      refine k_pure (g' := (mkF m 175 #[.val (.int x), .val (.int y), .val (.int (e1 y)), .val (.int (e2 y)), .val (.int (lh y)), .val (.int (lp y)), .val (.int (lw y)), .val (.int (lf y)), .val (.int mo), .val (.int da), .val (.ref a_7)] [(.ref a_7)])) (fun TT HH tt kk => XS.aload HH hx rfl (hb hby at_173) rfl rfl kk) ?_
      refine k_callV hx (y := (⟨"java/time/LocalDate", "getDayOfMonth", "()I"⟩ : MethodName)) (z := (⟨"java/time/LocalDate", "getDayOfMonth", "()I"⟩ : MethodName)) (hw _ (List.mem_of_getElem? (i := 117) rfl)) (hw _ (List.mem_of_getElem? (i := 118) rfl)) (fun s' hZ => notFace_of_selects (args := #[]) (mv hZ (hw _ (List.mem_of_getElem? (i := 120) rfl)))) (hw _ (List.mem_of_getElem? (i := 120) rfl)) (hw _ (List.mem_of_getElem? (i := 119) rfl)) (by decide) (W := 0) (a := a_7) (argsL := []) (rest := []) (Pays.of_met (rm_getDayOfMonth l Z a0 gM gY rY gD rD hX hY n0 h_2 O_4 a_7 da F_12 []) (hw _ (List.mem_of_getElem? (i := 121) rfl)) (hw _ (List.mem_of_getElem? (i := 9) rfl)) (by decide) (by decide)) F_9 rfl (by rw [hml]; rfl) (lenOf pd__28__29_I rfl) rfl (by show 2 * 0 + _ ≤ _; exact Nat.le_of_eq rfl) (hb hby at_175) (by decide) (by decide) ?_
      intro v_29 h_30 bk_31 O_32 z_33 Q_34
      obtain ⟨rfl, rfl, rfl⟩ := Q_34
      show Run p l e _ s m _ below meth c Z EL1 _ n0 NoB h_2 4 30 (mkF m 178 #[.val (.int x), .val (.int y), .val (.int (e1 y)), .val (.int (e2 y)), .val (.int (lh y)), .val (.int (lp y)), .val (.int (lw y)), .val (.int (lf y)), .val (.int mo), .val (.int da), .val (.ref a_7)] [(.int da)]) _
      refine k_pure (g' := (mkF m 180 #[.val (.int x), .val (.int y), .val (.int (e1 y)), .val (.int (e2 y)), .val (.int (lh y)), .val (.int (lp y)), .val (.int (lw y)), .val (.int (lf y)), .val (.int mo), .val (.int da), .val (.ref a_7)] [(.int da), (.int da)])) (fun TT HH tt kk => XS.iload HH hx rfl (hb hby at_178) rfl kk) ?_
      refine k_pure (g' := (mkF m 183 #[.val (.int x), .val (.int y), .val (.int (e1 y)), .val (.int (e2 y)), .val (.int (lh y)), .val (.int (lp y)), .val (.int (lw y)), .val (.int (lf y)), .val (.int mo), .val (.int da), .val (.ref a_7)] [])) (fun TT HH tt kk => XS.icmpNo HH hx rfl (hb hby at_180) rfl (teq rfl).2 kk) ?_
      refine k_pure (g' := (mkF m 184 #[.val (.int x), .val (.int y), .val (.int (e1 y)), .val (.int (e2 y)), .val (.int (lh y)), .val (.int (lp y)), .val (.int (lw y)), .val (.int (lf y)), .val (.int mo), .val (.int da), .val (.ref a_7)] [(.int (1 : Int32))])) (fun TT HH tt kk => XS.iconst HH hx rfl (hb hby at_183) kk) ?_
      refine k_pure (g' := (mkF m 188 #[.val (.int x), .val (.int y), .val (.int (e1 y)), .val (.int (e2 y)), .val (.int (lh y)), .val (.int (lp y)), .val (.int (lw y)), .val (.int (lf y)), .val (.int mo), .val (.int da), .val (.ref a_7)] [(.int (1 : Int32))])) (fun TT HH tt kk => XS.goto HH hx rfl (pc0 := 184) (pc' := 188) rfl (hb hby at_184) (by decide) (by decide) kk) ?_
      exact k_retN hx hlk hret (by simp) (hb hby at_188) (by decide) (by decide) ⟨rfl, rfl, ((Keep.refl _ _).trans K_8 kk0)⟩
    refine k_pure (g' := (mkF m 120 #[.val (.int x), .val (.int y), .val (.int (e1 y)), .val (.int (e2 y)), .val (.int (lh y)), .val (.int (lp y)), .val (.int (lw y)), .val (.int (lf y)), .unset, .unset, .unset] [(.int (lf y))])) (fun TT HH tt kk => XS.iload HH hx rfl (hb hby at_118) rfl kk) ?_
    refine k_pure (g' := (mkF m 122 #[.val (.int x), .val (.int y), .val (.int (e1 y)), .val (.int (e2 y)), .val (.int (lh y)), .val (.int (lp y)), .val (.int (lw y)), .val (.int (lf y)), .unset, .unset, .unset] [(.int (9 : Int32)), (.int (lf y))])) (fun TT HH tt kk => XS.bipush HH hx rfl (hb hby at_120) kk) ?_
    by_cases c_35 : (9 : Int32) < (lf y)
    · refine k_pure (g' := (mkF m 138 #[.val (.int x), .val (.int y), .val (.int (e1 y)), .val (.int (e2 y)), .val (.int (lh y)), .val (.int (lp y)), .val (.int (lw y)), .val (.int (lf y)), .unset, .unset, .unset] [])) (fun TT HH tt kk => XS.icmpYes HH hx rfl (pc0 := 122) (pc' := 138) rfl (hb hby at_122) rfl (tlt c_35).2.2.1 (by decide) (by decide) kk) ?_
      refine k_pure (g' := (mkF m 139 #[.val (.int x), .val (.int y), .val (.int (e1 y)), .val (.int (e2 y)), .val (.int (lh y)), .val (.int (lp y)), .val (.int (lw y)), .val (.int (lf y)), .unset, .unset, .unset] [(.int (4 : Int32))])) (fun TT HH tt kk => XS.iconst HH hx rfl (hb hby at_138) kk) ?_
      refine k_pure (g' := (mkF m 141 #[.val (.int x), .val (.int y), .val (.int (e1 y)), .val (.int (e2 y)), .val (.int (lh y)), .val (.int (lp y)), .val (.int (lw y)), .val (.int (lf y)), .val (.int (4 : Int32)), .unset, .unset] [])) (fun TT HH tt kk => XS.istore HH hx rfl (hb hby at_139) rfl (l' := #[.val (.int x), .val (.int y), .val (.int (e1 y)), .val (.int (e2 y)), .val (.int (lh y)), .val (.int (lp y)), .val (.int (lw y)), .val (.int (lf y)), .val (.int (4 : Int32)), .unset, .unset]) rfl kk) ?_
      refine k_pure (g' := (mkF m 143 #[.val (.int x), .val (.int y), .val (.int (e1 y)), .val (.int (e2 y)), .val (.int (lh y)), .val (.int (lp y)), .val (.int (lw y)), .val (.int (lf y)), .val (.int (4 : Int32)), .unset, .unset] [(.int (lf y))])) (fun TT HH tt kk => XS.iload HH hx rfl (hb hby at_141) rfl kk) ?_
      refine k_pure (g' := (mkF m 145 #[.val (.int x), .val (.int y), .val (.int (e1 y)), .val (.int (e2 y)), .val (.int (lh y)), .val (.int (lp y)), .val (.int (lw y)), .val (.int (lf y)), .val (.int (4 : Int32)), .unset, .unset] [(.int (9 : Int32)), (.int (lf y))])) (fun TT HH tt kk => XS.bipush HH hx rfl (hb hby at_143) kk) ?_
      refine k_pure (g' := (mkF m 146 #[.val (.int x), .val (.int y), .val (.int (e1 y)), .val (.int (e2 y)), .val (.int (lh y)), .val (.int (lp y)), .val (.int (lw y)), .val (.int (lf y)), .val (.int (4 : Int32)), .unset, .unset] [(.int ((lf y) - (9 : Int32)))])) (fun TT HH tt kk => XS.isub HH hx rfl (hb hby at_145) rfl kk) ?_
      refine k_pure (g' := (mkF m 148 #[.val (.int x), .val (.int y), .val (.int (e1 y)), .val (.int (e2 y)), .val (.int (lh y)), .val (.int (lp y)), .val (.int (lw y)), .val (.int (lf y)), .val (.int (4 : Int32)), .val (.int ((lf y) - (9 : Int32))), .unset] [])) (fun TT HH tt kk => XS.istore HH hx rfl (hb hby at_146) rfl (l' := #[.val (.int x), .val (.int y), .val (.int (e1 y)), .val (.int (e2 y)), .val (.int (lh y)), .val (.int (lp y)), .val (.int (lw y)), .val (.int (lf y)), .val (.int (4 : Int32)), .val (.int ((lf y) - (9 : Int32))), .unset]) rfl kk) ?_
      exact J148 _ _ (fun q => absurd q (by have r0 : (9 : Int32).toInt = 9 := (by decide); have r1 := rng32 (lf y); have r2 := (Int32.lt_iff_toInt_lt.mp c_35); omega)) (fun q => ⟨rfl, (by have r0 : (9 : Int32).toInt = 9 := (by decide); have r1 := rng32 (lf y); have r2 := c_isub (lf y) (9 : Int32); have r3 := rng32 ((lf y) - (9 : Int32)); have r4 := (Int32.lt_iff_toInt_lt.mp c_35); have r5 := ok2; have r6 := ok3; omega)⟩)
    · refine k_pure (g' := (mkF m 125 #[.val (.int x), .val (.int y), .val (.int (e1 y)), .val (.int (e2 y)), .val (.int (lh y)), .val (.int (lp y)), .val (.int (lw y)), .val (.int (lf y)), .unset, .unset, .unset] [])) (fun TT HH tt kk => XS.icmpNo HH hx rfl (hb hby at_122) rfl (flt c_35).2.2.1 kk) ?_
      refine k_pure (g' := (mkF m 126 #[.val (.int x), .val (.int y), .val (.int (e1 y)), .val (.int (e2 y)), .val (.int (lh y)), .val (.int (lp y)), .val (.int (lw y)), .val (.int (lf y)), .unset, .unset, .unset] [(.int (3 : Int32))])) (fun TT HH tt kk => XS.iconst HH hx rfl (hb hby at_125) kk) ?_
      refine k_pure (g' := (mkF m 128 #[.val (.int x), .val (.int y), .val (.int (e1 y)), .val (.int (e2 y)), .val (.int (lh y)), .val (.int (lp y)), .val (.int (lw y)), .val (.int (lf y)), .val (.int (3 : Int32)), .unset, .unset] [])) (fun TT HH tt kk => XS.istore HH hx rfl (hb hby at_126) rfl (l' := #[.val (.int x), .val (.int y), .val (.int (e1 y)), .val (.int (e2 y)), .val (.int (lh y)), .val (.int (lp y)), .val (.int (lw y)), .val (.int (lf y)), .val (.int (3 : Int32)), .unset, .unset]) rfl kk) ?_
      refine k_pure (g' := (mkF m 130 #[.val (.int x), .val (.int y), .val (.int (e1 y)), .val (.int (e2 y)), .val (.int (lh y)), .val (.int (lp y)), .val (.int (lw y)), .val (.int (lf y)), .val (.int (3 : Int32)), .unset, .unset] [(.int (22 : Int32))])) (fun TT HH tt kk => XS.bipush HH hx rfl (hb hby at_128) kk) ?_
      refine k_pure (g' := (mkF m 132 #[.val (.int x), .val (.int y), .val (.int (e1 y)), .val (.int (e2 y)), .val (.int (lh y)), .val (.int (lp y)), .val (.int (lw y)), .val (.int (lf y)), .val (.int (3 : Int32)), .unset, .unset] [(.int (lf y)), (.int (22 : Int32))])) (fun TT HH tt kk => XS.iload HH hx rfl (hb hby at_130) rfl kk) ?_
      refine k_pure (g' := (mkF m 133 #[.val (.int x), .val (.int y), .val (.int (e1 y)), .val (.int (e2 y)), .val (.int (lh y)), .val (.int (lp y)), .val (.int (lw y)), .val (.int (lf y)), .val (.int (3 : Int32)), .unset, .unset] [(.int ((22 : Int32) + (lf y)))])) (fun TT HH tt kk => XS.iadd HH hx rfl (hb hby at_132) rfl kk) ?_
      refine k_pure (g' := (mkF m 135 #[.val (.int x), .val (.int y), .val (.int (e1 y)), .val (.int (e2 y)), .val (.int (lh y)), .val (.int (lp y)), .val (.int (lw y)), .val (.int (lf y)), .val (.int (3 : Int32)), .val (.int ((22 : Int32) + (lf y))), .unset] [])) (fun TT HH tt kk => XS.istore HH hx rfl (hb hby at_133) rfl (l' := #[.val (.int x), .val (.int y), .val (.int (e1 y)), .val (.int (e2 y)), .val (.int (lh y)), .val (.int (lp y)), .val (.int (lw y)), .val (.int (lf y)), .val (.int (3 : Int32)), .val (.int ((22 : Int32) + (lf y))), .unset]) rfl kk) ?_
      refine k_pure (g' := (mkF m 148 #[.val (.int x), .val (.int y), .val (.int (e1 y)), .val (.int (e2 y)), .val (.int (lh y)), .val (.int (lp y)), .val (.int (lw y)), .val (.int (lf y)), .val (.int (3 : Int32)), .val (.int ((22 : Int32) + (lf y))), .unset] [])) (fun TT HH tt kk => XS.goto HH hx rfl (pc0 := 135) (pc' := 148) rfl (hb hby at_135) (by decide) (by decide) kk) ?_
      exact J148 _ _ (fun q => ⟨rfl, (by have r0 : (9 : Int32).toInt = 9 := (by decide); have r1 := rng32 (lf y); have r2 : (22 : Int32).toInt = 22 := (by decide); have r3 := c_iadd (22 : Int32) (lf y); have r4 := rng32 ((22 : Int32) + (lf y)); have r5 : ¬ ((9 : Int32)).toInt < ((lf y)).toInt := fun q => c_35 (Int32.lt_iff_toInt_lt.mpr q); have r6 := ok2; have r7 := ok3; omega)⟩) (fun q => absurd q (by have r0 : (9 : Int32).toInt = 9 := (by decide); have r1 := rng32 (lf y); have r2 : ¬ ((9 : Int32)).toInt < ((lf y)).toInt := fun q => c_35 (Int32.lt_iff_toInt_lt.mpr q); omega))
  refine k_pure (g' := (mkF m 54 #[.val (.int x), .val (.int y), .val (.int (e1 y)), .val (.int (e2 y)), .val (.int (lh y)), .unset, .unset, .unset, .unset, .unset, .unset] [(.int (lh y))])) (fun TT HH tt kk => XS.iload HH hx rfl (hb hby at_52) rfl kk) ?_
  refine k_pure (g' := (mkF m 56 #[.val (.int x), .val (.int y), .val (.int (e1 y)), .val (.int (e2 y)), .val (.int (lh y)), .val (.int (lh y)), .unset, .unset, .unset, .unset, .unset] [])) (fun TT HH tt kk => XS.istore HH hx rfl (hb hby at_54) rfl (l' := #[.val (.int x), .val (.int y), .val (.int (e1 y)), .val (.int (e2 y)), .val (.int (lh y)), .val (.int (lh y)), .unset, .unset, .unset, .unset, .unset]) rfl kk) ?_
  refine k_pure (g' := (mkF m 58 #[.val (.int x), .val (.int y), .val (.int (e1 y)), .val (.int (e2 y)), .val (.int (lh y)), .val (.int (lh y)), .unset, .unset, .unset, .unset, .unset] [(.int (lh y))])) (fun TT HH tt kk => XS.iload HH hx rfl (hb hby at_56) rfl kk) ?_
  refine k_pure (g' := (mkF m 60 #[.val (.int x), .val (.int y), .val (.int (e1 y)), .val (.int (e2 y)), .val (.int (lh y)), .val (.int (lh y)), .unset, .unset, .unset, .unset, .unset] [(.int (29 : Int32)), (.int (lh y))])) (fun TT HH tt kk => XS.bipush HH hx rfl (hb hby at_58) kk) ?_
  by_cases c_36 : (lh y) = (29 : Int32)
  · refine k_pure (g' := (mkF m 63 #[.val (.int x), .val (.int y), .val (.int (e1 y)), .val (.int (e2 y)), .val (.int (lh y)), .val (.int (lh y)), .unset, .unset, .unset, .unset, .unset] [])) (fun TT HH tt kk => XS.icmpNo HH hx rfl (hb hby at_60) rfl (teq c_36).2 kk) ?_
    refine k_pure (g' := (mkF m 65 #[.val (.int x), .val (.int y), .val (.int (e1 y)), .val (.int (e2 y)), .val (.int (lh y)), .val (.int (lh y)), .unset, .unset, .unset, .unset, .unset] [(.int (28 : Int32))])) (fun TT HH tt kk => XS.bipush HH hx rfl (hb hby at_63) kk) ?_
    refine k_pure (g' := (mkF m 67 #[.val (.int x), .val (.int y), .val (.int (e1 y)), .val (.int (e2 y)), .val (.int (lh y)), .val (.int (28 : Int32)), .unset, .unset, .unset, .unset, .unset] [])) (fun TT HH tt kk => XS.istore HH hx rfl (hb hby at_65) rfl (l' := #[.val (.int x), .val (.int y), .val (.int (e1 y)), .val (.int (e2 y)), .val (.int (lh y)), .val (.int (28 : Int32)), .unset, .unset, .unset, .unset, .unset]) rfl kk) ?_
    refine k_pure (g' := (mkF m 87 #[.val (.int x), .val (.int y), .val (.int (e1 y)), .val (.int (e2 y)), .val (.int (lh y)), .val (.int (28 : Int32)), .unset, .unset, .unset, .unset, .unset] [])) (fun TT HH tt kk => XS.goto HH hx rfl (pc0 := 67) (pc' := 87) rfl (hb hby at_67) (by decide) (by decide) kk) ?_
    exact J87 _ (by unfold lp; rw [if_pos c_36])
  · refine k_pure (g' := (mkF m 70 #[.val (.int x), .val (.int y), .val (.int (e1 y)), .val (.int (e2 y)), .val (.int (lh y)), .val (.int (lh y)), .unset, .unset, .unset, .unset, .unset] [])) (fun TT HH tt kk => XS.icmpYes HH hx rfl (pc0 := 60) (pc' := 70) rfl (hb hby at_60) rfl (feq c_36).2 (by decide) (by decide) kk) ?_
    refine k_pure (g' := (mkF m 72 #[.val (.int x), .val (.int y), .val (.int (e1 y)), .val (.int (e2 y)), .val (.int (lh y)), .val (.int (lh y)), .unset, .unset, .unset, .unset, .unset] [(.int (lh y))])) (fun TT HH tt kk => XS.iload HH hx rfl (hb hby at_70) rfl kk) ?_
    refine k_pure (g' := (mkF m 74 #[.val (.int x), .val (.int y), .val (.int (e1 y)), .val (.int (e2 y)), .val (.int (lh y)), .val (.int (lh y)), .unset, .unset, .unset, .unset, .unset] [(.int (28 : Int32)), (.int (lh y))])) (fun TT HH tt kk => XS.bipush HH hx rfl (hb hby at_72) kk) ?_
    by_cases c_37 : (lh y) = (28 : Int32)
    · refine k_pure (g' := (mkF m 77 #[.val (.int x), .val (.int y), .val (.int (e1 y)), .val (.int (e2 y)), .val (.int (lh y)), .val (.int (lh y)), .unset, .unset, .unset, .unset, .unset] [])) (fun TT HH tt kk => XS.icmpNo HH hx rfl (hb hby at_74) rfl (teq c_37).2 kk) ?_
      refine k_pure (g' := (mkF m 78 #[.val (.int x), .val (.int y), .val (.int (e1 y)), .val (.int (e2 y)), .val (.int (lh y)), .val (.int (lh y)), .unset, .unset, .unset, .unset, .unset] [(.int (e1 y))])) (fun TT HH tt kk => XS.iloadN HH hx rfl (hb hby at_77) rfl kk) ?_
      refine k_pure (g' := (mkF m 80 #[.val (.int x), .val (.int y), .val (.int (e1 y)), .val (.int (e2 y)), .val (.int (lh y)), .val (.int (lh y)), .unset, .unset, .unset, .unset, .unset] [(.int (10 : Int32)), (.int (e1 y))])) (fun TT HH tt kk => XS.bipush HH hx rfl (hb hby at_78) kk) ?_
      by_cases c_38 : (10 : Int32) < (e1 y)
      · refine k_pure (g' := (mkF m 83 #[.val (.int x), .val (.int y), .val (.int (e1 y)), .val (.int (e2 y)), .val (.int (lh y)), .val (.int (lh y)), .unset, .unset, .unset, .unset, .unset] [])) (fun TT HH tt kk => XS.icmpNo HH hx rfl (hb hby at_80) rfl (tlt c_38).2.2.2 kk) ?_
        refine k_pure (g' := (mkF m 85 #[.val (.int x), .val (.int y), .val (.int (e1 y)), .val (.int (e2 y)), .val (.int (lh y)), .val (.int (lh y)), .unset, .unset, .unset, .unset, .unset] [(.int (27 : Int32))])) (fun TT HH tt kk => XS.bipush HH hx rfl (hb hby at_83) kk) ?_
        refine k_pure (g' := (mkF m 87 #[.val (.int x), .val (.int y), .val (.int (e1 y)), .val (.int (e2 y)), .val (.int (lh y)), .val (.int (27 : Int32)), .unset, .unset, .unset, .unset, .unset] [])) (fun TT HH tt kk => XS.istore HH hx rfl (hb hby at_85) rfl (l' := #[.val (.int x), .val (.int y), .val (.int (e1 y)), .val (.int (e2 y)), .val (.int (lh y)), .val (.int (27 : Int32)), .unset, .unset, .unset, .unset, .unset]) rfl kk) ?_
        exact J87 _ (by unfold lp; rw [if_neg c_36]; rw [if_pos c_37]; rw [if_pos c_38])
      · refine k_pure (g' := (mkF m 87 #[.val (.int x), .val (.int y), .val (.int (e1 y)), .val (.int (e2 y)), .val (.int (lh y)), .val (.int (lh y)), .unset, .unset, .unset, .unset, .unset] [])) (fun TT HH tt kk => XS.icmpYes HH hx rfl (pc0 := 80) (pc' := 87) rfl (hb hby at_80) rfl (flt c_38).2.2.2 (by decide) (by decide) kk) ?_
        exact J87 _ (by unfold lp; rw [if_neg c_36]; rw [if_pos c_37]; rw [if_neg c_38])
    · refine k_pure (g' := (mkF m 87 #[.val (.int x), .val (.int y), .val (.int (e1 y)), .val (.int (e2 y)), .val (.int (lh y)), .val (.int (lh y)), .unset, .unset, .unset, .unset, .unset] [])) (fun TT HH tt kk => XS.icmpYes HH hx rfl (pc0 := 74) (pc' := 87) rfl (hb hby at_74) rfl (feq c_37).2 (by decide) (by decide) kk) ?_
      exact J87 _ (by unfold lp; rw [if_neg c_36]; rw [if_neg c_37])
set_option maxRecDepth 65536 in
set_option maxHeartbeats 40000000 in
theorem comes_1 {Post : Tables → Env → Array Value → State → Outcome → State → Prop} (hpost : ∀ tb e args s v u, (limb_1_1.after args s (.returned v) u = true ∧ limb_1_2.after args s (.returned v) u = true ∧ True) → FramedW s (.returned v) u (Jvm.fieldLocs frame_1_writes args s ++ Jvm.arrayLocs frame_1_arrays args s ++ Jvm.staticLocs frame_1_statics s) 16 1152 → Post tb e args s (.returned v) u) :
    ArmFor flags0 classFile x code maxLocals ret World_1 tables_1 room_1 Calls_1 rest_1 Pre_1 Post := by
  intro l hfl _ _ p e ha hc hk s m args below hf hA hF happ hP
  obtain ⟨hcalls, hrest, hpre⟩ := hP
  obtain ⟨-, -, -, hnamed, -, -, -, hat⟩ := (Spec.applies_iff hf).mp happ
  obtain ⟨hg, hn⟩ := and_e (Cond.before_iff.mp (show (Jvm.Cond.and given_1 narrow_1).before args s = true from hpre))
  obtain ⟨q0, r0⟩ := and_e hg
  obtain ⟨w0, rfl⟩ : ∃ w0 : Value, args = #[w0] := by
    have hs : args.size = 1 := by simpa [Cond.value, given_1] using q0
    obtain ⟨L⟩ := args
    match L, hs with
    | [w0], _ => exact ⟨w0, rfl⟩
  have hw := fun d (hd : d ∈ tables_1) => atoms_spec (ws := Jvm.Cond.code x code maxLocals ret :: tables_1) hat d (List.mem_cons_of_mem _ hd)
  obtain ⟨hsets, hown0⟩ := atoms_of _ (rest_1_c_eq ▸ (show rest_1_c.before _ s = true from hrest))
  obtain ⟨i0, e0⟩ := is_v r0
  obtain rfl : w0 = (.int i0) := Option.some.inj e0
  have hE : EW s #[(.int i0)] EL1 := EW.nil
  obtain ⟨gM, eM, xM⟩ := exa_start (hsets _ (List.mem_of_getElem? (i := 2) rfl))
  have sM := Sta.start eM (Or.inl (hsets _ (List.mem_of_getElem? (i := 1) rfl)))
  have oM := fld_start eM (ev_int (hsets _ (List.mem_of_getElem? (i := 4) rfl)))
  obtain ⟨gY, eY, xY⟩ := exa_start (hsets _ (List.mem_of_getElem? (i := 11) rfl))
  have sY := Sta.start eY (Or.inl (hsets _ (List.mem_of_getElem? (i := 6) rfl)))
  obtain ⟨rY, uY, yY⟩ := exa_start (hsets _ (List.mem_of_getElem? (i := 27) rfl))
  have fY := fld_start eY uY
  have iY := fld_start uY (ev_long (hsets _ (List.mem_of_getElem? (i := 28) rfl)))
  have aY := fld_start uY (ev_long (hsets _ (List.mem_of_getElem? (i := 31) rfl)))
  obtain ⟨gD, eD, xD⟩ := exa_start (hsets _ (List.mem_of_getElem? (i := 39) rfl))
  have sD := Sta.start eD (Or.inl (hsets _ (List.mem_of_getElem? (i := 34) rfl)))
  obtain ⟨rD, uD, yD⟩ := exa_start (hsets _ (List.mem_of_getElem? (i := 55) rfl))
  have fD := fld_start eD uD
  have iD := fld_start uD (ev_long (hsets _ (List.mem_of_getElem? (i := 56) rfl)))
  have aD := fld_start uD (ev_long (hsets _ (List.mem_of_getElem? (i := 59) rfl)))
  have hY : More s gM gY rY gD rD := ⟨sM, xM, oM, sY, xY, fY, yY, iY, aY, sD, xD, fD, yD, iD, aD⟩
  have hX : Ctx s _ := ⟨hw, hE⟩
  obtain ⟨n, o, h1, h2, h3, v, L, bk', rfl, ⟨⟨rfl, -⟩, N, -⟩, hq⟩ := rm_law l s _ gM gY rY gD rD hX hY s.heap.size s.heap (Old.start s) i0  tables_1 p e ha hc hk s m _ below hf ((Spec.applies_iff_loose hf).mp happ).1 ⟨rfl, State.Warmed39.refl s, rfl, (fun _ hp => nomatch hp), (fun _ ⟨_, hp, _⟩ => nomatch hp)⟩ trivial
  refine ⟨n, _, h1, h2, h3, hpost _ _ _ _ _ _ ⟨Cond.after_iff.mpr rfl, Cond.after_iff.mpr (eq_i res_at (Term.int_eval (1)) rfl), trivial⟩ ⟨hq.1, hq.2.1, hq.2.2.1, (hq.2.2.2.sift fun y hy => Or.inr (N y hy)).mono (by decide) (by decide)⟩⟩
theorem main_1_1 : Claimed_1_1 := comes_1 fun _ _ _ _ _ _ h hF => ⟨h.1, hF⟩
theorem main_1_2 : Claimed_1_2 := comes_1 fun _ _ _ _ _ _ h hF => ⟨h.2.1, hF⟩
end Jvm.Pilot.@@N@@
namespace Jvm.Pilot.@@N@@
open Jvm Jvm.ClassFile Sem Op Lib Jvm.Free Jvm.Stand Jvm.Pilot.@@N@@.Jvm.D
/-! MADE BY PROGRAM (witnessworld.py) out of the Statement's table words and the real class files: 29 classes; the members and pool entries that the words name. The judged class is class 1, her method 1. -/
namespace start1
open Jvm.ClassFile
def u (s : String) : CpInfo := .utf8 (stringToUtf16 s)
/-- a pool by its gaps: so many unusable entries, then the entry; so many at the end -/
def gap : Nat → List CpInfo → List CpInfo
  | 0, r => r
  | n + 1, r => .unusable :: gap n r
def poolList (es : List (Nat × CpInfo)) (last : Nat) : List CpInfo := es.foldr (fun e r => gap e.1 (e.2 :: r)) (gap last [])
def pool (es : List (Nat × CpInfo)) (last : Nat) : Array CpInfo := ⟨poolList es last⟩
def fileOf (pool : Array CpInfo) (this : Nat) (attrs : Array Attribute := #[]) (ms : Array MethodInfo := #[]) (fl : Nat := 33) (sup : Nat := 0) (ifs : Array Nat := #[]) (fds : Array FieldInfo := #[]) : ClassFile where
  minorVersion := 0
  majorVersion := 65
  constantPool := pool
  accessFlags := fl
  thisClass := this
  superClass := sup
  interfaces := ifs
  fields := fds
  methods := ms
  attributes := attrs
def plain (name : String) (sup : Option ClassId) : Class where
  name := name
  kind := .ordinary
  loader := none
  accessFlags := 33
  super := sup
  interfaces := #[]
  cf := none
  fields := #[]
  methods := #[]
  instanceTypes := #[]
  staticTypes := #[]
  resolved := #[]
  callSites := []
  init := .initialized
  statics := none
  mirror := none

def pool0 : Array CpInfo := pool [(5, u "<init>"), (0, u "()V"), (1, .class_ 10), (1, u "java/lang/Object")] 113

def k0c0 : Code := { maxStack := 0, maxLocals := 1, code := object_method_1_code, exceptionTable := #[], attributes := #[] }
def k0m0 : Method := { name := "<init>", desc := "()V", sig := { parameters := [], returnType := none }, accessFlags := 1, code := some k0c0 }
/-- java/lang/Object -/
def k0 : Class := { plain "java/lang/Object" none with
  accessFlags := 33
  interfaces := #[]
  cf := some (fileOf pool0 8 #[] #[{ accessFlags := 1, nameIndex := 5, descriptorIndex := 6, attributes := #[] }] 33 0 #[] #[])
  fields := #[]
  methods := #[k0m0]
  instanceTypes := #[]
  staticTypes := #[]
  resolved := Array.replicate 124 none
  statics := none }

def pool1 : Array CpInfo := pool [(2, .class_ 4), (1, u "java/lang/Object"), (0, u "<init>"), (0, u "()V"), (0, .integer 2147483647), (0, .methodref 9 10), (0, .class_ 11), (0, .nameAndType 12 13), (0, u "com/example/ratable/ratable/HolidayCalendar"), (0, u "easterSunday"), (0, u "(I)Ljava/time/LocalDate;"), (0, .methodref 15 16), (0, .class_ 17), (0, .nameAndType 18 19), (0, u "java/time/LocalDate"), (0, u "getYear"), (0, u "()I"), (0, .methodref 15 21), (0, .nameAndType 22 19), (0, u "getMonthValue"), (0, .methodref 15 24), (0, .nameAndType 25 19), (0, u "getDayOfMonth"), (0, .class_ 27), (0, u "com/example/ratable/ratable/HolidayCalendarEasterSundayPinLaw"), (2, u "law"), (0, u "(I)Z")] 3

def k1m0 : Method := { name := "<init>", desc := "()V", sig := { parameters := [], returnType := none }, accessFlags := 1, code := none }
def k1c1 : Code := { maxStack := 3, maxLocals := 11, code := code, exceptionTable := #[], attributes := #[] }
def k1m1 : Method := { name := "law", desc := "(I)Z", sig := { parameters := [.int], returnType := some .boolean }, accessFlags := 9, code := some k1c1 }
/-- com/example/ratable/ratable/HolidayCalendarEasterSundayPinLaw -/
def k1 : Class := { plain "com/example/ratable/ratable/HolidayCalendarEasterSundayPinLaw" (some 0) with
  accessFlags := 49
  interfaces := #[]
  cf := some (fileOf pool1 26 #[] #[{ accessFlags := 1, nameIndex := 5, descriptorIndex := 6, attributes := #[] }, { accessFlags := 9, nameIndex := 30, descriptorIndex := 31, attributes := #[] }] 49 2 #[] #[])
  fields := #[]
  methods := #[k1m0, k1m1]
  instanceTypes := #[]
  staticTypes := #[]
  resolved := Array.replicate 35 none
  statics := none }

def pool2 : Array CpInfo := pool [(1, .class_ 2), (0, u "java/lang/constant/Constable"), (0, .class_ 4), (0, u "java/lang/Object")] 6

/-- java/lang/constant/Constable -/
def k2 : Class := { plain "java/lang/constant/Constable" (some 0) with
  accessFlags := 1537
  interfaces := #[]
  cf := some (fileOf pool2 1 #[] #[] 1537 3 #[] #[])
  fields := #[]
  methods := #[]
  instanceTypes := #[]
  staticTypes := #[]
  resolved := Array.replicate 11 none
  statics := none }

def pool3 : Array CpInfo := pool [(1, .class_ 2), (0, u "java/lang/Comparable"), (0, .class_ 4), (0, u "java/lang/Object")] 7

/-- java/lang/Comparable -/
def k3 : Class := { plain "java/lang/Comparable" (some 0) with
  accessFlags := 1537
  interfaces := #[]
  cf := some (fileOf pool3 1 #[] #[] 1537 3 #[] #[])
  fields := #[]
  methods := #[]
  instanceTypes := #[]
  staticTypes := #[]
  resolved := Array.replicate 12 none
  statics := none }

def pool4 : Array CpInfo := pool [(1, .class_ 2), (0, u "java/io/Serializable"), (0, .class_ 4), (0, u "java/lang/Object")] 2

/-- java/io/Serializable -/
def k4 : Class := { plain "java/io/Serializable" (some 0) with
  accessFlags := 1537
  interfaces := #[]
  cf := some (fileOf pool4 1 #[] #[] 1537 3 #[] #[])
  fields := #[]
  methods := #[]
  instanceTypes := #[]
  staticTypes := #[]
  resolved := Array.replicate 7 none
  statics := none }

def pool5 : Array CpInfo := pool [(2, .class_ 4), (1, u "java/lang/Enum"), (0, u "name"), (0, u "Ljava/lang/String;"), (0, .fieldref 2 8), (0, .nameAndType 9 10), (0, u "ordinal"), (0, u "I"), (1, .class_ 14), (1, u "java/lang/Object"), (4, u "hash"), (86, .class_ 108), (1, u "java/lang/Enum$EnumDesc"), (2, .class_ 112), (0, u "java/lang/constant/Constable"), (0, .class_ 114), (0, u "java/lang/Comparable"), (0, .class_ 116), (0, u "java/io/Serializable"), (9, u "()I")] 77

def k5c0 : Code := { maxStack := 1, maxLocals := 1, code := jdk_37_method_2_code, exceptionTable := #[], attributes := #[] }
def k5m0 : Method := { name := "ordinal", desc := "()I", sig := { parameters := [], returnType := some .int }, accessFlags := 17, code := some k5c0 }
/-- java/lang/Enum -/
def k5 : Class := { plain "java/lang/Enum" (some 0) with
  accessFlags := 1057
  interfaces := #[2, 3, 4]
  cf := some (fileOf pool5 2 #[.nestMembers #[106]] #[{ accessFlags := 17, nameIndex := 9, descriptorIndex := 126, attributes := #[] }] 1057 12 #[111, 113, 115] #[{ accessFlags := 18, nameIndex := 5, descriptorIndex := 6, attributes := #[] }, { accessFlags := 18, nameIndex := 9, descriptorIndex := 10, attributes := #[] }, { accessFlags := 2, nameIndex := 19, descriptorIndex := 10, attributes := #[] }])
  fields := #[{ name := "name", type := (.object "java/lang/String"), accessFlags := 18, slot := 0, constantValue := 0 }, { name := "ordinal", type := .int, accessFlags := 18, slot := 1, constantValue := 0 }, { name := "hash", type := .int, accessFlags := 2, slot := 2, constantValue := 0 }]
  methods := #[k5m0]
  instanceTypes := #[(.object "java/lang/String"), .int, .int]
  staticTypes := #[]
  resolved := Array.replicate 204 none
  statics := none }

def pool6 : Array CpInfo := pool [(1, .class_ 2), (0, u "com/example/ratable/ratable/HolidayCalendar"), (2, u "US_FED"), (0, u "Lcom/example/ratable/ratable/HolidayCalendar;"), (2, u "GB_ENG"), (2, u "$VALUES"), (0, u "[Lcom/example/ratable/ratable/HolidayCalendar;"), (6, .class_ 22), (1, u "java/lang/Enum"), (8, u "label"), (0, u "Ljava/lang/String;"), (11, .class_ 46), (1, u "java/time/LocalDate"), (20, u "HOLIDAYS"), (0, u "Ljava/util/Map;"), (50, .methodref 44 120), (0, .nameAndType 121 122), (0, u "of"), (0, u "(ILjava/time/Month;I)Ljava/time/LocalDate;"), (14, .methodref 44 138), (0, .nameAndType 139 140), (0, u "plusDays"), (0, u "(J)Ljava/time/LocalDate;"), (6, .fieldref 148 149), (0, .class_ 150), (0, .nameAndType 151 152), (0, u "java/time/Month"), (0, u "MARCH"), (0, u "Ljava/time/Month;"), (0, .class_ 154), (0, u "com/example/ratable/ratable/HolidayCalendar$1"), (6, .class_ 162), (0, u "com/example/ratable/ratable/HolidayCalendar$2"), (15, u "GB_ENG_MOVED"), (5, u "GB_ENG_ADDED"), (0, u "Ljava/util/List;"), (4, u "FIRST_YEAR"), (0, u "I"), (2, u "LAST_YEAR"), (1, u "JUNETEENTH_FIRST_YEAR"), (24, u "easterSunday"), (0, u "(I)Ljava/time/LocalDate;")] 21

def k6c0 : Code := { maxStack := 3, maxLocals := 14, code := prog_13_method_15_code, exceptionTable := #[], attributes := #[] }
def k6m0 : Method := { name := "easterSunday", desc := "(I)Ljava/time/LocalDate;", sig := { parameters := [.int], returnType := some (.object "java/time/LocalDate") }, accessFlags := 8, code := some k6c0 }
/-- com/example/ratable/ratable/HolidayCalendar -/
def k6 : Class := { plain "com/example/ratable/ratable/HolidayCalendar" (some 5) with
  accessFlags := 17441
  interfaces := #[]
  cf := some (fileOf pool6 1 #[.nestMembers #[161, 153]] #[{ accessFlags := 8, nameIndex := 221, descriptorIndex := 222, attributes := #[] }] 17441 20 #[] #[{ accessFlags := 16409, nameIndex := 5, descriptorIndex := 6, attributes := #[] }, { accessFlags := 16409, nameIndex := 9, descriptorIndex := 6, attributes := #[] }, { accessFlags := 25, nameIndex := 190, descriptorIndex := 191, attributes := #[] }, { accessFlags := 25, nameIndex := 194, descriptorIndex := 191, attributes := #[] }, { accessFlags := 26, nameIndex := 196, descriptorIndex := 191, attributes := #[] }, { accessFlags := 26, nameIndex := 178, descriptorIndex := 68, attributes := #[] }, { accessFlags := 26, nameIndex := 184, descriptorIndex := 185, attributes := #[] }, { accessFlags := 26, nameIndex := 67, descriptorIndex := 68, attributes := #[] }, { accessFlags := 18, nameIndex := 31, descriptorIndex := 32, attributes := #[] }, { accessFlags := 4122, nameIndex := 12, descriptorIndex := 13, attributes := #[] }])
  fields := #[{ name := "US_FED", type := (.object "com/example/ratable/ratable/HolidayCalendar"), accessFlags := 16409, slot := 0, constantValue := 0 }, { name := "GB_ENG", type := (.object "com/example/ratable/ratable/HolidayCalendar"), accessFlags := 16409, slot := 1, constantValue := 0 }, { name := "FIRST_YEAR", type := .int, accessFlags := 25, slot := 2, constantValue := 0 }, { name := "LAST_YEAR", type := .int, accessFlags := 25, slot := 3, constantValue := 0 }, { name := "JUNETEENTH_FIRST_YEAR", type := .int, accessFlags := 26, slot := 4, constantValue := 0 }, { name := "GB_ENG_MOVED", type := (.object "java/util/Map"), accessFlags := 26, slot := 5, constantValue := 0 }, { name := "GB_ENG_ADDED", type := (.object "java/util/List"), accessFlags := 26, slot := 6, constantValue := 0 }, { name := "HOLIDAYS", type := (.object "java/util/Map"), accessFlags := 26, slot := 7, constantValue := 0 }, { name := "label", type := (.object "java/lang/String"), accessFlags := 18, slot := 3, constantValue := 0 }, { name := "$VALUES", type := (.array (.object "com/example/ratable/ratable/HolidayCalendar")), accessFlags := 4122, slot := 8, constantValue := 0 }]
  methods := #[k6m0]
  instanceTypes := #[(.object "java/lang/String"), .int, .int, (.object "java/lang/String")]
  staticTypes := #[(.object "com/example/ratable/ratable/HolidayCalendar"), (.object "com/example/ratable/ratable/HolidayCalendar"), .int, .int, .int, (.object "java/util/Map"), (.object "java/util/List"), (.object "java/util/Map"), (.array (.object "com/example/ratable/ratable/HolidayCalendar"))]
  resolved := Array.replicate 244 none
  statics := none }

def pool7 : Array CpInfo := pool [(4, .class_ 6), (1, u "java/time/temporal/TemporalAccessor"), (95, .class_ 103), (0, u "java/lang/Object")] 21

/-- java/time/temporal/TemporalAccessor -/
def k7 : Class := { plain "java/time/temporal/TemporalAccessor" (some 0) with
  accessFlags := 1537
  interfaces := #[]
  cf := some (fileOf pool7 4 #[] #[] 1537 102 #[] #[])
  fields := #[]
  methods := #[]
  instanceTypes := #[]
  staticTypes := #[]
  resolved := Array.replicate 125 none
  statics := none }

def pool8 : Array CpInfo := pool [(1, .class_ 2), (0, u "java/time/temporal/TemporalAdjuster"), (0, .class_ 4), (0, u "java/lang/Object")] 6

/-- java/time/temporal/TemporalAdjuster -/
def k8 : Class := { plain "java/time/temporal/TemporalAdjuster" (some 0) with
  accessFlags := 1537
  interfaces := #[]
  cf := some (fileOf pool8 1 #[] #[] 1537 3 #[] #[])
  fields := #[]
  methods := #[]
  instanceTypes := #[]
  staticTypes := #[]
  resolved := Array.replicate 11 none
  statics := none }

def pool9 : Array CpInfo := pool [(1, .class_ 2), (0, u "java/time/Month"), (2, u "JANUARY"), (0, u "Ljava/time/Month;"), (2, u "FEBRUARY"), (2, u "MARCH"), (2, u "APRIL"), (2, u "MAY"), (2, u "JUNE"), (2, u "JULY"), (2, u "AUGUST"), (2, u "SEPTEMBER"), (2, u "OCTOBER"), (2, u "NOVEMBER"), (2, u "DECEMBER"), (2, u "$VALUES"), (0, u "[Ljava/time/Month;"), (6, .class_ 52), (1, u "java/lang/Enum"), (31, u "ENUMS"), (28, .class_ 115), (1, u "java/time/temporal/TemporalAccessor"), (25, .methodref 1 142), (0, .nameAndType 143 144), (0, u "ordinal"), (0, u "()I"), (32, u "getValue"), (63, .class_ 242), (0, u "java/time/temporal/TemporalAdjuster")] 54

def k9c0 : Code := { maxStack := 2, maxLocals := 1, code := jdk_2329_method_6_code, exceptionTable := #[], attributes := #[] }
def k9m0 : Method := { name := "getValue", desc := "()I", sig := { parameters := [], returnType := some .int }, accessFlags := 1, code := some k9c0 }
/-- java/time/Month -/
def k9 : Class := { plain "java/time/Month" (some 5) with
  accessFlags := 16433
  interfaces := #[7, 8]
  cf := some (fileOf pool9 1 #[] #[{ accessFlags := 1, nameIndex := 177, descriptorIndex := 144, attributes := #[] }] 16433 50 #[113, 241] #[{ accessFlags := 16409, nameIndex := 5, descriptorIndex := 6, attributes := #[] }, { accessFlags := 16409, nameIndex := 9, descriptorIndex := 6, attributes := #[] }, { accessFlags := 16409, nameIndex := 12, descriptorIndex := 6, attributes := #[] }, { accessFlags := 16409, nameIndex := 15, descriptorIndex := 6, attributes := #[] }, { accessFlags := 16409, nameIndex := 18, descriptorIndex := 6, attributes := #[] }, { accessFlags := 16409, nameIndex := 21, descriptorIndex := 6, attributes := #[] }, { accessFlags := 16409, nameIndex := 24, descriptorIndex := 6, attributes := #[] }, { accessFlags := 16409, nameIndex := 27, descriptorIndex := 6, attributes := #[] }, { accessFlags := 16409, nameIndex := 30, descriptorIndex := 6, attributes := #[] }, { accessFlags := 16409, nameIndex := 33, descriptorIndex := 6, attributes := #[] }, { accessFlags := 16409, nameIndex := 36, descriptorIndex := 6, attributes := #[] }, { accessFlags := 16409, nameIndex := 39, descriptorIndex := 6, attributes := #[] }, { accessFlags := 26, nameIndex := 84, descriptorIndex := 43, attributes := #[] }, { accessFlags := 4122, nameIndex := 42, descriptorIndex := 43, attributes := #[] }])
  fields := #[{ name := "JANUARY", type := (.object "java/time/Month"), accessFlags := 16409, slot := 0, constantValue := 0 }, { name := "FEBRUARY", type := (.object "java/time/Month"), accessFlags := 16409, slot := 1, constantValue := 0 }, { name := "MARCH", type := (.object "java/time/Month"), accessFlags := 16409, slot := 2, constantValue := 0 }, { name := "APRIL", type := (.object "java/time/Month"), accessFlags := 16409, slot := 3, constantValue := 0 }, { name := "MAY", type := (.object "java/time/Month"), accessFlags := 16409, slot := 4, constantValue := 0 }, { name := "JUNE", type := (.object "java/time/Month"), accessFlags := 16409, slot := 5, constantValue := 0 }, { name := "JULY", type := (.object "java/time/Month"), accessFlags := 16409, slot := 6, constantValue := 0 }, { name := "AUGUST", type := (.object "java/time/Month"), accessFlags := 16409, slot := 7, constantValue := 0 }, { name := "SEPTEMBER", type := (.object "java/time/Month"), accessFlags := 16409, slot := 8, constantValue := 0 }, { name := "OCTOBER", type := (.object "java/time/Month"), accessFlags := 16409, slot := 9, constantValue := 0 }, { name := "NOVEMBER", type := (.object "java/time/Month"), accessFlags := 16409, slot := 10, constantValue := 0 }, { name := "DECEMBER", type := (.object "java/time/Month"), accessFlags := 16409, slot := 11, constantValue := 0 }, { name := "ENUMS", type := (.array (.object "java/time/Month")), accessFlags := 26, slot := 12, constantValue := 0 }, { name := "$VALUES", type := (.array (.object "java/time/Month")), accessFlags := 4122, slot := 13, constantValue := 0 }]
  methods := #[k9m0]
  instanceTypes := #[(.object "java/lang/String"), .int, .int]
  staticTypes := #[(.object "java/time/Month"), (.object "java/time/Month"), (.object "java/time/Month"), (.object "java/time/Month"), (.object "java/time/Month"), (.object "java/time/Month"), (.object "java/time/Month"), (.object "java/time/Month"), (.object "java/time/Month"), (.object "java/time/Month"), (.object "java/time/Month"), (.object "java/time/Month"), (.array (.object "java/time/Month")), (.array (.object "java/time/Month"))]
  resolved := Array.replicate 297 none
  statics := some 0 }

def pool10 : Array CpInfo := pool [(22, .class_ 24), (1, u "java/time/temporal/Temporal"), (2, .class_ 28), (0, u "java/lang/Object"), (0, .class_ 30), (0, u "java/time/temporal/TemporalAccessor")] 25

/-- java/time/temporal/Temporal -/
def k10 : Class := { plain "java/time/temporal/Temporal" (some 0) with
  accessFlags := 1537
  interfaces := #[7]
  cf := some (fileOf pool10 22 #[] #[] 1537 27 #[29] #[])
  fields := #[]
  methods := #[]
  instanceTypes := #[]
  staticTypes := #[]
  resolved := Array.replicate 56 none
  statics := none }

def pool11 : Array CpInfo := pool [(9, .class_ 10), (0, u "java/time/chrono/ChronoLocalDate"), (104, .class_ 117), (1, u "java/time/temporal/Temporal"), (134, .class_ 253), (0, u "java/lang/Object"), (23, .class_ 278), (0, u "java/time/temporal/TemporalAdjuster"), (0, .class_ 280), (0, u "java/lang/Comparable")] 86

/-- java/time/chrono/ChronoLocalDate -/
def k11 : Class := { plain "java/time/chrono/ChronoLocalDate" (some 0) with
  accessFlags := 1537
  interfaces := #[10, 8, 3]
  cf := some (fileOf pool11 9 #[] #[] 1537 252 #[115, 277, 279] #[])
  fields := #[]
  methods := #[]
  instanceTypes := #[]
  staticTypes := #[]
  resolved := Array.replicate 367 none
  statics := none }

def pool12 : Array CpInfo := pool [(1, .class_ 2), (0, u "java/time/LocalDate"), (18, .methodref 22 23), (0, .class_ 24), (0, .nameAndType 25 26), (0, u "java/util/Objects"), (0, u "requireNonNull"), (0, u "(Ljava/lang/Object;Ljava/lang/String;)Ljava/lang/Object;"), (12, .fieldref 40 41), (0, .class_ 42), (0, .nameAndType 43 44), (0, u "java/time/temporal/ChronoField"), (0, u "YEAR"), (0, u "Ljava/time/temporal/ChronoField;"), (0, .methodref 40 46), (0, .nameAndType 47 48), (0, u "checkValidValue"), (0, u "(J)J"), (0, .string 50), (0, u "month"), (0, .fieldref 40 52), (0, .nameAndType 53 44), (0, u "DAY_OF_MONTH"), (0, .methodref 55 56), (0, .class_ 57), (0, .nameAndType 58 59), (0, u "java/time/Month"), (0, u "getValue"), (0, u "()I"), (0, .methodref 1 61), (0, .nameAndType 62 63), (0, u "create"), (0, u "(III)Ljava/time/LocalDate;"), (21, .nameAndType 86 87), (0, u "<init>"), (0, u "()V"), (20, u "of"), (12, .methodref 1 122), (0, .nameAndType 86 123), (0, u "(III)V"), (36, u "(J)Ljava/time/LocalDate;"), (82, .methodref 244 85), (0, .class_ 245), (0, u "java/lang/Object"), (0, .fieldref 1 247), (0, .nameAndType 248 249), (0, u "year"), (0, u "I"), (0, .fieldref 1 251), (0, .nameAndType 50 252), (0, u "S"), (0, .fieldref 1 254), (0, .nameAndType 255 252), (0, u "day"), (1, .class_ 259), (1, u "java/time/chrono/ChronoLocalDate"), (10, .class_ 272), (1, u "java/time/LocalDate$1"), (5, .methodref 1 279), (0, .nameAndType 280 59), (0, u "lengthOfMonth"), (22, u "getYear"), (76, .class_ 382), (1, u "java/time/temporal/TemporalAdjuster"), (4, u "plusDays"), (95, .long 28), (1, .long 59), (50, u "getDayOfMonth"), (51, u "MAX"), (0, u "Ljava/time/LocalDate;"), (2, u "MIN"), (176, u "EPOCH"), (0, .class_ 771), (0, u "java/time/temporal/Temporal"), (0, .class_ 773), (0, u "java/io/Serializable"), (0, u "serialVersionUID"), (0, u "J"), (3, u "DAYS_PER_CYCLE"), (1, u "DAYS_0000_TO_1970"), (8, u "(ILjava/time/Month;I)Ljava/time/LocalDate;"), (33, u "getMonthValue")] 163

def k12c0 : Code := { maxStack := 3, maxLocals := 3, code := jdk_2323_method_4_code, exceptionTable := #[], attributes := #[] }
def k12m0 : Method := { name := "of", desc := "(ILjava/time/Month;I)Ljava/time/LocalDate;", sig := { parameters := [.int, (.object "java/time/Month"), .int], returnType := some (.object "java/time/LocalDate") }, accessFlags := 9, code := some k12c0 }
def k12c1 : Code := { maxStack := 5, maxLocals := 4, code := jdk_2323_method_12_code, exceptionTable := #[], attributes := #[] }
def k12m1 : Method := { name := "create", desc := "(III)Ljava/time/LocalDate;", sig := { parameters := [.int, .int, .int], returnType := some (.object "java/time/LocalDate") }, accessFlags := 10, code := some k12c1 }
def k12c2 : Code := { maxStack := 2, maxLocals := 4, code := jdk_2323_method_14_code, exceptionTable := #[], attributes := #[] }
def k12m2 : Method := { name := "<init>", desc := "(III)V", sig := { parameters := [.int, .int, .int], returnType := none }, accessFlags := 2, code := some k12c2 }
def k12c3 : Code := { maxStack := 1, maxLocals := 1, code := jdk_2323_method_24_code, exceptionTable := #[], attributes := #[] }
def k12m3 : Method := { name := "getYear", desc := "()I", sig := { parameters := [], returnType := some .int }, accessFlags := 1, code := some k12c3 }
def k12c4 : Code := { maxStack := 1, maxLocals := 1, code := jdk_2323_method_25_code, exceptionTable := #[], attributes := #[] }
def k12m4 : Method := { name := "getMonthValue", desc := "()I", sig := { parameters := [], returnType := some .int }, accessFlags := 1, code := some k12c4 }
def k12c5 : Code := { maxStack := 1, maxLocals := 1, code := jdk_2323_method_27_code, exceptionTable := #[], attributes := #[] }
def k12m5 : Method := { name := "getDayOfMonth", desc := "()I", sig := { parameters := [], returnType := some .int }, accessFlags := 1, code := some k12c5 }
def k12c6 : Code := { maxStack := 1, maxLocals := 1, code := jdk_2323_method_31_code, exceptionTable := #[], attributes := #[] }
def k12m6 : Method := { name := "lengthOfMonth", desc := "()I", sig := { parameters := [], returnType := some .int }, accessFlags := 1, code := some k12c6 }
def k12c7 : Code := { maxStack := 8, maxLocals := 7, code := jdk_2323_method_44_code, exceptionTable := #[], attributes := #[] }
def k12m7 : Method := { name := "plusDays", desc := "(J)Ljava/time/LocalDate;", sig := { parameters := [.long], returnType := some (.object "java/time/LocalDate") }, accessFlags := 1, code := some k12c7 }
/-- java/time/LocalDate -/
def k12 : Class := { plain "java/time/LocalDate" (some 0) with
  accessFlags := 49
  interfaces := #[10, 8, 11, 4]
  cf := some (fileOf pool12 1 #[.nestMembers #[270]] #[{ accessFlags := 9, nameIndex := 108, descriptorIndex := 790, attributes := #[] }, { accessFlags := 10, nameIndex := 62, descriptorIndex := 63, attributes := #[] }, { accessFlags := 2, nameIndex := 86, descriptorIndex := 123, attributes := #[] }, { accessFlags := 1, nameIndex := 303, descriptorIndex := 59, attributes := #[] }, { accessFlags := 1, nameIndex := 824, descriptorIndex := 59, attributes := #[] }, { accessFlags := 1, nameIndex := 536, descriptorIndex := 59, attributes := #[] }, { accessFlags := 1, nameIndex := 280, descriptorIndex := 59, attributes := #[] }, { accessFlags := 1, nameIndex := 387, descriptorIndex := 160, attributes := #[] }] 49 244 #[770, 380, 257, 772] #[{ accessFlags := 25, nameIndex := 592, descriptorIndex := 589, attributes := #[] }, { accessFlags := 25, nameIndex := 588, descriptorIndex := 589, attributes := #[] }, { accessFlags := 25, nameIndex := 769, descriptorIndex := 589, attributes := #[] }, { accessFlags := 26, nameIndex := 774, descriptorIndex := 775, attributes := #[] }, { accessFlags := 26, nameIndex := 779, descriptorIndex := 249, attributes := #[] }, { accessFlags := 24, nameIndex := 781, descriptorIndex := 775, attributes := #[] }, { accessFlags := 18, nameIndex := 248, descriptorIndex := 249, attributes := #[] }, { accessFlags := 18, nameIndex := 50, descriptorIndex := 252, attributes := #[] }, { accessFlags := 18, nameIndex := 255, descriptorIndex := 252, attributes := #[] }])
  fields := #[{ name := "MIN", type := (.object "java/time/LocalDate"), accessFlags := 25, slot := 0, constantValue := 0 }, { name := "MAX", type := (.object "java/time/LocalDate"), accessFlags := 25, slot := 1, constantValue := 0 }, { name := "EPOCH", type := (.object "java/time/LocalDate"), accessFlags := 25, slot := 2, constantValue := 0 }, { name := "serialVersionUID", type := .long, accessFlags := 26, slot := 3, constantValue := 0 }, { name := "DAYS_PER_CYCLE", type := .int, accessFlags := 26, slot := 4, constantValue := 0 }, { name := "DAYS_0000_TO_1970", type := .long, accessFlags := 24, slot := 5, constantValue := 0 }, { name := "year", type := .int, accessFlags := 18, slot := 0, constantValue := 0 }, { name := "month", type := .short, accessFlags := 18, slot := 1, constantValue := 0 }, { name := "day", type := .short, accessFlags := 18, slot := 2, constantValue := 0 }]
  methods := #[k12m0, k12m1, k12m2, k12m3, k12m4, k12m5, k12m6, k12m7]
  instanceTypes := #[.int, .short, .short]
  staticTypes := #[(.object "java/time/LocalDate"), (.object "java/time/LocalDate"), (.object "java/time/LocalDate"), .long, .int, .long]
  resolved := Array.replicate 988 none
  statics := none }

def pool13 : Array CpInfo := pool [(10, .class_ 12), (1, u "java/time/temporal/TemporalField"), (2, .class_ 16), (0, u "java/lang/Object")] 39

/-- java/time/temporal/TemporalField -/
def k13 : Class := { plain "java/time/temporal/TemporalField" (some 0) with
  accessFlags := 1537
  interfaces := #[]
  cf := some (fileOf pool13 10 #[] #[] 1537 15 #[] #[])
  fields := #[]
  methods := #[]
  instanceTypes := #[]
  staticTypes := #[]
  resolved := Array.replicate 56 none
  statics := none }

def pool14 : Array CpInfo := pool [(1, .class_ 2), (0, u "java/time/temporal/ChronoField"), (2, u "NANO_OF_SECOND"), (0, u "Ljava/time/temporal/ChronoField;"), (2, u "NANO_OF_DAY"), (2, u "MICRO_OF_SECOND"), (2, u "MICRO_OF_DAY"), (2, u "MILLI_OF_SECOND"), (2, u "MILLI_OF_DAY"), (2, u "SECOND_OF_MINUTE"), (2, u "SECOND_OF_DAY"), (2, u "MINUTE_OF_HOUR"), (2, u "MINUTE_OF_DAY"), (2, u "HOUR_OF_AMPM"), (2, u "CLOCK_HOUR_OF_AMPM"), (2, u "HOUR_OF_DAY"), (2, u "CLOCK_HOUR_OF_DAY"), (2, u "AMPM_OF_DAY"), (2, u "DAY_OF_WEEK"), (2, u "ALIGNED_DAY_OF_WEEK_IN_MONTH"), (2, u "ALIGNED_DAY_OF_WEEK_IN_YEAR"), (2, u "DAY_OF_MONTH"), (2, u "DAY_OF_YEAR"), (2, u "EPOCH_DAY"), (2, u "ALIGNED_WEEK_OF_MONTH"), (2, u "ALIGNED_WEEK_OF_YEAR"), (2, u "MONTH_OF_YEAR"), (2, u "PROLEPTIC_MONTH"), (2, u "YEAR_OF_ERA"), (2, u "YEAR"), (2, u "ERA"), (2, u "INSTANT_SECONDS"), (2, u "OFFSET_SECONDS"), (2, u "$VALUES"), (0, u "[Ljava/time/temporal/ChronoField;"), (6, .class_ 106), (1, u "java/lang/Enum"), (8, u "name"), (0, u "Ljava/lang/String;"), (2, u "baseUnit"), (0, u "Ljava/time/temporal/TemporalUnit;"), (2, u "rangeUnit"), (0, .fieldref 1 125), (0, .nameAndType 126 127), (0, u "range"), (0, u "Ljava/time/temporal/ValueRange;"), (2, u "displayNameKey"), (59, .methodref 1 191), (0, .nameAndType 126 192), (0, u "()Ljava/time/temporal/ValueRange;"), (0, .methodref 194 195), (0, .class_ 196), (0, .nameAndType 197 198), (0, u "java/time/temporal/ValueRange"), (0, u "checkValidValue"), (0, u "(JLjava/time/temporal/TemporalField;)J"), (256, .class_ 456), (0, u "java/time/temporal/TemporalField"), (27, u "(J)J")] 22

def k14c0 : Code := { maxStack := 1, maxLocals := 1, code := jdk_2395_method_8_code, exceptionTable := #[], attributes := #[] }
def k14m0 : Method := { name := "range", desc := "()Ljava/time/temporal/ValueRange;", sig := { parameters := [], returnType := some (.object "java/time/temporal/ValueRange") }, accessFlags := 1, code := some k14c0 }
def k14c1 : Code := { maxStack := 4, maxLocals := 3, code := jdk_2395_method_11_code, exceptionTable := #[], attributes := #[] }
def k14m1 : Method := { name := "checkValidValue", desc := "(J)J", sig := { parameters := [.long], returnType := some .long }, accessFlags := 1, code := some k14c1 }
/-- java/time/temporal/ChronoField -/
def k14 : Class := { plain "java/time/temporal/ChronoField" (some 5) with
  accessFlags := 16433
  interfaces := #[13]
  cf := some (fileOf pool14 1 #[] #[{ accessFlags := 1, nameIndex := 126, descriptorIndex := 192, attributes := #[] }, { accessFlags := 1, nameIndex := 197, descriptorIndex := 484, attributes := #[] }] 16433 104 #[455] #[{ accessFlags := 16409, nameIndex := 5, descriptorIndex := 6, attributes := #[] }, { accessFlags := 16409, nameIndex := 9, descriptorIndex := 6, attributes := #[] }, { accessFlags := 16409, nameIndex := 12, descriptorIndex := 6, attributes := #[] }, { accessFlags := 16409, nameIndex := 15, descriptorIndex := 6, attributes := #[] }, { accessFlags := 16409, nameIndex := 18, descriptorIndex := 6, attributes := #[] }, { accessFlags := 16409, nameIndex := 21, descriptorIndex := 6, attributes := #[] }, { accessFlags := 16409, nameIndex := 24, descriptorIndex := 6, attributes := #[] }, { accessFlags := 16409, nameIndex := 27, descriptorIndex := 6, attributes := #[] }, { accessFlags := 16409, nameIndex := 30, descriptorIndex := 6, attributes := #[] }, { accessFlags := 16409, nameIndex := 33, descriptorIndex := 6, attributes := #[] }, { accessFlags := 16409, nameIndex := 36, descriptorIndex := 6, attributes := #[] }, { accessFlags := 16409, nameIndex := 39, descriptorIndex := 6, attributes := #[] }, { accessFlags := 16409, nameIndex := 42, descriptorIndex := 6, attributes := #[] }, { accessFlags := 16409, nameIndex := 45, descriptorIndex := 6, attributes := #[] }, { accessFlags := 16409, nameIndex := 48, descriptorIndex := 6, attributes := #[] }, { accessFlags := 16409, nameIndex := 51, descriptorIndex := 6, attributes := #[] }, { accessFlags := 16409, nameIndex := 54, descriptorIndex := 6, attributes := #[] }, { accessFlags := 16409, nameIndex := 57, descriptorIndex := 6, attributes := #[] }, { accessFlags := 16409, nameIndex := 60, descriptorIndex := 6, attributes := #[] }, { accessFlags := 16409, nameIndex := 63, descriptorIndex := 6, attributes := #[] }, { accessFlags := 16409, nameIndex := 66, descriptorIndex := 6, attributes := #[] }, { accessFlags := 16409, nameIndex := 69, descriptorIndex := 6, attributes := #[] }, { accessFlags := 16409, nameIndex := 72, descriptorIndex := 6, attributes := #[] }, { accessFlags := 16409, nameIndex := 75, descriptorIndex := 6, attributes := #[] }, { accessFlags := 16409, nameIndex := 78, descriptorIndex := 6, attributes := #[] }, { accessFlags := 16409, nameIndex := 81, descriptorIndex := 6, attributes := #[] }, { accessFlags := 16409, nameIndex := 84, descriptorIndex := 6, attributes := #[] }, { accessFlags := 16409, nameIndex := 87, descriptorIndex := 6, attributes := #[] }, { accessFlags := 16409, nameIndex := 90, descriptorIndex := 6, attributes := #[] }, { accessFlags := 16409, nameIndex := 93, descriptorIndex := 6, attributes := #[] }, { accessFlags := 18, nameIndex := 115, descriptorIndex := 116, attributes := #[] }, { accessFlags := 18, nameIndex := 119, descriptorIndex := 120, attributes := #[] }, { accessFlags := 18, nameIndex := 123, descriptorIndex := 120, attributes := #[] }, { accessFlags := 18, nameIndex := 126, descriptorIndex := 127, attributes := #[] }, { accessFlags := 18, nameIndex := 130, descriptorIndex := 116, attributes := #[] }, { accessFlags := 4122, nameIndex := 96, descriptorIndex := 97, attributes := #[] }])
  fields := #[{ name := "NANO_OF_SECOND", type := (.object "java/time/temporal/ChronoField"), accessFlags := 16409, slot := 0, constantValue := 0 }, { name := "NANO_OF_DAY", type := (.object "java/time/temporal/ChronoField"), accessFlags := 16409, slot := 1, constantValue := 0 }, { name := "MICRO_OF_SECOND", type := (.object "java/time/temporal/ChronoField"), accessFlags := 16409, slot := 2, constantValue := 0 }, { name := "MICRO_OF_DAY", type := (.object "java/time/temporal/ChronoField"), accessFlags := 16409, slot := 3, constantValue := 0 }, { name := "MILLI_OF_SECOND", type := (.object "java/time/temporal/ChronoField"), accessFlags := 16409, slot := 4, constantValue := 0 }, { name := "MILLI_OF_DAY", type := (.object "java/time/temporal/ChronoField"), accessFlags := 16409, slot := 5, constantValue := 0 }, { name := "SECOND_OF_MINUTE", type := (.object "java/time/temporal/ChronoField"), accessFlags := 16409, slot := 6, constantValue := 0 }, { name := "SECOND_OF_DAY", type := (.object "java/time/temporal/ChronoField"), accessFlags := 16409, slot := 7, constantValue := 0 }, { name := "MINUTE_OF_HOUR", type := (.object "java/time/temporal/ChronoField"), accessFlags := 16409, slot := 8, constantValue := 0 }, { name := "MINUTE_OF_DAY", type := (.object "java/time/temporal/ChronoField"), accessFlags := 16409, slot := 9, constantValue := 0 }, { name := "HOUR_OF_AMPM", type := (.object "java/time/temporal/ChronoField"), accessFlags := 16409, slot := 10, constantValue := 0 }, { name := "CLOCK_HOUR_OF_AMPM", type := (.object "java/time/temporal/ChronoField"), accessFlags := 16409, slot := 11, constantValue := 0 }, { name := "HOUR_OF_DAY", type := (.object "java/time/temporal/ChronoField"), accessFlags := 16409, slot := 12, constantValue := 0 }, { name := "CLOCK_HOUR_OF_DAY", type := (.object "java/time/temporal/ChronoField"), accessFlags := 16409, slot := 13, constantValue := 0 }, { name := "AMPM_OF_DAY", type := (.object "java/time/temporal/ChronoField"), accessFlags := 16409, slot := 14, constantValue := 0 }, { name := "DAY_OF_WEEK", type := (.object "java/time/temporal/ChronoField"), accessFlags := 16409, slot := 15, constantValue := 0 }, { name := "ALIGNED_DAY_OF_WEEK_IN_MONTH", type := (.object "java/time/temporal/ChronoField"), accessFlags := 16409, slot := 16, constantValue := 0 }, { name := "ALIGNED_DAY_OF_WEEK_IN_YEAR", type := (.object "java/time/temporal/ChronoField"), accessFlags := 16409, slot := 17, constantValue := 0 }, { name := "DAY_OF_MONTH", type := (.object "java/time/temporal/ChronoField"), accessFlags := 16409, slot := 18, constantValue := 0 }, { name := "DAY_OF_YEAR", type := (.object "java/time/temporal/ChronoField"), accessFlags := 16409, slot := 19, constantValue := 0 }, { name := "EPOCH_DAY", type := (.object "java/time/temporal/ChronoField"), accessFlags := 16409, slot := 20, constantValue := 0 }, { name := "ALIGNED_WEEK_OF_MONTH", type := (.object "java/time/temporal/ChronoField"), accessFlags := 16409, slot := 21, constantValue := 0 }, { name := "ALIGNED_WEEK_OF_YEAR", type := (.object "java/time/temporal/ChronoField"), accessFlags := 16409, slot := 22, constantValue := 0 }, { name := "MONTH_OF_YEAR", type := (.object "java/time/temporal/ChronoField"), accessFlags := 16409, slot := 23, constantValue := 0 }, { name := "PROLEPTIC_MONTH", type := (.object "java/time/temporal/ChronoField"), accessFlags := 16409, slot := 24, constantValue := 0 }, { name := "YEAR_OF_ERA", type := (.object "java/time/temporal/ChronoField"), accessFlags := 16409, slot := 25, constantValue := 0 }, { name := "YEAR", type := (.object "java/time/temporal/ChronoField"), accessFlags := 16409, slot := 26, constantValue := 0 }, { name := "ERA", type := (.object "java/time/temporal/ChronoField"), accessFlags := 16409, slot := 27, constantValue := 0 }, { name := "INSTANT_SECONDS", type := (.object "java/time/temporal/ChronoField"), accessFlags := 16409, slot := 28, constantValue := 0 }, { name := "OFFSET_SECONDS", type := (.object "java/time/temporal/ChronoField"), accessFlags := 16409, slot := 29, constantValue := 0 }, { name := "name", type := (.object "java/lang/String"), accessFlags := 18, slot := 3, constantValue := 0 }, { name := "baseUnit", type := (.object "java/time/temporal/TemporalUnit"), accessFlags := 18, slot := 4, constantValue := 0 }, { name := "rangeUnit", type := (.object "java/time/temporal/TemporalUnit"), accessFlags := 18, slot := 5, constantValue := 0 }, { name := "range", type := (.object "java/time/temporal/ValueRange"), accessFlags := 18, slot := 6, constantValue := 0 }, { name := "displayNameKey", type := (.object "java/lang/String"), accessFlags := 18, slot := 7, constantValue := 0 }, { name := "$VALUES", type := (.array (.object "java/time/temporal/ChronoField")), accessFlags := 4122, slot := 30, constantValue := 0 }]
  methods := #[k14m0, k14m1]
  instanceTypes := #[(.object "java/lang/String"), .int, .int, (.object "java/lang/String"), (.object "java/time/temporal/TemporalUnit"), (.object "java/time/temporal/TemporalUnit"), (.object "java/time/temporal/ValueRange"), (.object "java/lang/String")]
  staticTypes := #[(.object "java/time/temporal/ChronoField"), (.object "java/time/temporal/ChronoField"), (.object "java/time/temporal/ChronoField"), (.object "java/time/temporal/ChronoField"), (.object "java/time/temporal/ChronoField"), (.object "java/time/temporal/ChronoField"), (.object "java/time/temporal/ChronoField"), (.object "java/time/temporal/ChronoField"), (.object "java/time/temporal/ChronoField"), (.object "java/time/temporal/ChronoField"), (.object "java/time/temporal/ChronoField"), (.object "java/time/temporal/ChronoField"), (.object "java/time/temporal/ChronoField"), (.object "java/time/temporal/ChronoField"), (.object "java/time/temporal/ChronoField"), (.object "java/time/temporal/ChronoField"), (.object "java/time/temporal/ChronoField"), (.object "java/time/temporal/ChronoField"), (.object "java/time/temporal/ChronoField"), (.object "java/time/temporal/ChronoField"), (.object "java/time/temporal/ChronoField"), (.object "java/time/temporal/ChronoField"), (.object "java/time/temporal/ChronoField"), (.object "java/time/temporal/ChronoField"), (.object "java/time/temporal/ChronoField"), (.object "java/time/temporal/ChronoField"), (.object "java/time/temporal/ChronoField"), (.object "java/time/temporal/ChronoField"), (.object "java/time/temporal/ChronoField"), (.object "java/time/temporal/ChronoField"), (.array (.object "java/time/temporal/ChronoField"))]
  resolved := Array.replicate 507 none
  statics := some 1 }

def pool15 : Array CpInfo := pool [(9, .class_ 10), (0, u "java/time/temporal/ValueRange"), (18, .class_ 31), (1, u "java/lang/Object"), (1, .fieldref 9 34), (0, .nameAndType 35 36), (0, u "minSmallest"), (0, u "J"), (2, u "minLargest"), (2, u "maxSmallest"), (0, .fieldref 9 44), (0, .nameAndType 45 36), (0, u "maxLargest"), (0, .methodref 9 47), (0, .nameAndType 48 49), (0, u "getMinimum"), (0, u "()J"), (4, .methodref 9 55), (0, .nameAndType 56 49), (0, u "getMaximum"), (6, .methodref 9 64), (0, .nameAndType 65 66), (0, u "isValidValue"), (0, u "(J)Z"), (54, .class_ 122), (0, u "java/io/Serializable"), (0, u "serialVersionUID"), (17, u "checkValidValue"), (0, u "(JLjava/time/temporal/TemporalField;)J")] 24

def k15c0 : Code := { maxStack := 2, maxLocals := 1, code := jdk_2423_method_6_code, exceptionTable := #[], attributes := #[] }
def k15m0 : Method := { name := "getMinimum", desc := "()J", sig := { parameters := [], returnType := some .long }, accessFlags := 1, code := some k15c0 }
def k15c1 : Code := { maxStack := 2, maxLocals := 1, code := jdk_2423_method_9_code, exceptionTable := #[], attributes := #[] }
def k15m1 : Method := { name := "getMaximum", desc := "()J", sig := { parameters := [], returnType := some .long }, accessFlags := 1, code := some k15c1 }
def k15c2 : Code := { maxStack := 4, maxLocals := 3, code := jdk_2423_method_11_code, exceptionTable := #[], attributes := #[] }
def k15m2 : Method := { name := "isValidValue", desc := "(J)Z", sig := { parameters := [.long], returnType := some .boolean }, accessFlags := 1, code := some k15c2 }
def k15c3 : Code := { maxStack := 6, maxLocals := 4, code := jdk_2423_method_13_code, exceptionTable := #[], attributes := #[] }
def k15m3 : Method := { name := "checkValidValue", desc := "(JLjava/time/temporal/TemporalField;)J", sig := { parameters := [.long, (.object "java/time/temporal/TemporalField")], returnType := some .long }, accessFlags := 1, code := some k15c3 }
/-- java/time/temporal/ValueRange -/
def k15 : Class := { plain "java/time/temporal/ValueRange" (some 0) with
  accessFlags := 49
  interfaces := #[4]
  cf := some (fileOf pool15 9 #[] #[{ accessFlags := 1, nameIndex := 48, descriptorIndex := 49, attributes := #[] }, { accessFlags := 1, nameIndex := 56, descriptorIndex := 49, attributes := #[] }, { accessFlags := 1, nameIndex := 65, descriptorIndex := 66, attributes := #[] }, { accessFlags := 1, nameIndex := 141, descriptorIndex := 142, attributes := #[] }] 49 29 #[121] #[{ accessFlags := 26, nameIndex := 123, descriptorIndex := 36, attributes := #[] }, { accessFlags := 18, nameIndex := 35, descriptorIndex := 36, attributes := #[] }, { accessFlags := 18, nameIndex := 39, descriptorIndex := 36, attributes := #[] }, { accessFlags := 18, nameIndex := 42, descriptorIndex := 36, attributes := #[] }, { accessFlags := 18, nameIndex := 45, descriptorIndex := 36, attributes := #[] }])
  fields := #[{ name := "serialVersionUID", type := .long, accessFlags := 26, slot := 0, constantValue := 0 }, { name := "minSmallest", type := .long, accessFlags := 18, slot := 0, constantValue := 0 }, { name := "minLargest", type := .long, accessFlags := 18, slot := 1, constantValue := 0 }, { name := "maxSmallest", type := .long, accessFlags := 18, slot := 2, constantValue := 0 }, { name := "maxLargest", type := .long, accessFlags := 18, slot := 3, constantValue := 0 }]
  methods := #[k15m0, k15m1, k15m2, k15m3]
  instanceTypes := #[.long, .long, .long, .long]
  staticTypes := #[.long]
  resolved := Array.replicate 167 none
  statics := none }

def pool16 : Array CpInfo := pool [(2, .class_ 4), (1, u "java/lang/CharSequence"), (42, .class_ 48), (0, u "java/lang/CharSequence$1CodePointIterator"), (10, .class_ 60), (0, u "java/lang/CharSequence$1CharIterator"), (5, .class_ 67), (0, u "java/lang/Object")] 63

/-- java/lang/CharSequence -/
def k16 : Class := { plain "java/lang/CharSequence" (some 0) with
  accessFlags := 1537
  interfaces := #[]
  cf := some (fileOf pool16 2 #[.nestMembers #[47, 59]] #[] 1537 66 #[] #[])
  fields := #[]
  methods := #[]
  instanceTypes := #[]
  staticTypes := #[]
  resolved := Array.replicate 131 none
  statics := none }

def pool17 : Array CpInfo := pool [(1, .class_ 2), (0, u "java/lang/constant/ConstantDesc"), (0, .class_ 4), (0, u "java/lang/Object")] 32

/-- java/lang/constant/ConstantDesc -/
def k17 : Class := { plain "java/lang/constant/ConstantDesc" (some 0) with
  accessFlags := 1537
  interfaces := #[]
  cf := some (fileOf pool17 1 #[] #[] 1537 3 #[] #[])
  fields := #[]
  methods := #[]
  instanceTypes := #[]
  staticTypes := #[]
  resolved := Array.replicate 37 none
  statics := none }

def pool18 : Array CpInfo := pool [(2, .class_ 4), (1, u "java/lang/Object"), (0, u "<init>"), (0, u "()V"), (3, .class_ 12), (1, u "java/lang/String"), (0, u "value"), (0, u "[B"), (2, u "coder"), (0, u "B"), (2, u "hash"), (0, u "I"), (2, u "hashIsZero"), (0, u "Z"), (13, u "COMPACT_STRINGS"), (534, .class_ 576), (0, u "java/lang/CharSequence"), (22, u "CASE_INSENSITIVE_ORDER"), (0, u "Ljava/util/Comparator;"), (500, u "serialPersistentFields"), (0, u "[Ljava/io/ObjectStreamField;"), (0, .class_ 1104), (0, u "java/lang/String$CaseInsensitiveComparator"), (1, .class_ 1107), (0, u "java/io/Serializable"), (0, .class_ 1109), (0, u "java/lang/Comparable"), (0, .class_ 1111), (0, u "java/lang/constant/Constable"), (0, .class_ 1113), (0, u "java/lang/constant/ConstantDesc"), (2, u "serialVersionUID"), (0, u "J"), (3, u "REPL"), (0, u "C"), (2, u "LATIN1"), (1, u "UTF16")] 323

def k18m0 : Method := { name := "<init>", desc := "()V", sig := { parameters := [], returnType := none }, accessFlags := 1, code := none }
/-- java/lang/String -/
def k18 : Class := { plain "java/lang/String" (some 0) with
  accessFlags := 49
  interfaces := #[4, 3, 16, 2, 17]
  cf := some (fileOf pool18 10 #[.nestMembers #[1103]] #[{ accessFlags := 1, nameIndex := 5, descriptorIndex := 6, attributes := #[] }] 49 2 #[1106, 1108, 575, 1110, 1112] #[{ accessFlags := 18, nameIndex := 13, descriptorIndex := 14, attributes := #[] }, { accessFlags := 18, nameIndex := 17, descriptorIndex := 18, attributes := #[] }, { accessFlags := 2, nameIndex := 21, descriptorIndex := 22, attributes := #[] }, { accessFlags := 2, nameIndex := 25, descriptorIndex := 26, attributes := #[] }, { accessFlags := 26, nameIndex := 1116, descriptorIndex := 1117, attributes := #[] }, { accessFlags := 24, nameIndex := 40, descriptorIndex := 26, attributes := #[] }, { accessFlags := 26, nameIndex := 1101, descriptorIndex := 1102, attributes := #[] }, { accessFlags := 26, nameIndex := 1121, descriptorIndex := 1122, attributes := #[] }, { accessFlags := 25, nameIndex := 599, descriptorIndex := 600, attributes := #[] }, { accessFlags := 24, nameIndex := 1125, descriptorIndex := 18, attributes := #[] }, { accessFlags := 24, nameIndex := 1127, descriptorIndex := 18, attributes := #[] }])
  fields := #[{ name := "value", type := (.array .byte), accessFlags := 18, slot := 0, constantValue := 0 }, { name := "coder", type := .byte, accessFlags := 18, slot := 1, constantValue := 0 }, { name := "hash", type := .int, accessFlags := 2, slot := 2, constantValue := 0 }, { name := "hashIsZero", type := .boolean, accessFlags := 2, slot := 3, constantValue := 0 }, { name := "serialVersionUID", type := .long, accessFlags := 26, slot := 0, constantValue := 0 }, { name := "COMPACT_STRINGS", type := .boolean, accessFlags := 24, slot := 1, constantValue := 0 }, { name := "serialPersistentFields", type := (.array (.object "java/io/ObjectStreamField")), accessFlags := 26, slot := 2, constantValue := 0 }, { name := "REPL", type := .char, accessFlags := 26, slot := 3, constantValue := 0 }, { name := "CASE_INSENSITIVE_ORDER", type := (.object "java/util/Comparator"), accessFlags := 25, slot := 4, constantValue := 0 }, { name := "LATIN1", type := .byte, accessFlags := 24, slot := 5, constantValue := 0 }, { name := "UTF16", type := .byte, accessFlags := 24, slot := 6, constantValue := 0 }]
  methods := #[k18m0]
  instanceTypes := #[(.array .byte), .byte, .int, .boolean]
  staticTypes := #[.long, .boolean, (.array (.object "java/io/ObjectStreamField")), .char, (.object "java/util/Comparator"), .byte, .byte]
  resolved := Array.replicate 1451 none
  statics := none }

def pool19 : Array CpInfo := pool [(2, .class_ 4), (1, u "java/lang/Object"), (0, u "<init>"), (0, u "()V"), (35, .class_ 44), (1, u "java/util/Objects"), (0, u "requireNonNull"), (48, u "(Ljava/lang/Object;Ljava/lang/String;)Ljava/lang/Object;")] 89

def k19m0 : Method := { name := "<init>", desc := "()V", sig := { parameters := [], returnType := none }, accessFlags := 2, code := none }
def k19c1 : Code := { maxStack := 3, maxLocals := 2, code := jdk_31_method_11_code, exceptionTable := #[], attributes := #[] }
def k19m1 : Method := { name := "requireNonNull", desc := "(Ljava/lang/Object;Ljava/lang/String;)Ljava/lang/Object;", sig := { parameters := [(.object "java/lang/Object"), (.object "java/lang/String")], returnType := some (.object "java/lang/Object") }, accessFlags := 9, code := some k19c1 }
/-- java/util/Objects -/
def k19 : Class := { plain "java/util/Objects" (some 0) with
  accessFlags := 49
  interfaces := #[]
  cf := some (fileOf pool19 42 #[] #[{ accessFlags := 2, nameIndex := 5, descriptorIndex := 6, attributes := #[] }, { accessFlags := 9, nameIndex := 45, descriptorIndex := 94, attributes := #[] }] 49 2 #[] #[])
  fields := #[]
  methods := #[k19m0, k19m1]
  instanceTypes := #[]
  staticTypes := #[]
  resolved := Array.replicate 184 none
  statics := none }

def pool20 : Array CpInfo := pool [(4, .class_ 6), (1, u "java/time/temporal/TemporalUnit"), (23, .class_ 31), (0, u "java/lang/Object")] 27

/-- java/time/temporal/TemporalUnit -/
def k20 : Class := { plain "java/time/temporal/TemporalUnit" (some 0) with
  accessFlags := 1537
  interfaces := #[]
  cf := some (fileOf pool20 4 #[] #[] 1537 30 #[] #[])
  fields := #[]
  methods := #[]
  instanceTypes := #[]
  staticTypes := #[]
  resolved := Array.replicate 59 none
  statics := none }

def pool21 : Array CpInfo := pool [(1, .class_ 2), (0, u "java/time/temporal/ChronoUnit"), (2, u "NANOS"), (0, u "Ljava/time/temporal/ChronoUnit;"), (2, u "MICROS"), (2, u "MILLIS"), (2, u "SECONDS"), (2, u "MINUTES"), (2, u "HOURS"), (2, u "HALF_DAYS"), (2, u "DAYS"), (2, u "WEEKS"), (2, u "MONTHS"), (2, u "YEARS"), (2, u "DECADES"), (2, u "CENTURIES"), (2, u "MILLENNIA"), (2, u "ERAS"), (2, u "FOREVER"), (2, u "$VALUES"), (0, u "[Ljava/time/temporal/ChronoUnit;"), (6, .class_ 64), (1, u "java/lang/Enum"), (8, u "name"), (0, u "Ljava/lang/String;"), (2, u "duration"), (0, u "Ljava/time/Duration;"), (117, .class_ 197), (0, u "java/time/temporal/TemporalUnit")] 39

/-- java/time/temporal/ChronoUnit -/
def k21 : Class := { plain "java/time/temporal/ChronoUnit" (some 5) with
  accessFlags := 16433
  interfaces := #[20]
  cf := some (fileOf pool21 1 #[] #[] 16433 62 #[196] #[{ accessFlags := 16409, nameIndex := 5, descriptorIndex := 6, attributes := #[] }, { accessFlags := 16409, nameIndex := 9, descriptorIndex := 6, attributes := #[] }, { accessFlags := 16409, nameIndex := 12, descriptorIndex := 6, attributes := #[] }, { accessFlags := 16409, nameIndex := 15, descriptorIndex := 6, attributes := #[] }, { accessFlags := 16409, nameIndex := 18, descriptorIndex := 6, attributes := #[] }, { accessFlags := 16409, nameIndex := 21, descriptorIndex := 6, attributes := #[] }, { accessFlags := 16409, nameIndex := 24, descriptorIndex := 6, attributes := #[] }, { accessFlags := 16409, nameIndex := 27, descriptorIndex := 6, attributes := #[] }, { accessFlags := 16409, nameIndex := 30, descriptorIndex := 6, attributes := #[] }, { accessFlags := 16409, nameIndex := 33, descriptorIndex := 6, attributes := #[] }, { accessFlags := 16409, nameIndex := 36, descriptorIndex := 6, attributes := #[] }, { accessFlags := 16409, nameIndex := 39, descriptorIndex := 6, attributes := #[] }, { accessFlags := 16409, nameIndex := 42, descriptorIndex := 6, attributes := #[] }, { accessFlags := 16409, nameIndex := 45, descriptorIndex := 6, attributes := #[] }, { accessFlags := 16409, nameIndex := 48, descriptorIndex := 6, attributes := #[] }, { accessFlags := 16409, nameIndex := 51, descriptorIndex := 6, attributes := #[] }, { accessFlags := 18, nameIndex := 73, descriptorIndex := 74, attributes := #[] }, { accessFlags := 18, nameIndex := 77, descriptorIndex := 78, attributes := #[] }, { accessFlags := 4122, nameIndex := 54, descriptorIndex := 55, attributes := #[] }])
  fields := #[{ name := "NANOS", type := (.object "java/time/temporal/ChronoUnit"), accessFlags := 16409, slot := 0, constantValue := 0 }, { name := "MICROS", type := (.object "java/time/temporal/ChronoUnit"), accessFlags := 16409, slot := 1, constantValue := 0 }, { name := "MILLIS", type := (.object "java/time/temporal/ChronoUnit"), accessFlags := 16409, slot := 2, constantValue := 0 }, { name := "SECONDS", type := (.object "java/time/temporal/ChronoUnit"), accessFlags := 16409, slot := 3, constantValue := 0 }, { name := "MINUTES", type := (.object "java/time/temporal/ChronoUnit"), accessFlags := 16409, slot := 4, constantValue := 0 }, { name := "HOURS", type := (.object "java/time/temporal/ChronoUnit"), accessFlags := 16409, slot := 5, constantValue := 0 }, { name := "HALF_DAYS", type := (.object "java/time/temporal/ChronoUnit"), accessFlags := 16409, slot := 6, constantValue := 0 }, { name := "DAYS", type := (.object "java/time/temporal/ChronoUnit"), accessFlags := 16409, slot := 7, constantValue := 0 }, { name := "WEEKS", type := (.object "java/time/temporal/ChronoUnit"), accessFlags := 16409, slot := 8, constantValue := 0 }, { name := "MONTHS", type := (.object "java/time/temporal/ChronoUnit"), accessFlags := 16409, slot := 9, constantValue := 0 }, { name := "YEARS", type := (.object "java/time/temporal/ChronoUnit"), accessFlags := 16409, slot := 10, constantValue := 0 }, { name := "DECADES", type := (.object "java/time/temporal/ChronoUnit"), accessFlags := 16409, slot := 11, constantValue := 0 }, { name := "CENTURIES", type := (.object "java/time/temporal/ChronoUnit"), accessFlags := 16409, slot := 12, constantValue := 0 }, { name := "MILLENNIA", type := (.object "java/time/temporal/ChronoUnit"), accessFlags := 16409, slot := 13, constantValue := 0 }, { name := "ERAS", type := (.object "java/time/temporal/ChronoUnit"), accessFlags := 16409, slot := 14, constantValue := 0 }, { name := "FOREVER", type := (.object "java/time/temporal/ChronoUnit"), accessFlags := 16409, slot := 15, constantValue := 0 }, { name := "name", type := (.object "java/lang/String"), accessFlags := 18, slot := 3, constantValue := 0 }, { name := "duration", type := (.object "java/time/Duration"), accessFlags := 18, slot := 4, constantValue := 0 }, { name := "$VALUES", type := (.array (.object "java/time/temporal/ChronoUnit")), accessFlags := 4122, slot := 16, constantValue := 0 }]
  methods := #[]
  instanceTypes := #[(.object "java/lang/String"), .int, .int, (.object "java/lang/String"), (.object "java/time/Duration")]
  staticTypes := #[(.object "java/time/temporal/ChronoUnit"), (.object "java/time/temporal/ChronoUnit"), (.object "java/time/temporal/ChronoUnit"), (.object "java/time/temporal/ChronoUnit"), (.object "java/time/temporal/ChronoUnit"), (.object "java/time/temporal/ChronoUnit"), (.object "java/time/temporal/ChronoUnit"), (.object "java/time/temporal/ChronoUnit"), (.object "java/time/temporal/ChronoUnit"), (.object "java/time/temporal/ChronoUnit"), (.object "java/time/temporal/ChronoUnit"), (.object "java/time/temporal/ChronoUnit"), (.object "java/time/temporal/ChronoUnit"), (.object "java/time/temporal/ChronoUnit"), (.object "java/time/temporal/ChronoUnit"), (.object "java/time/temporal/ChronoUnit"), (.array (.object "java/time/temporal/ChronoUnit"))]
  resolved := Array.replicate 237 none
  statics := some 2 }

def pool22 : Array CpInfo := pool [(1, .class_ 2), (0, u "java/time/temporal/TemporalAmount"), (0, .class_ 4), (0, u "java/lang/Object")] 11

/-- java/time/temporal/TemporalAmount -/
def k22 : Class := { plain "java/time/temporal/TemporalAmount" (some 0) with
  accessFlags := 1537
  interfaces := #[]
  cf := some (fileOf pool22 1 #[] #[] 1537 3 #[] #[])
  fields := #[]
  methods := #[]
  instanceTypes := #[]
  staticTypes := #[]
  resolved := Array.replicate 16 none
  statics := none }

def pool23 : Array CpInfo := pool [(11, .class_ 13), (1, u "java/time/Duration"), (20, u "ZERO"), (0, u "Ljava/time/Duration;"), (13, .class_ 51), (1, u "java/time/temporal/TemporalAmount"), (27, .class_ 81), (1, u "java/time/Duration$Lazy"), (35, u "seconds"), (101, .class_ 220), (0, u "java/lang/Object"), (2, u "J"), (2, u "nanos"), (0, u "I"), (11, .class_ 241), (1, u "java/time/Duration$DurationUnits"), (27, .class_ 271), (1, u "java/time/Duration$1"), (91, u "BI_NANOS_PER_SECOND"), (0, u "Ljava/math/BigInteger;"), (120, .class_ 486), (0, u "java/lang/Comparable"), (0, .class_ 488), (0, u "java/io/Serializable"), (0, u "serialVersionUID")] 166

/-- java/time/Duration -/
def k23 : Class := { plain "java/time/Duration" (some 0) with
  accessFlags := 49
  interfaces := #[22, 3, 4]
  cf := some (fileOf pool23 11 #[.nestMembers #[269, 239, 79]] #[] 49 219 #[49, 485, 487] #[{ accessFlags := 25, nameIndex := 34, descriptorIndex := 35, attributes := #[] }, { accessFlags := 26, nameIndex := 489, descriptorIndex := 223, attributes := #[] }, { accessFlags := 26, nameIndex := 363, descriptorIndex := 364, attributes := #[] }, { accessFlags := 18, nameIndex := 117, descriptorIndex := 223, attributes := #[] }, { accessFlags := 18, nameIndex := 226, descriptorIndex := 227, attributes := #[] }])
  fields := #[{ name := "ZERO", type := (.object "java/time/Duration"), accessFlags := 25, slot := 0, constantValue := 0 }, { name := "serialVersionUID", type := .long, accessFlags := 26, slot := 1, constantValue := 0 }, { name := "BI_NANOS_PER_SECOND", type := (.object "java/math/BigInteger"), accessFlags := 26, slot := 2, constantValue := 0 }, { name := "seconds", type := .long, accessFlags := 18, slot := 0, constantValue := 0 }, { name := "nanos", type := .int, accessFlags := 18, slot := 1, constantValue := 0 }]
  methods := #[]
  instanceTypes := #[.long, .int]
  staticTypes := #[(.object "java/time/Duration"), .long, (.object "java/math/BigInteger")]
  resolved := Array.replicate 656 none
  statics := none }

def pool24 : Array CpInfo := pool [(1, u "java/lang/Cloneable"), (0, .class_ 1), (0, u "java/lang/Object"), (0, .class_ 3)] 3

/-- java/lang/Cloneable -/
def k24 : Class := { plain "java/lang/Cloneable" (some 0) with
  accessFlags := 1537
  interfaces := #[]
  cf := some (fileOf pool24 2 #[] #[] 1537 4 #[] #[])
  fields := #[]
  methods := #[]
  instanceTypes := #[]
  staticTypes := #[]
  resolved := Array.replicate 8 none
  statics := none }

/-- the primitive byte -/
def k25 : Class := { plain "byte" none with kind := .primitive 'B', accessFlags := 0x411 }
/-- [B -/
def k26 : Class := { plain "[B" (some 0) with kind := .array 25 .byte, interfaces := #[24, 4], accessFlags := 1041 }

/-- the primitive int -/
def k27 : Class := { plain "int" none with kind := .primitive 'I', accessFlags := 0x411 }
/-- [I -/
def k28 : Class := { plain "[I" (some 0) with kind := .array 27 .int, interfaces := #[24, 4], accessFlags := 1041 }

def heap : Heap := #[{ cls := 9, slots := #[.null, .null, .ref 11, .null, .null, .null, .null, .null, .null, .null, .null, .null, .null, .null], vm := .statics 9 },
  { cls := 14, slots := #[.null, .null, .null, .null, .null, .null, .null, .null, .null, .null, .null, .null, .null, .null, .null, .null, .null, .null, .ref 13, .null, .null, .null, .null, .null, .null, .null, .ref 12, .null, .null, .null, .null], vm := .statics 14 },
  { cls := 21, slots := #[.null, .null, .null, .null, .null, .null, .null, .ref 7, .null, .ref 8, .ref 5, .null, .null, .null, .null, .ref 6, .null], vm := .statics 21 },
  { cls := 18, slots := #[.null, .int 0, .int 0, .int 0], vm := .none },
  { cls := 23, slots := #[.long 0, .int 0], vm := .none },
  { cls := 21, slots := #[.ref 3, .int 10, .int 0, .ref 3, .ref 4], vm := .none },
  { cls := 21, slots := #[.ref 3, .int 15, .int 0, .ref 3, .ref 4], vm := .none },
  { cls := 21, slots := #[.ref 3, .int 7, .int 0, .ref 3, .ref 4], vm := .none },
  { cls := 21, slots := #[.ref 3, .int 9, .int 0, .ref 3, .ref 4], vm := .none },
  { cls := 15, slots := #[.long (-999999999), .long (-999999999), .long 999999999, .long 999999999], vm := .none },
  { cls := 15, slots := #[.long 1, .long 1, .long 28, .long 31], vm := .none },
  { cls := 9, slots := #[.ref 3, .int 2, .int 0], vm := .none },
  { cls := 14, slots := #[.ref 3, .int 26, .int 0, .ref 3, .ref 5, .ref 6, .ref 9, .ref 3], vm := .none },
  { cls := 14, slots := #[.ref 3, .int 18, .int 0, .ref 3, .ref 7, .ref 8, .ref 10, .ref 3], vm := .none }]
def classes : Array Class := #[k0, k1, k2, k3, k4, k5, k6, k7, k8, k9, k10, k11, k12, k13, k14, k15, k16, k17, k18, k19, k20, k21, k22, k23, k24, k25, k26, k27, k28]
def interned : List (Array UInt16 × Addr) := []
def slotsUsed : Nat := 115
def theMethod : MethodId := ⟨1, 1⟩
def args0 : Array Value := #[.int 5]
def aboutOver (below : List Frame) : State where
  vm := { classes := classes, interned := interned.toArray }
  heap := heap
  slotsUsed := slotsUsed
  threads := #[{ frames := .invoking theMethod args0 :: below }]
def below0 : List Frame := [.native { method := ⟨0, 0⟩, args := #[] }]
def about1 : State := aboutOver below0
def p0 : Program := .bare "" "" ""
def e0 : Env := launch0.env 0 0 0
theorem w_frames : about1.frames = Frame.invoking theMethod args0 :: below0 := rfl
set_option maxRecDepth 65536 in
theorem w_args : argsFit about1.vm theMethod args0 = true := by decide +kernel
set_option maxRecDepth 65536 in
theorem w_heap : heapFits about1 = true := by decide +kernel
set_option maxRecDepth 65536 in
theorem w_runnable : about1.curStatus? = some .runnable := by decide +kernel
set_option maxRecDepth 65536 in
theorem w_alone : about1.alone = true := by decide +kernel
set_option maxRecDepth 65536 in
theorem w_named : about1.methodNamed? x = some theMethod := by decide +kernel
set_option maxRecDepth 65536 in
theorem w_hears : about1.hears theMethod below0 = true := by decide +kernel
set_option maxRecDepth 65536 in
theorem w_ripe : about1.ripe theMethod args0 below0 = true := by decide +kernel
theorem w_running : about1.status = .running := rfl
set_option maxRecDepth 65536 in
theorem w_room : about1.hasRoom e0.platform room_1 = true :=
  launch0.hasRoom_least _ room_1 (by decide +kernel) (by decide +kernel) (by decide +kernel) (by decide +kernel) (by decide +kernel) (by decide +kernel)
theorem allAtoms_all (ts : List Jvm.Cond) (a : Array Jvm.Value) (st : Jvm.State) : (allAtoms ts).before a st = ts.all (fun c => c.before a st) := by
  induction ts with
  | nil => rfl
  | cons c t ih =>
    show (Jvm.Cond.and c (allAtoms t)).before a st = _
    rw [Jvm.Cond.before_and, ih, List.all_cons]
def words1 : List Jvm.Cond := Jvm.Cond.code x code maxLocals ret :: tables_1
/-- a 'code' word, met by the world's own term for the bytes: nothing is compared byte by byte -/
theorem code_word {y : MethodName} {bytes : ByteArray} {mx : Nat} {rt : Option FieldType} {a : Array Value} {s : State} {m : MethodId} {meth : Method} {c : Code} (h1 : s.methodNamed? y = some m) (h2 : s.vm.method? m = some meth) (h3 : meth.code = some c) (h4 : c.code = bytes)
    (h5 : (c.maxLocals == mx && c.exceptionTable.isEmpty && decide (c.maxStack ≤ mostOperands) && decide (meth.sig.returnType = rt) && !meth.locks && decide (parseMethodDescriptor y.desc = some meth.sig)) = true) : (Jvm.Cond.code y bytes mx rt).before a s = true := by
  simp only [Bool.and_eq_true, beq_iff_eq, Bool.not_eq_true', decide_eq_true_eq] at h5
  obtain ⟨⟨⟨⟨⟨g1, g2⟩, g3⟩, g4⟩, g5⟩, g6⟩ := h5
  simp [Cond.before, Cond.holds, Cond.value, h1, h2, h3, h4, g1, g2, g3, g4, g5, g6]
def isCode : Jvm.Cond → Bool
  | .code _ _ _ _ => true
  | _ => false
theorem all_split {L : List Jvm.Cond} {P : Jvm.Cond → Bool} (h1 : L.all (fun c => isCode c || P c) = true) (h2 : ∀ c ∈ L.filter isCode, P c = true) : L.all P = true := by
  refine List.all_eq_true.mpr fun c hc => ?_
  have h := List.all_eq_true.mp h1 c hc
  rcases Bool.eq_false_or_eq_true (isCode c) with hi | hi
  · exact h2 c (List.mem_filter.mpr ⟨hc, hi⟩)
  · simpa [hi] using h
set_option maxRecDepth 65536 in
theorem w_c0 : (Jvm.Cond.code x code maxLocals ret).before args0 about1 = true := code_word (m := ⟨1, 1⟩) (meth := k1m1) (c := k1c1) (by decide +kernel) rfl rfl rfl (by decide +kernel)
set_option maxRecDepth 65536 in
theorem w_c1 : (Jvm.Cond.code ({ cls := "com/example/ratable/ratable/HolidayCalendar", name := "easterSunday", desc := "(I)Ljava/time/LocalDate;" } : Jvm.MethodName) prog_13_method_15_code (14 : Nat) (Option.some (Jvm.ClassFile.FieldType.object "java/time/LocalDate"))).before args0 about1 = true := code_word (m := ⟨6, 0⟩) (meth := k6m0) (c := k6c0) (by decide +kernel) rfl rfl rfl (by decide +kernel)
set_option maxRecDepth 65536 in
theorem w_c2 : (Jvm.Cond.code ({ cls := "java/time/LocalDate", name := "of", desc := "(ILjava/time/Month;I)Ljava/time/LocalDate;" } : Jvm.MethodName) jdk_2323_method_4_code (3 : Nat) (Option.some (Jvm.ClassFile.FieldType.object "java/time/LocalDate"))).before args0 about1 = true := code_word (m := ⟨12, 0⟩) (meth := k12m0) (c := k12c0) (by decide +kernel) rfl rfl rfl (by decide +kernel)
set_option maxRecDepth 65536 in
theorem w_c3 : (Jvm.Cond.code ({ cls := "java/time/temporal/ChronoField", name := "checkValidValue", desc := "(J)J" } : Jvm.MethodName) jdk_2395_method_11_code (3 : Nat) (Option.some Jvm.ClassFile.FieldType.long)).before args0 about1 = true := code_word (m := ⟨14, 1⟩) (meth := k14m1) (c := k14c1) (by decide +kernel) rfl rfl rfl (by decide +kernel)
set_option maxRecDepth 65536 in
theorem w_c4 : (Jvm.Cond.code ({ cls := "java/time/temporal/ChronoField", name := "range", desc := "()Ljava/time/temporal/ValueRange;" } : Jvm.MethodName) jdk_2395_method_8_code (1 : Nat) (Option.some (Jvm.ClassFile.FieldType.object "java/time/temporal/ValueRange"))).before args0 about1 = true := code_word (m := ⟨14, 0⟩) (meth := k14m0) (c := k14c0) (by decide +kernel) rfl rfl rfl (by decide +kernel)
set_option maxRecDepth 65536 in
theorem w_c5 : (Jvm.Cond.code ({ cls := "java/time/temporal/ValueRange", name := "checkValidValue", desc := "(JLjava/time/temporal/TemporalField;)J" } : Jvm.MethodName) jdk_2423_method_13_code (4 : Nat) (Option.some Jvm.ClassFile.FieldType.long)).before args0 about1 = true := code_word (m := ⟨15, 3⟩) (meth := k15m3) (c := k15c3) (by decide +kernel) rfl rfl rfl (by decide +kernel)
set_option maxRecDepth 65536 in
theorem w_c6 : (Jvm.Cond.code ({ cls := "java/time/temporal/ValueRange", name := "isValidValue", desc := "(J)Z" } : Jvm.MethodName) jdk_2423_method_11_code (3 : Nat) (Option.some Jvm.ClassFile.FieldType.boolean)).before args0 about1 = true := code_word (m := ⟨15, 2⟩) (meth := k15m2) (c := k15c2) (by decide +kernel) rfl rfl rfl (by decide +kernel)
set_option maxRecDepth 65536 in
theorem w_c7 : (Jvm.Cond.code ({ cls := "java/time/temporal/ValueRange", name := "getMinimum", desc := "()J" } : Jvm.MethodName) jdk_2423_method_6_code (1 : Nat) (Option.some Jvm.ClassFile.FieldType.long)).before args0 about1 = true := code_word (m := ⟨15, 0⟩) (meth := k15m0) (c := k15c0) (by decide +kernel) rfl rfl rfl (by decide +kernel)
set_option maxRecDepth 65536 in
theorem w_c8 : (Jvm.Cond.code ({ cls := "java/time/temporal/ValueRange", name := "getMaximum", desc := "()J" } : Jvm.MethodName) jdk_2423_method_9_code (1 : Nat) (Option.some Jvm.ClassFile.FieldType.long)).before args0 about1 = true := code_word (m := ⟨15, 1⟩) (meth := k15m1) (c := k15c1) (by decide +kernel) rfl rfl rfl (by decide +kernel)
set_option maxRecDepth 65536 in
theorem w_c9 : (Jvm.Cond.code ({ cls := "java/util/Objects", name := "requireNonNull", desc := "(Ljava/lang/Object;Ljava/lang/String;)Ljava/lang/Object;" } : Jvm.MethodName) jdk_31_method_11_code (2 : Nat) (Option.some (Jvm.ClassFile.FieldType.object "java/lang/Object"))).before args0 about1 = true := code_word (m := ⟨19, 1⟩) (meth := k19m1) (c := k19c1) (by decide +kernel) rfl rfl rfl (by decide +kernel)
set_option maxRecDepth 65536 in
theorem w_c10 : (Jvm.Cond.code ({ cls := "java/time/Month", name := "getValue", desc := "()I" } : Jvm.MethodName) jdk_2329_method_6_code (1 : Nat) (Option.some Jvm.ClassFile.FieldType.int)).before args0 about1 = true := code_word (m := ⟨9, 0⟩) (meth := k9m0) (c := k9c0) (by decide +kernel) rfl rfl rfl (by decide +kernel)
set_option maxRecDepth 65536 in
theorem w_c11 : (Jvm.Cond.code ({ cls := "java/lang/Enum", name := "ordinal", desc := "()I" } : Jvm.MethodName) jdk_37_method_2_code (1 : Nat) (Option.some Jvm.ClassFile.FieldType.int)).before args0 about1 = true := code_word (m := ⟨5, 0⟩) (meth := k5m0) (c := k5c0) (by decide +kernel) rfl rfl rfl (by decide +kernel)
set_option maxRecDepth 65536 in
theorem w_c12 : (Jvm.Cond.code ({ cls := "java/time/LocalDate", name := "create", desc := "(III)Ljava/time/LocalDate;" } : Jvm.MethodName) jdk_2323_method_12_code (4 : Nat) (Option.some (Jvm.ClassFile.FieldType.object "java/time/LocalDate"))).before args0 about1 = true := code_word (m := ⟨12, 1⟩) (meth := k12m1) (c := k12c1) (by decide +kernel) rfl rfl rfl (by decide +kernel)
set_option maxRecDepth 65536 in
theorem w_c13 : (Jvm.Cond.code ({ cls := "java/time/LocalDate", name := "<init>", desc := "(III)V" } : Jvm.MethodName) jdk_2323_method_14_code (4 : Nat) (Option.none : Option Jvm.ClassFile.FieldType)).before args0 about1 = true := code_word (m := ⟨12, 2⟩) (meth := k12m2) (c := k12c2) (by decide +kernel) rfl rfl rfl (by decide +kernel)
set_option maxRecDepth 65536 in
theorem w_c14 : (Jvm.Cond.code ({ cls := "java/lang/Object", name := "<init>", desc := "()V" } : Jvm.MethodName) object_method_1_code (1 : Nat) (Option.none : Option Jvm.ClassFile.FieldType)).before args0 about1 = true := code_word (m := ⟨0, 0⟩) (meth := k0m0) (c := k0c0) (by decide +kernel) rfl rfl rfl (by decide +kernel)
set_option maxRecDepth 65536 in
theorem w_c15 : (Jvm.Cond.code ({ cls := "java/time/LocalDate", name := "plusDays", desc := "(J)Ljava/time/LocalDate;" } : Jvm.MethodName) jdk_2323_method_44_code (7 : Nat) (Option.some (Jvm.ClassFile.FieldType.object "java/time/LocalDate"))).before args0 about1 = true := code_word (m := ⟨12, 7⟩) (meth := k12m7) (c := k12c7) (by decide +kernel) rfl rfl rfl (by decide +kernel)
set_option maxRecDepth 65536 in
theorem w_c16 : (Jvm.Cond.code ({ cls := "java/time/LocalDate", name := "lengthOfMonth", desc := "()I" } : Jvm.MethodName) jdk_2323_method_31_code (1 : Nat) (Option.some Jvm.ClassFile.FieldType.int)).before args0 about1 = true := code_word (m := ⟨12, 6⟩) (meth := k12m6) (c := k12c6) (by decide +kernel) rfl rfl rfl (by decide +kernel)
set_option maxRecDepth 65536 in
theorem w_c17 : (Jvm.Cond.code ({ cls := "java/time/LocalDate", name := "getYear", desc := "()I" } : Jvm.MethodName) jdk_2323_method_24_code (1 : Nat) (Option.some Jvm.ClassFile.FieldType.int)).before args0 about1 = true := code_word (m := ⟨12, 3⟩) (meth := k12m3) (c := k12c3) (by decide +kernel) rfl rfl rfl (by decide +kernel)
set_option maxRecDepth 65536 in
theorem w_c18 : (Jvm.Cond.code ({ cls := "java/time/LocalDate", name := "getMonthValue", desc := "()I" } : Jvm.MethodName) jdk_2323_method_25_code (1 : Nat) (Option.some Jvm.ClassFile.FieldType.int)).before args0 about1 = true := code_word (m := ⟨12, 4⟩) (meth := k12m4) (c := k12c4) (by decide +kernel) rfl rfl rfl (by decide +kernel)
set_option maxRecDepth 65536 in
theorem w_c19 : (Jvm.Cond.code ({ cls := "java/time/LocalDate", name := "getDayOfMonth", desc := "()I" } : Jvm.MethodName) jdk_2323_method_27_code (1 : Nat) (Option.some Jvm.ClassFile.FieldType.int)).before args0 about1 = true := code_word (m := ⟨12, 5⟩) (meth := k12m5) (c := k12c5) (by decide +kernel) rfl rfl rfl (by decide +kernel)
def codes1 : List Jvm.Cond := [Jvm.Cond.code x code maxLocals ret, Jvm.Cond.code ({ cls := "com/example/ratable/ratable/HolidayCalendar", name := "easterSunday", desc := "(I)Ljava/time/LocalDate;" } : Jvm.MethodName) prog_13_method_15_code (14 : Nat) (Option.some (Jvm.ClassFile.FieldType.object "java/time/LocalDate")), Jvm.Cond.code ({ cls := "java/time/LocalDate", name := "of", desc := "(ILjava/time/Month;I)Ljava/time/LocalDate;" } : Jvm.MethodName) jdk_2323_method_4_code (3 : Nat) (Option.some (Jvm.ClassFile.FieldType.object "java/time/LocalDate")), Jvm.Cond.code ({ cls := "java/time/temporal/ChronoField", name := "checkValidValue", desc := "(J)J" } : Jvm.MethodName) jdk_2395_method_11_code (3 : Nat) (Option.some Jvm.ClassFile.FieldType.long), Jvm.Cond.code ({ cls := "java/time/temporal/ChronoField", name := "range", desc := "()Ljava/time/temporal/ValueRange;" } : Jvm.MethodName) jdk_2395_method_8_code (1 : Nat) (Option.some (Jvm.ClassFile.FieldType.object "java/time/temporal/ValueRange")), Jvm.Cond.code ({ cls := "java/time/temporal/ValueRange", name := "checkValidValue", desc := "(JLjava/time/temporal/TemporalField;)J" } : Jvm.MethodName) jdk_2423_method_13_code (4 : Nat) (Option.some Jvm.ClassFile.FieldType.long), Jvm.Cond.code ({ cls := "java/time/temporal/ValueRange", name := "isValidValue", desc := "(J)Z" } : Jvm.MethodName) jdk_2423_method_11_code (3 : Nat) (Option.some Jvm.ClassFile.FieldType.boolean), Jvm.Cond.code ({ cls := "java/time/temporal/ValueRange", name := "getMinimum", desc := "()J" } : Jvm.MethodName) jdk_2423_method_6_code (1 : Nat) (Option.some Jvm.ClassFile.FieldType.long), Jvm.Cond.code ({ cls := "java/time/temporal/ValueRange", name := "getMaximum", desc := "()J" } : Jvm.MethodName) jdk_2423_method_9_code (1 : Nat) (Option.some Jvm.ClassFile.FieldType.long), Jvm.Cond.code ({ cls := "java/util/Objects", name := "requireNonNull", desc := "(Ljava/lang/Object;Ljava/lang/String;)Ljava/lang/Object;" } : Jvm.MethodName) jdk_31_method_11_code (2 : Nat) (Option.some (Jvm.ClassFile.FieldType.object "java/lang/Object")), Jvm.Cond.code ({ cls := "java/time/Month", name := "getValue", desc := "()I" } : Jvm.MethodName) jdk_2329_method_6_code (1 : Nat) (Option.some Jvm.ClassFile.FieldType.int), Jvm.Cond.code ({ cls := "java/lang/Enum", name := "ordinal", desc := "()I" } : Jvm.MethodName) jdk_37_method_2_code (1 : Nat) (Option.some Jvm.ClassFile.FieldType.int), Jvm.Cond.code ({ cls := "java/time/LocalDate", name := "create", desc := "(III)Ljava/time/LocalDate;" } : Jvm.MethodName) jdk_2323_method_12_code (4 : Nat) (Option.some (Jvm.ClassFile.FieldType.object "java/time/LocalDate")), Jvm.Cond.code ({ cls := "java/time/LocalDate", name := "<init>", desc := "(III)V" } : Jvm.MethodName) jdk_2323_method_14_code (4 : Nat) (Option.none : Option Jvm.ClassFile.FieldType), Jvm.Cond.code ({ cls := "java/lang/Object", name := "<init>", desc := "()V" } : Jvm.MethodName) object_method_1_code (1 : Nat) (Option.none : Option Jvm.ClassFile.FieldType), Jvm.Cond.code ({ cls := "java/time/LocalDate", name := "plusDays", desc := "(J)Ljava/time/LocalDate;" } : Jvm.MethodName) jdk_2323_method_44_code (7 : Nat) (Option.some (Jvm.ClassFile.FieldType.object "java/time/LocalDate")), Jvm.Cond.code ({ cls := "java/time/LocalDate", name := "lengthOfMonth", desc := "()I" } : Jvm.MethodName) jdk_2323_method_31_code (1 : Nat) (Option.some Jvm.ClassFile.FieldType.int), Jvm.Cond.code ({ cls := "java/time/LocalDate", name := "getYear", desc := "()I" } : Jvm.MethodName) jdk_2323_method_24_code (1 : Nat) (Option.some Jvm.ClassFile.FieldType.int), Jvm.Cond.code ({ cls := "java/time/LocalDate", name := "getMonthValue", desc := "()I" } : Jvm.MethodName) jdk_2323_method_25_code (1 : Nat) (Option.some Jvm.ClassFile.FieldType.int), Jvm.Cond.code ({ cls := "java/time/LocalDate", name := "getDayOfMonth", desc := "()I" } : Jvm.MethodName) jdk_2323_method_27_code (1 : Nat) (Option.some Jvm.ClassFile.FieldType.int)]
set_option maxRecDepth 65536 in
theorem codes_eq : words1.filter isCode = codes1 := rfl
theorem w_codes : ∀ c ∈ words1.filter isCode, c.before args0 about1 = true := by
  rw [codes_eq]
  intro c hc
  simp only [codes1, List.mem_cons, List.not_mem_nil, or_false] at hc
  rcases hc with rfl | rfl | rfl | rfl | rfl | rfl | rfl | rfl | rfl | rfl | rfl | rfl | rfl | rfl | rfl | rfl | rfl | rfl | rfl | rfl
  · exact w_c0
  · exact w_c1
  · exact w_c2
  · exact w_c3
  · exact w_c4
  · exact w_c5
  · exact w_c6
  · exact w_c7
  · exact w_c8
  · exact w_c9
  · exact w_c10
  · exact w_c11
  · exact w_c12
  · exact w_c13
  · exact w_c14
  · exact w_c15
  · exact w_c16
  · exact w_c17
  · exact w_c18
  · exact w_c19
set_option maxRecDepth 65536 in
theorem w_t1 : (words1.take 24).all (fun c => isCode c || c.before args0 about1) = true := by decide +kernel
set_option maxRecDepth 65536 in
theorem w_t2 : ((words1.drop 24).take 24).all (fun c => isCode c || c.before args0 about1) = true := by decide +kernel
set_option maxRecDepth 65536 in
theorem w_t3 : (((words1.drop 24).drop 24).take 24).all (fun c => isCode c || c.before args0 about1) = true := by decide +kernel
set_option maxRecDepth 65536 in
theorem w_t4 : ((((words1.drop 24).drop 24).drop 24).take 24).all (fun c => isCode c || c.before args0 about1) = true := by decide +kernel
set_option maxRecDepth 65536 in
theorem w_t5 : (((((words1.drop 24).drop 24).drop 24).drop 24).take 24).all (fun c => isCode c || c.before args0 about1) = true := by decide +kernel
set_option maxRecDepth 65536 in
theorem w_t6 : (((((words1.drop 24).drop 24).drop 24).drop 24).drop 24).all (fun c => isCode c || c.before args0 about1) = true := by decide +kernel
theorem w_tables : (allAtoms (Jvm.Cond.code x code maxLocals ret :: tables_1)).before args0 about1 = true := by
  rw [allAtoms_all]
  show words1.all (fun c => c.before args0 about1) = true
  refine all_split ?_ w_codes
  rw [← List.take_append_drop 24 words1, List.all_append, w_t1, ← List.take_append_drop 24 (words1.drop 24), List.all_append, w_t2, ← List.take_append_drop 24 ((words1.drop 24).drop 24), List.all_append, w_t3, ← List.take_append_drop 24 (((words1.drop 24).drop 24).drop 24), List.all_append, w_t4, ← List.take_append_drop 24 ((((words1.drop 24).drop 24).drop 24).drop 24), List.all_append, w_t5, w_t6]
  rfl
set_option maxRecDepth 65536 in
theorem w_rest : rest_1_c.before args0 about1 = true := by decide +kernel
set_option maxRecDepth 65536 in
theorem w_case : (Jvm.Cond.and given_1 narrow_1).before args0 about1 = true := by decide +kernel
theorem w_applies : (headSpec (Jvm.Cond.code x code maxLocals ret :: tables_1) room_1).applies x e0.platform about1 = true :=
  (Spec.applies_iff w_frames).mpr ⟨w_running, w_runnable, w_alone, w_named, w_hears, w_ripe, w_room, w_tables⟩
theorem atStart : AtStart classFile x code maxLocals ret World_1 tables_1 room_1 Calls_1 rest_1 Pre_1 launch0 p0 e0 about1 theMethod args0 below0 :=
  ⟨lists_1, trivial, launch0.admits_env _ _ _, launch0.least_env, fairChoices_fair.cas, fairChoices_fair.clock, w_frames, w_args, w_heap, w_applies, trivial, w_rest, w_case⟩
end start1
theorem witness_1 : WitnessClaimed_1 := ⟨start1.p0, start1.e0, start1.about1, start1.theMethod, start1.args0, start1.below0, start1.atStart⟩
end Jvm.Pilot.@@N@@
