import JvmDerived
import JvmDerived.Pilot.@@N@@Statement
import JvmDerived.Pilot.@@N@@Code
set_option linter.unusedVariables false
set_option linter.unusedSimpArgs false
namespace Jvm.Pilot.@@N@@
open Jvm Jvm.ClassFile Sem Op Lib Jvm.Free Jvm.Stand Jvm.LawKit Jvm.RoadKit Bundle Jvm.Pilot.@@N@@.Jvm.D
section Kit
variable {p : Program} {l : Launch} {e : Env} {R : Room} {s : State} {m : MethodId} {args : Array Value} {below : List Frame} {meth : Method} {c : Code} {Z : State} {EL : List (String × Nat)} {own : String} {n0 : Nat} {bk : Addr → Prop} {h : Heap} {cells slots : Nat} {g g' : JFrame} {a0 : Array Value} {Q : Option Value → Heap → (Addr → Prop) → Prop}
/-- what a walk leaves: its answer, its heap, what may be booked -/
def EndW (s : State) (R : Room) (Z : State) (EL : List (String × Nat)) (n0 : Nat) (Q : Option Value → Heap → (Addr → Prop) → Prop) (o : Outcome) (U : State) : Prop :=
  ∃ v L bk', o = .returned v ∧ (Q v U.heap bk' ∧ Fr n0 L ∧ Old Z n0 U.heap ∧ CHv Z EL U.vm U.heap ∧ ∀ y, Bk Z EL U.vm U.heap y → bk' y) ∧ ReturnedEndW s o U L R.cells R.slots
/-- where a walk stands -/
def Pos (p : Program) (l : Launch) (e : Env) (R : Room) (s : State) (m : MethodId) (args : Array Value) (below : List Frame) (meth : Method) (c : Code) (Z : State) (EL : List (String × Nat)) (own : String) (n0 : Nat) (bk : Addr → Prop) (h : Heap) (cells slots : Nat) (vm0 : Vm) (T : State) (locs : List Loc) : Prop :=
  Stand p l e R (s.setVm vm0) m args below meth c T locs cells slots ∧ T.heap = h ∧ (∃ k0, s.Since vm0 k0 ∧ k0 ≤ h.size) ∧ Z.Warmed39 vm0 ∧ vm0.findClass own = some m.cls ∧ Fr n0 locs ∧ Old Z n0 h ∧ CHv Z EL vm0 h ∧ (∀ y, Bk Z EL vm0 h y → bk y) ∧ ∃ a0, EW Z a0 EL
/-- from here the walk ends, and leaves Q -/
def Run (p : Program) (l : Launch) (e : Env) (R : Room) (s : State) (m : MethodId) (args : Array Value) (below : List Frame) (meth : Method) (c : Code) (Z : State) (EL : List (String × Nat)) (own : String) (n0 : Nat) (bk : Addr → Prop) (h : Heap) (cells slots : Nat) (g : JFrame) (Q : Option Value → Heap → (Addr → Prop) → Prop) : Prop :=
  ∀ vm0 T locs, Pos p l e R s m args below meth c Z EL own n0 bk h cells slots vm0 T locs → ∃ U o, Steps p.tables e below (T.setTop g) U ∧ U.status = .running ∧ Ended U below o ∧ EndW s R Z EL n0 Q o U
/-- a body's contract -/
def Met (l : Launch) (Z : State) (EL : List (String × Nat)) (n0 : Nat) (bk : Addr → Prop) (y : MethodName) (bytes : ByteArray) (maxL : Nat) (ret : Option FieldType) (rm : Room) (as' : Array Value) (h : Heap) (Q : Option Value → Heap → (Addr → Prop) → Prop) (ws : List Jvm.Cond) : Prop :=
  MetFree l y (head1 (Jvm.Cond.code y bytes maxL ret :: ws) rm) (fun a U => a = as' ∧ Z.Warmed39 U.vm ∧ U.heap = h ∧ CHv Z EL U.vm h ∧ ∀ x, Bk Z EL U.vm h x → bk x) (fun _ _ _ _ _ => True) (fun _ U o U' => EndW U rm Z EL n0 Q o U')
theorem end_mono {s t : State} {o : Outcome} {L : List Loc} {k n k' n' : Nat} (H : ReturnedEndW s o t L k n) (hk : k ≤ k') (hn : n ≤ n') : ReturnedEndW s o t L k' n' := ⟨H.1, H.2.1, H.2.2.1, H.2.2.2.mono hk hn⟩
theorem Met.of {y : MethodName} {bytes : ByteArray} {maxL : Nat} {ret : Option FieldType} {rm : Room} {as' : Array Value} {ws : List Jvm.Cond} (hp : plainFor y = true) (hO : Old Z n0 h) (hE : EW Z a0 EL)
    (H : ∀ p e s m below meth c, p.tables.exec = Jvm.exec → c.code = bytes → c.maxLocals = maxL → meth.sig.returnType = ret → meth.locks = false → meth.name = y.name → Run p l e rm s m as' below meth c Z EL y.cls n0 bk h 0 0 (entryFrame m as' maxL) Q) : Met l Z EL n0 bk y bytes maxL ret rm as' h Q ws := by
  refine MetFree.of_bodySF hp hisR ?_
  intro p e s m args below meth c s₁ Bd hml hP hK
  obtain ⟨rfl, hZ, hh, hC, hB⟩ := hP
  have e0 : s₁.heap = h := by rw [← hh, Bd.state]; rfl
  exact H p e s m below meth c Bd.exec Bd.bytes hml Bd.returns Bd.notSynchronized (name_of_methodNamed Bd.named Bd.method).1 s.vm s₁ [] ⟨Stand.of_body Bd, e0, ⟨0, (State.WarmedH.refl s).since _, Nat.zero_le _⟩, hZ, findClass_of_methodNamed Bd.named, Fr.nil _, hO, hC, hB, _, hE⟩
/-- one pure step -/
theorem k_pure (st : ∀ T, At T m c below → ∀ t, Steps p.tables e below (T.setTop g') t → Steps p.tables e below (T.setTop g) t)
    (k : Run p l e R s m args below meth c Z EL own n0 bk h cells slots g' Q) : Run p l e R s m args below meth c Z EL own n0 bk h cells slots g Q := fun vm0 T locs P => by
  obtain ⟨U, o, h1, r⟩ := k vm0 T locs P
  exact ⟨U, o, st T P.1.here _ h1, r⟩
theorem k_cast (q : g = g') (k : Run p l e R s m args below meth c Z EL own n0 bk h cells slots g' Q) : Run p l e R s m args below meth c Z EL own n0 bk h cells slots g Q := q ▸ k
theorem k_more {cells' slots' : Nat} (hc : cells ≤ cells') (hs : slots ≤ slots') (k : Run p l e R s m args below meth c Z EL own n0 bk h cells' slots' g Q) : Run p l e R s m args below meth c Z EL own n0 bk h cells slots g Q := fun vm0 T locs P => k vm0 T locs ⟨P.1.more hc hs, P.2⟩
/-- one step that looks at the tables or the heap and moves no cell -/
theorem k_still (st : ∀ s' T locs, Stand p l e R s' m args below meth c T locs cells slots → T.heap = h → Z.Warmed39 s'.vm → s'.vm.findClass own = some m.cls → ∃ T', Stand p l e R s' m args below meth c T' locs cells slots ∧ T'.heap = h ∧ ∀ t, Steps p.tables e below (T'.setTop g') t → Steps p.tables e below (T.setTop g) t)
    (k : Run p l e R s m args below meth c Z EL own n0 bk h cells slots g' Q) : Run p l e R s m args below meth c Z EL own n0 bk h cells slots g Q := fun vm0 T locs P => by
  obtain ⟨X, e1, hS, hZ, ho, N, O, C, B, hE⟩ := P
  obtain ⟨T', X', e2, st'⟩ := st _ T locs X e1 hZ ho
  obtain ⟨U, o, h1, r⟩ := k vm0 T' locs ⟨X', e2, hS, hZ, ho, N, O, C, B, hE⟩
  exact ⟨U, o, st' _ h1, r⟩
/-- one step that makes cells -/
theorem k_grow {kc ks : Nat} {F : Heap → JFrame → Prop} (st : ∀ s' T locs, Stand p l e R s' m args below meth c T locs cells slots → T.heap = h → Z.Warmed39 s'.vm → s'.vm.findClass own = some m.cls → ∃ T' h' g', Stand p l e R s' m args below meth c T' locs (cells + kc) (slots + ks) ∧ T'.heap = h' ∧ Ext h h' ∧ F h' g' ∧ ∀ t, Steps p.tables e below (T'.setTop g') t → Steps p.tables e below (T.setTop g) t)
    (k : ∀ h' g', Old Z n0 h' → Ext h h' → F h' g' → Run p l e R s m args below meth c Z EL own n0 bk h' (cells + kc) (slots + ks) g' Q) : Run p l e R s m args below meth c Z EL own n0 bk h cells slots g Q := fun vm0 T locs P => by
  obtain ⟨X, e1, ⟨k0, hS, hk⟩, hZ, ho, N, O, C, B, hE⟩ := P
  obtain ⟨T', h', g', X', e2, E, hF, st'⟩ := st _ T locs X e1 hZ ho
  have hC := CHr.ext E C
  obtain ⟨U, o, h1, r⟩ := k h' g' (O.ext E) E hF vm0 T' locs ⟨X', e2, ⟨k0, hS, Nat.le_trans hk E.1⟩, hZ, ho, N, O.ext E, hC.1, fun y q => B y ((C.step fun _ _ _ q => E.2 _ _ q).2 y q), hE⟩
  exact ⟨U, o, st' _ h1, r⟩
/-- one step that writes one place of a cell that is ours -/
theorem k_write {a : Addr} {sl : Nat} {v : Value} (ge : n0 ≤ a) (nb : ¬ bk a)
    (st : ∀ s' T locs, Stand p l e R s' m args below meth c T locs cells slots → T.heap = h → Z.Warmed39 s'.vm → s'.vm.findClass own = some m.cls → ∃ T' h', Stand p l e R s' m args below meth c T' (locs ++ [⟨a, sl⟩]) cells slots ∧ T'.heap = h' ∧ Wr h h' a sl v ∧ ∀ t, Steps p.tables e below (T'.setTop g') t → Steps p.tables e below (T.setTop g) t)
    (k : ∀ h', Old Z n0 h' → Wr h h' a sl v → Run p l e R s m args below meth c Z EL own n0 bk h' cells slots g' Q) : Run p l e R s m args below meth c Z EL own n0 bk h cells slots g Q := fun vm0 T locs P => by
  obtain ⟨X, e1, ⟨k0, hS, hk⟩, hZ, ho, N, O, C, B, hE⟩ := P
  obtain ⟨T', h', X', e2, W, st'⟩ := st _ T locs X e1 hZ ho
  have sa : Safe Z EL vm0 h a := fun q => nb (B a q)
  have hC := C.wrStep W sa
  obtain ⟨U, o, h1, r⟩ := k h' (O.wr W ge) W vm0 T' _ ⟨X', e2, ⟨k0, hS, by rw [W.size]; exact hk⟩, hZ, ho, Fr.snoc X' N ge, O.wr W ge, hC.1, fun y q => B y (hC.2 y q), hE⟩
  exact ⟨U, o, st' _ h1, r⟩
/-- the end of a walk -/
theorem k_end {v : Option Value} (hlk : meth.locks = false) (hv : meth.sig.returnType = none → v = none) (hc : cells ≤ R.cells) (hs : slots ≤ R.slots) (hQ : Q v h bk)
    (st : ∀ s' T locs fs, Stand p l e R s' m args below meth c T locs cells slots → (∀ (f : JFrame) (acts : List Action), f.method = m → f.locked = none → f.entered = [] → (doReturn e (T.setTop f) acts v).1 = T.setFrames fs) → Steps p.tables e below (T.setTop g) (T.setFrames fs)) :
    Run p l e R s m args below meth c Z EL own n0 bk h cells slots g Q := fun vm0 T locs P => by
  obtain ⟨X, e1, ⟨k0, hS, hk⟩, hZ, ho, N, O, C, B, a0, hE⟩ := P
  obtain ⟨fs, hr, hrun, hended, hW⟩ := X.leaveW hS (by rw [e1]; exact hk) (v := v) hv hlk
  have A := CHv.at X hZ hE C
  have eh : (T.setFrames fs).heap = h := e1
  refine ⟨_, _, st _ T locs fs X hr, hrun, hended, v, locs, bk, rfl, ⟨?_, N, ?_, ?_, ?_⟩, end_mono hW hc hs⟩
  · rw [eh]; exact hQ
  · rw [eh]; exact O
  · rw [eh]; exact A.1
  · rw [eh]; exact fun y q => (A.2.2 y q).elim (B y) (fun z => absurd (Array.getElem?_eq_some_iff.mp (Bk.there q).choose_spec).1 (Nat.not_lt.mpr z))
/-! the steps -/
theorem k_getF (hx : p.tables.exec = Jvm.exec) {R0 O n d host : String} {index : Nat} (w : (Jvm.Cond.fieldLink own index R0 n d).before a0 Z = true ∨ (Jvm.Cond.fieldLinkNest own index R0 n d host).before a0 Z = true) (via : Via Z R0 O n d) {a : Addr} {v : Value} (F : Fld Z h a O n d v)
    (hg : g.method = m) {rest : List Value} (hs : g.stack = .ref a :: rest) (hd : decode c.code g.pc = .ok (.getfield index, 3)) (k : Run p l e R s m args below meth c Z EL own n0 bk h cells slots { g with pc := g.pc + 3, stack := v :: rest } Q) : Run p l e R s m args below meth c Z EL own n0 bk h cells slots g Q :=
  k_still (fun s' T locs X e1 hZ ho => getF X hx hZ ho w via e1 F hg hs hd) k
theorem k_getS (hx : p.tables.exec = Jvm.exec) {R0 O n d host : String} {index : Nat} (w : (Jvm.Cond.fieldLink own index R0 n d).before a0 Z = true ∨ (Jvm.Cond.fieldLinkNest own index R0 n d host).before a0 Z = true) (via : Via Z R0 O n d) {v : Value} (F : Sta Z h O n d v)
    (hg : g.method = m) (hd : decode c.code g.pc = .ok (.getstatic index, 3)) (k : Run p l e R s m args below meth c Z EL own n0 bk h cells slots { g with pc := g.pc + 3, stack := v :: g.stack } Q) : Run p l e R s m args below meth c Z EL own n0 bk h cells slots g Q :=
  k_still (fun s' T locs X e1 hZ ho => getS2 X hx hZ ho w via e1 F hg hd) k
theorem k_cast' (hx : p.tables.exec = Jvm.exec) {K : String} {index : Nat} (w : (Jvm.Cond.classLink own index K).before a0 Z = true) {a : Addr} (F : Ins Z h a K true) (hg : g.method = m) {rest : List Value} (hs : g.stack = .ref a :: rest) (hd : decode c.code g.pc = .ok (.checkcast index, 3))
    (k : Run p l e R s m args below meth c Z EL own n0 bk h cells slots { g with pc := g.pc + 3 } Q) : Run p l e R s m args below meth c Z EL own n0 bk h cells slots g Q :=
  k_still (fun s' T locs X e1 hZ ho => castY X hx hZ ho w e1 F hg hs hd) k
theorem k_instY (hx : p.tables.exec = Jvm.exec) {K : String} {index : Nat} (w : (Jvm.Cond.classLink own index K).before a0 Z = true) {a : Addr} (F : Ins Z h a K true) (hg : g.method = m) {rest : List Value} (hs : g.stack = .ref a :: rest) (hd : decode c.code g.pc = .ok (.instanceof index, 3))
    (k : Run p l e R s m args below meth c Z EL own n0 bk h cells slots { g with pc := g.pc + 3, stack := .int 1 :: rest } Q) : Run p l e R s m args below meth c Z EL own n0 bk h cells slots g Q :=
  k_still (fun s' T locs X e1 hZ ho => instY X hx hZ ho w e1 F hg hs hd) k
theorem k_instNo (hx : p.tables.exec = Jvm.exec) {K C : String} {index : Nat} (w : (Jvm.Cond.classLink own index K).before a0 Z = true) {a : Addr} (E : Exa Z h a C) (F : ∃ c t, Z.vm.findClass C = some c ∧ Z.vm.findClass K = some t ∧ Z.vm.assignable c t = false) (hg : g.method = m) {rest : List Value} (hs : g.stack = .ref a :: rest) (hd : decode c.code g.pc = .ok (.instanceof index, 3))
    (k : Run p l e R s m args below meth c Z EL own n0 bk h cells slots { g with pc := g.pc + 3, stack := .int 0 :: rest } Q) : Run p l e R s m args below meth c Z EL own n0 bk h cells slots g Q :=
  k_still (fun s' T locs X e1 hZ ho => instNo X hx hZ ho w e1 E F hg hs hd) k
theorem k_initO (hx : p.tables.exec = Jvm.exec) {idx : Nat} (w1 : (Jvm.Cond.methodLink own idx Lib.objectInit).before a0 Z = true) (w2 : (Jvm.Cond.instanceMethod Lib.objectInit).before a0 Z = true) (w3 : (Jvm.Cond.code Lib.objectInit ⟨#[0xb1]⟩ 1 none).before a0 Z = true)
    (hg : g.method = m) (hsize : g.locals.size = c.maxLocals) {a : Addr} {rest : List Value} (hs : g.stack = .ref a :: rest) (hd : decode c.code g.pc = .ok (.invokespecial idx, 3)) (hf : 1 ≤ R.frames) {W : Nat} (hW : 2 * g.monitorRoom + (rest.map fun v => v.category).sum ≤ W) (hl : W + 12 ≤ R.locals)
    (k : Run p l e R s m args below meth c Z EL own n0 bk h cells slots { g with pc := g.pc + 3, stack := rest } Q) : Run p l e R s m args below meth c Z EL own n0 bk h cells slots g Q :=
  k_still (fun s' T locs X e1 hZ ho => initO X hx hZ ho w1 w2 w3 e1 hg hsize hs hd hf hW hl) k
theorem k_ldcI (hx : p.tables.exec = Jvm.exec) {index : Nat} {v : Int32} (w : (Jvm.Cond.constant own index v).before a0 Z = true) (hg : g.method = m) (hd : decode c.code g.pc = .ok (.ldc index, 2))
    (k : Run p l e R s m args below meth c Z EL own n0 bk h cells slots { g with pc := g.pc + 2, stack := .int v :: g.stack } Q) : Run p l e R s m args below meth c Z EL own n0 bk h cells slots g Q :=
  k_still (fun s' T locs X e1 hZ ho => ⟨T, X, e1, fun t => X.ldcInt hx ho (mv hZ w) hg hd t⟩) k
theorem k_ldcWI (hx : p.tables.exec = Jvm.exec) {index : Nat} {v : Int32} (w : (Jvm.Cond.constant own index v).before a0 Z = true) (hg : g.method = m) (hd : decode c.code g.pc = .ok (.ldc_w index, 3))
    (k : Run p l e R s m args below meth c Z EL own n0 bk h cells slots { g with pc := g.pc + 3, stack := .int v :: g.stack } Q) : Run p l e R s m args below meth c Z EL own n0 bk h cells slots g Q :=
  k_still (fun s' T locs X e1 hZ ho => ⟨T, X, e1, fun t => X.ldcWInt hx ho (mv hZ w) hg hd t⟩) k
theorem k_ldc2J (hx : p.tables.exec = Jvm.exec) {index : Nat} {v : Int64} (w : (Jvm.Cond.constantLong own index v).before a0 Z = true) (hg : g.method = m) (hd : decode c.code g.pc = .ok (.ldc2_w index, 3))
    (k : Run p l e R s m args below meth c Z EL own n0 bk h cells slots { g with pc := g.pc + 3, stack := .long v :: g.stack } Q) : Run p l e R s m args below meth c Z EL own n0 bk h cells slots g Q :=
  k_still (fun s' T locs X e1 hZ ho => ⟨T, X, e1, fun t => X.ldc2Long hx ho (mv hZ w) hg hd t⟩) k
theorem k_instNull (hx : p.tables.exec = Jvm.exec) {K : String} {index : Nat} (w : (Jvm.Cond.classLink own index K).before a0 Z = true) (hg : g.method = m) {rest : List Value} (hs : g.stack = .null :: rest) (hd : decode c.code g.pc = .ok (.instanceof index, 3))
    (k : Run p l e R s m args below meth c Z EL own n0 bk h cells slots { g with pc := g.pc + 3, stack := .int 0 :: rest } Q) : Run p l e R s m args below meth c Z EL own n0 bk h cells slots g Q :=
  k_still (fun s' T locs X e1 hZ ho => ⟨T, X, e1, fun t => X.instanceofNull hx hg hs hd t⟩) k
theorem k_newO (hx : p.tables.exec = Jvm.exec) {C : String} {index n : Nat} (w : (Jvm.Cond.classLink own index C).before a0 Z = true) (wi : (Jvm.Cond.instantiable C n).before a0 Z = true) (wz : (Jvm.Cond.initialized C).before a0 Z = true)
    (hg : g.method = m) (hd : decode c.code g.pc = .ok (.new index, 3)) (hc : cells + 1 ≤ R.cells) (hl : slots + n ≤ R.slots)
    (k : ∀ h' a, a = h.size → Old Z n0 h' → Ext h h' → Exa Z h' a C → (∀ {O nm d : String} {ty : FieldType}, RoadKit.Laid Z a0 C O nm d → parseFieldDescriptor d = some ty → Fld Z h' a O nm d (defaultValue ty)) → (∃ cell : Cell, h'[a]? = some cell ∧ cell.vm = .none ∧ cell.monitor = {}) →
      Run p l e R s m args below meth c Z EL own n0 bk h' (cells + 1) (slots + n) { g with pc := g.pc + 3, stack := .ref a :: g.stack } Q) : Run p l e R s m args below meth c Z EL own n0 bk h cells slots g Q :=
  k_grow (F := fun h' g' => g' = { g with pc := g.pc + 3, stack := .ref h.size :: g.stack } ∧ Exa Z h' h.size C ∧ (∀ {O nm d : String} {ty : FieldType}, RoadKit.Laid Z a0 C O nm d → parseFieldDescriptor d = some ty → Fld Z h' h.size O nm d (defaultValue ty)) ∧ ∃ cell : Cell, h'[h.size]? = some cell ∧ cell.vm = .none ∧ cell.monitor = {})
    (fun s' T locs X e1 hZ ho => by
      obtain ⟨T', h', X', e2, E, A, D, N, st⟩ := newO X hx hZ ho w wi wz e1 hg hd hc hl
      exact ⟨T', h', _, X', e2, E, ⟨rfl, A, D, N⟩, st⟩)
    (fun h' g' O E ⟨q, A, D, N⟩ => by subst q; exact k h' _ rfl O E A D N)
theorem k_newP (hx : p.tables.exec = Jvm.exec) {aty : ArrayType} (w : (Jvm.Cond.arrayClass (newarray.typeOf aty)).before a0 Z = true) (hg : g.method = m) (hd : decode c.code g.pc = .ok (.newarray aty, 2)) {n : Int32} {rest : List Value} (hs : g.stack = .int n :: rest)
    (hn : ¬ n < 0) {cap : Nat} (hcap : n.toNatClampNeg ≤ cap) (hb : cap * 8 ≤ 536870912) (hc : cells + 1 ≤ R.cells) (hl : slots + cap ≤ R.slots) (ad : String) (had : "[" ++ (newarray.typeOf aty).toString = ad)
    (k : ∀ h' a kA, a = h.size → Old Z n0 h' → Ext h h' → Arv Z h' a kA (newarray.typeOf aty) n [] (defaultValue (newarray.typeOf aty)) → Exa Z h' a ad → Run p l e R s m args below meth c Z EL own n0 bk h' (cells + 1) (slots + cap) { g with pc := g.pc + 2, stack := .ref a :: rest } Q) : Run p l e R s m args below meth c Z EL own n0 bk h cells slots g Q :=
  k_grow (F := fun h' g' => g' = { g with pc := g.pc + 2, stack := .ref h.size :: rest } ∧ Exa Z h' h.size ad ∧ ∃ kA, Arv Z h' h.size kA (newarray.typeOf aty) n [] (defaultValue (newarray.typeOf aty)))
    (fun s' T locs X e1 hZ ho => by
      obtain ⟨T', h', cA, X', e2, E, A, D, st⟩ := newPE X hx hZ w e1 hg hd hs hn hcap hb hc hl had
      exact ⟨T', h', _, X', e2, E, ⟨rfl, D, cA, Arv.new A hn⟩, st⟩)
    (fun h' g' O E ⟨q, D, kA, A⟩ => by subst q; exact k h' _ kA rfl O E A D)
theorem k_newR (hx : p.tables.exec = Jvm.exec) {C : String} {index : Nat} (w1 : (Jvm.Cond.classLink own index C).before a0 Z = true) (w2 : (Jvm.Cond.arrayOver (.object C)).before a0 Z = true) (hg : g.method = m) (hd : decode c.code g.pc = .ok (.anewarray index, 3)) {n : Int32} {rest : List Value} (hs : g.stack = .int n :: rest)
    (hn : ¬ n < 0) {cap : Nat} (hcap : n.toNatClampNeg ≤ cap) (hb : cap * 8 ≤ 536870912) (hc : cells + 1 ≤ R.cells) (hl : slots + cap ≤ R.slots) (ad : String) (had : "[" ++ (FieldType.object C).toString = ad)
    (k : ∀ h' a kA, a = h.size → Old Z n0 h' → Ext h h' → Arv Z h' a kA (.object C) n [] .null → Exa Z h' a ad → Ovr Z kA C → Run p l e R s m args below meth c Z EL own n0 bk h' (cells + 1) (slots + cap) { g with pc := g.pc + 3, stack := .ref a :: rest } Q) : Run p l e R s m args below meth c Z EL own n0 bk h cells slots g Q :=
  k_grow (F := fun h' g' => g' = { g with pc := g.pc + 3, stack := .ref h.size :: rest } ∧ Exa Z h' h.size ad ∧ ∃ kA, Arv Z h' h.size kA (.object C) n [] .null ∧ Ovr Z kA C)
    (fun s' T locs X e1 hZ ho => by
      obtain ⟨T', h', cA, X', e2, E, A, D, Ov, st⟩ := newRE X hx hZ ho w1 w2 e1 hg hd hs hn hcap hb hc hl had
      exact ⟨T', h', _, X', e2, E, ⟨rfl, D, cA, Arv.new A hn, Ov⟩, st⟩)
    (fun h' g' O E ⟨q, D, kA, A, Ov⟩ => by subst q; exact k h' _ kA rfl O E A D Ov)
theorem k_putF (hx : p.tables.exec = Jvm.exec) {R0 O n d host C : String} {index kk : Nat} {ty : FieldType} (w : (Jvm.Cond.fieldLink own index R0 n d).before a0 Z = true ∨ (Jvm.Cond.fieldLinkNest own index R0 n d host).before a0 Z = true) (via : Via Z R0 O n d)
    {a : Addr} {v old : Value} (F : Fld Z h a O n d old) (E : Exa Z h a C) (L : (Jvm.Cond.lays C O n d).before a0 Z = true ∨ ((Jvm.Cond.laysFinal C O n d).before a0 Z = true ∧ own = O ∧ meth.name = "<init>")) (wi : (Jvm.Cond.instantiable C kk).before a0 Z = true)
    (hty : parseFieldDescriptor d = some ty) (hn : narrow ty v = v) (hf : fits ty v = true) (ge : n0 ≤ a) (nb : ¬ bk a) (hg : g.method = m) {rest : List Value} (hs : g.stack = v :: .ref a :: rest) (hd : decode c.code g.pc = .ok (.putfield index, 3))
    (k : ∀ h', Old Z n0 h' → Wr h h' a (RoadKit.slotOf Z O n d) v → Run p l e R s m args below meth c Z EL own n0 bk h' cells slots { g with pc := g.pc + 3, stack := rest } Q) : Run p l e R s m args below meth c Z EL own n0 bk h cells slots g Q :=
  k_write ge nb (fun s' T locs X e1 hZ ho => putF X hx hZ ho w via e1 F E L wi hty hn hf hg hs hd) k
theorem k_alen (hx : p.tables.exec = Jvm.exec) {a : Addr} {kA : ClassId} {ty : FieldType} {n : Int32} {vs : List Value} {d : Value} (V : Arv Z h a kA ty n vs d) (hg : g.method = m) {rest : List Value} (hs : g.stack = .ref a :: rest) (hd : decode c.code g.pc = .ok (.arraylength, 1))
    (k : Run p l e R s m args below meth c Z EL own n0 bk h cells slots { g with pc := g.pc + 1, stack := .int n :: rest } Q) : Run p l e R s m args below meth c Z EL own n0 bk h cells slots g Q :=
  k_still (fun s' T locs X e1 hZ ho => ⟨T, X, e1, fun t => by
    obtain ⟨cl, A, -, S, q, -⟩ := V
    have := X.arraylength hx (a := a) (cell := cl) (by rw [e1]; exact A.1) (State.isArrayOf_alike hZ.alike A.2.1) hg hs hd t
    rw [len_of S q] at this; exact this⟩) k
theorem k_aget (hx : p.tables.exec = Jvm.exec) {a : Addr} {kA : ClassId} {ty : FieldType} {n j : Int32} {vs : List Value} {d v : Value} {i : Instr} (V : Arv Z h a kA ty n vs d) (hj : ¬ j < 0 ∧ j < n) (hv : vs.getD j.toNatClampNeg d = v)
    (hi : (i = .iaload ∧ ty = .int) ∨ (i = .laload ∧ ty = .long) ∨ (i = .caload ∧ ty = .char) ∨ (i = .baload ∧ ty = .byte) ∨ (i = .aaload ∧ ty.isReference = true)) (hg : g.method = m) {rest : List Value} (hs : g.stack = .int j :: .ref a :: rest) (hd : decode c.code g.pc = .ok (i, 1))
    (k : Run p l e R s m args below meth c Z EL own n0 bk h cells slots { g with pc := g.pc + 1, stack := v :: rest } Q) : Run p l e R s m args below meth c Z EL own n0 bk h cells slots g Q :=
  k_still (fun s' T locs X e1 hZ ho => ⟨T, X, e1, fun t => by
    obtain ⟨cl, A, -, S, q, H, -⟩ := V
    have A1 : T.heap[a]? = some cl := by rw [e1]; exact A.1
    have A2 := State.isArrayOf_alike hZ.alike A.2.1
    have hin := inb_of S hj
    have hv' := Has.at H hin hv
    rcases hi with ⟨rfl, rfl⟩ | ⟨rfl, rfl⟩ | ⟨rfl, rfl⟩ | ⟨rfl, rfl⟩ | ⟨rfl, ht⟩
    · exact X.iaload hx A1 A2 A.2.2 hin hv' hg hs hd t
    · exact X.laload hx A1 A2 A.2.2 hin hv' hg hs hd t
    · exact X.caload hx A1 A2 A.2.2 hin hv' hg hs hd t
    · exact X.baloadBytes hx A1 A2 A.2.2 hin hv' hg hs hd t
    · exact X.aaload hx A1 A2 ht A.2.2 hin hv' hg hs hd t⟩) k
theorem k_stC (hx : p.tables.exec = Jvm.exec) {a : Addr} {kA : ClassId} {n j x : Int32} {vs : List Value} {d : Value} (V : Arv Z h a kA .char n vs d) (hj : ¬ j < 0 ∧ j < n) (i : Nat) (hi : j.toNatClampNeg = i) (hl : i < vs.length) (ge : n0 ≤ a) (nb : ¬ bk a) (hg : g.method = m) {rest : List Value} (hs : g.stack = .int x :: .int j :: .ref a :: rest) (hd : decode c.code g.pc = .ok (.castore, 1))
    (k : ∀ h', Old Z n0 h' → Wr h h' a j.toNatClampNeg (.int (nar .char x)) → Arv Z h' a kA .char n (vs.set i (.int (nar .char x))) d → Run p l e R s m args below meth c Z EL own n0 bk h' cells slots { g with pc := g.pc + 1, stack := rest } Q) : Run p l e R s m args below meth c Z EL own n0 bk h cells slots g Q := by
  obtain ⟨cl, A, q1, S, q3, H, G⟩ := V
  exact k_write ge nb (fun s' T locs X e1 hZ ho => stC X hx hZ e1 A (inb_of S hj) hg hs hd) fun h' O W => k h' O W (Arv.set A q1 S q3 H G (fits_nar_char _) W i hi hl)
theorem k_stB (hx : p.tables.exec = Jvm.exec) {a : Addr} {kA : ClassId} {n j x : Int32} {vs : List Value} {d : Value} (V : Arv Z h a kA .byte n vs d) (hj : ¬ j < 0 ∧ j < n) (i : Nat) (hi : j.toNatClampNeg = i) (hl : i < vs.length) (ge : n0 ≤ a) (nb : ¬ bk a) (hg : g.method = m) {rest : List Value} (hs : g.stack = .int x :: .int j :: .ref a :: rest) (hd : decode c.code g.pc = .ok (.bastore, 1))
    (k : ∀ h', Old Z n0 h' → Wr h h' a j.toNatClampNeg (.int (nar .byte x)) → Arv Z h' a kA .byte n (vs.set i (.int (nar .byte x))) d → Run p l e R s m args below meth c Z EL own n0 bk h' cells slots { g with pc := g.pc + 1, stack := rest } Q) : Run p l e R s m args below meth c Z EL own n0 bk h cells slots g Q := by
  obtain ⟨cl, A, q1, S, q3, H, G⟩ := V
  exact k_write ge nb (fun s' T locs X e1 hZ ho => stB X hx hZ e1 A (inb_of S hj) hg hs hd) fun h' O W => k h' O W (Arv.set A q1 S q3 H G (fits_nar_byte _) W i hi hl)
theorem k_stR (hx : p.tables.exec = Jvm.exec) {a : Addr} {kA : ClassId} {ty : FieldType} {n j : Int32} {v : Value} {vs : List Value} {d : Value} (V : Arv Z h a kA ty n vs d) (hty : ty.isReference = true) (hfv : fits ty v = true) (F : Sto Z h a v) (hj : ¬ j < 0 ∧ j < n) (i : Nat) (hi : j.toNatClampNeg = i) (hl : i < vs.length) (ge : n0 ≤ a) (nb : ¬ bk a) (hg : g.method = m) {rest : List Value} (hs : g.stack = v :: .int j :: .ref a :: rest) (hd : decode c.code g.pc = .ok (.aastore, 1))
    (k : ∀ h', Old Z n0 h' → Wr h h' a j.toNatClampNeg v → Arv Z h' a kA ty n (vs.set i v) d → Run p l e R s m args below meth c Z EL own n0 bk h' cells slots { g with pc := g.pc + 1, stack := rest } Q) : Run p l e R s m args below meth c Z EL own n0 bk h cells slots g Q := by
  obtain ⟨cl, A, q1, S, q3, H, G⟩ := V
  exact k_write ge nb (fun s' T locs X e1 hZ ho => stR X hx hZ e1 A (inb_of S hj) hty F hg hs hd) fun h' O W => k h' O W (Arv.set A q1 S q3 H G hfv W i hi hl)
/-! the ends -/
theorem k_ret0 (hx : p.tables.exec = Jvm.exec) (hlk : meth.locks = false) (hret : meth.sig.returnType = none) {pc : Nat} {Ls : Array Slot} (hd : decode c.code pc = .ok (.return_, 1)) (hc : cells ≤ R.cells) (hs : slots ≤ R.slots) (hQ : Q none h bk) : Run p l e R s m args below meth c Z EL own n0 bk h cells slots (mkF m pc Ls []) Q :=
  k_end hlk (fun _ => rfl) hc hs hQ fun s' T locs fs X hr => X.returnOut hx hret hd hr
theorem k_retN (hx : p.tables.exec = Jvm.exec) (hlk : meth.locks = false) {t : FieldType} (hret : meth.sig.returnType = some t) (ht : t = .boolean ∨ t = .byte ∨ t = .char ∨ t = .short) {pc : Nat} {Ls : Array Slot} {z : Int32} {rest : List Value} (hd : decode c.code pc = .ok (.ireturn, 1)) (hc : cells ≤ R.cells) (hs : slots ≤ R.slots) (hQ : Q (some (.int (nar t z))) h bk) : Run p l e R s m args below meth c Z EL own n0 bk h cells slots (mkF m pc Ls (.int z :: rest)) Q :=
  k_end hlk (fun q => by rw [hret] at q; cases q) hc hs hQ fun s' T locs fs X hr => retN X hx hret ht hd hr
theorem k_ret (hx : p.tables.exec = Jvm.exec) (hlk : meth.locks = false) {t : FieldType} {w : Value} {i : Instr} (hret : meth.sig.returnType = some t) (hn : narrow t w = w)
    (hi : (i = .ireturn ∧ (t = .int ∨ t = .boolean ∨ t = .byte ∨ t = .char ∨ t = .short) ∧ ∃ z, w = .int z) ∨ (i = .lreturn ∧ t = .long ∧ ∃ z, w = .long z) ∨ (i = .dreturn ∧ t = .double ∧ ∃ z, w = .double z) ∨ (i = .freturn ∧ t = .float ∧ ∃ z, w = .float z) ∨ (i = .areturn ∧ t.isReference = true ∧ w.isRef = true)) {pc : Nat} {Ls : Array Slot} {rest : List Value} (hd : decode c.code pc = .ok (i, 1)) (hc : cells ≤ R.cells) (hs : slots ≤ R.slots) (hQ : Q (some w) h bk) : Run p l e R s m args below meth c Z EL own n0 bk h cells slots (mkF m pc Ls (w :: rest)) Q :=
  k_end hlk (fun q => by rw [hret] at q; cases q) hc hs hQ fun s' T locs fs X hr => retOut X hx hret hn hi hd hr
theorem k_retI (hx : p.tables.exec = Jvm.exec) (hlk : meth.locks = false) (hret : meth.sig.returnType = some .int) {pc : Nat} {Ls : Array Slot} {z : Int32} {rest : List Value} (hd : decode c.code pc = .ok (.ireturn, 1)) (hc : cells ≤ R.cells) (hs : slots ≤ R.slots) (hQ : Q (some (.int z)) h bk) : Run p l e R s m args below meth c Z EL own n0 bk h cells slots (mkF m pc Ls (.int z :: rest)) Q :=
  k_ret hx hlk hret rfl (Or.inl ⟨rfl, Or.inl rfl, z, rfl⟩) hd hc hs hQ
theorem k_retL (hx : p.tables.exec = Jvm.exec) (hlk : meth.locks = false) (hret : meth.sig.returnType = some .long) {pc : Nat} {Ls : Array Slot} {z : Int64} {rest : List Value} (hd : decode c.code pc = .ok (.lreturn, 1)) (hc : cells ≤ R.cells) (hs : slots ≤ R.slots) (hQ : Q (some (.long z)) h bk) : Run p l e R s m args below meth c Z EL own n0 bk h cells slots (mkF m pc Ls (.long z :: rest)) Q :=
  k_ret hx hlk hret rfl (Or.inr (Or.inl ⟨rfl, rfl, z, rfl⟩)) hd hc hs hQ
theorem k_retA (hx : p.tables.exec = Jvm.exec) (hlk : meth.locks = false) {t : FieldType} {w : Value} (hret : meth.sig.returnType = some t) (hn : narrow t w = w) (ht : t.isReference = true) (hw : w.isRef = true) {pc : Nat} {Ls : Array Slot} {rest : List Value} (hd : decode c.code pc = .ok (.areturn, 1)) (hc : cells ≤ R.cells) (hs : slots ≤ R.slots) (hQ : Q (some w) h bk) : Run p l e R s m args below meth c Z EL own n0 bk h cells slots (mkF m pc Ls (w :: rest)) Q :=
  k_ret hx hlk hret hn (Or.inr (Or.inr (Or.inr (Or.inr ⟨rfl, ht, hw⟩)))) hd hc hs hQ
/-! the calls -/
/-- what a callee's law gives to a walk that stands at h -/
def Pays (l : Launch) (R : Room) (p : Program) (e : Env) (below : List Frame) (s : State) (args : Array Value) (Z : State) (EL : List (String × Nat)) (n0 : Nat) (bk : Addr → Prop) (h : Heap) (y : MethodName) (len W kc ks : Nat) (as' : Array Value) (Q : Option Value → Heap → (Addr → Prop) → Prop) : Prop :=
  ∀ vm0, Z.Warmed39 vm0 → (∃ a0, EW Z a0 EL) → Old Z n0 h → CHv Z EL vm0 h → (∀ y, Bk Z EL vm0 h y → bk y) →
    BackS l R p e below (s.setVm vm0) args y len W (fun A a => a = as' ∧ A.U.heap = h ∧ A.cells + kc ≤ R.cells ∧ A.slots + ks ≤ R.slots)
      (fun A _ v B => ∃ L bk', Q v B.U.heap bk' ∧ Fr n0 L ∧ Old Z n0 B.U.heap ∧ CHv Z EL B.U.vm B.U.heap ∧ (∀ y, Bk Z EL B.U.vm B.U.heap y → bk' y) ∧ B.locs = A.locs ++ L ∧ B.cells = A.cells + kc ∧ B.slots = A.slots + ks)
theorem at_bk {T : State} {locs : List Loc} {vm0 : Vm} (X : Stand p l e R (s.setVm vm0) m args below meth c T locs cells slots) (hZ : Z.Warmed39 vm0) (w : EW Z a0 EL) (C : CHv Z EL vm0 h) (B : ∀ y, Bk Z EL vm0 h y → bk y) : CHv Z EL T.vm h ∧ ∀ y, Bk Z EL T.vm h y → bk y := by
  have A := CHv.at X hZ w C
  exact ⟨A.1, fun y q => (A.2.2 y q).elim (B y) (fun z => absurd (Array.getElem?_eq_some_iff.mp (Bk.there q).choose_spec).1 (Nat.not_lt.mpr z))⟩
theorem Pays.of_met {y : MethodName} {bytes : ByteArray} {maxL : Nat} {ret : Option FieldType} {rm : Room} {len W : Nat} {as' : Array Value} {Qc : Option Value → Heap → (Addr → Prop) → Prop} (hM : Met l Z EL n0 bk y bytes maxL ret rm as' h Qc [])
    (wc : (Jvm.Cond.code y bytes maxL ret).before a0 Z = true) (wz : (Jvm.Cond.initialized y.cls).before a0 Z = true) (hf : rm.frames + 1 ≤ R.frames) (hl : W + (maxL + 11) + rm.locals ≤ R.locals) :
    Pays l R p e below s args Z EL n0 bk h y len W rm.cells rm.slots as' Qc := fun vm0 hZ ⟨a1, hEL⟩ hO H hB =>
  BackS.of_freeW (bytes := bytes) (maxL := maxL) (ret := ret) (E := fun _ _ o t L k n => k = rm.cells ∧ n = rm.slots ∧ ∃ v bk', o = .returned v ∧ Qc v t.heap bk' ∧ Fr n0 L ∧ Old Z n0 t.heap ∧ CHv Z EL t.vm t.heap ∧ ∀ y, Bk Z EL t.vm t.heap y → bk' y) hM hf hl
    (fun m meth c A a Y hp => have hU : Z.Warmed39 A.U.vm := wtrans (s := s.setVm vm0) hZ Y.warmed
      ⟨by show (Jvm.Cond.and _ .tt).before a A.U = true; rw [Jvm.Cond.before_and, mv hU wc]; rfl, mv hU wc, mv hU wz, hp.2.2.1, hp.2.2.2⟩)
    (fun m meth c A a g mk Y hp => have r := at_bk Y hZ hEL H hB; ⟨hp.1, wtrans (s := s.setVm vm0) hZ Y.warmed, hp.2.1, r.1, r.2⟩) (fun _ _ _ _ _ _ _ _ _ => trivial)
    (fun _ _ _ _ ⟨v, L, bk', h1, h2, h3⟩ => ⟨L, _, _, h3, rfl, rfl, v, bk', h1, h2⟩)
    (fun m meth c A a g mk v t L k n Y hp _ _ ⟨e1, e2, v', bk', e3, r1, r2, r3, r4, r5⟩ => by
      cases e3; subst e1 e2
      exact ⟨L, bk', r1, r2, r3, r4, r5, rfl, rfl, rfl⟩)
/-- a library law that moves nothing -/
theorem Pays.of_same {y : MethodName} {len W : Nat} {as' : Array Value} {v0 : Option Value} (hK : ∀ s' : State, Z.Warmed39 s'.vm → Back l R p e below s' args y len W (fun P a => a = as' ∧ P.U.heap = h ∧ P.cells + 0 ≤ R.cells ∧ P.slots + 0 ≤ R.slots) (fun P _ v B => ∃ L, (v = v0 ∧ L = [] ∧ B.U.heap = h) ∧ B.locs = P.locs ++ L ∧ B.cells = P.cells + 0 ∧ B.slots = P.slots + 0)) :
    Pays l R p e below s args Z EL n0 bk h y len W 0 0 as' (fun v h' bk' => v = v0 ∧ h = h' ∧ bk = bk') := fun vm0 hZ ⟨a1, hEL⟩ hO H hB => by
  intro m meth c A g ig mk a X hg hsize hdg hW hn hp
  obtain ⟨v, B, X', ⟨L, ⟨q1, q2, q3⟩, q4, q5, q6⟩, hsteps⟩ := hK (s.setVm vm0) hZ m meth c A g ig mk a X hg hsize hdg hW hn hp
  have r := at_bk X' hZ hEL H hB
  refine ⟨v, B, X'.retabled X'.warmed.wide, X'.warmed.since _, by rw [hp.2.1, q3]; exact Nat.le_refl _, ⟨L, bk, ⟨q1, q3.symm, rfl⟩, by rw [q2]; exact Fr.nil _, by rw [q3]; exact hO, by rw [q3]; exact r.1, by rw [q3]; exact r.2, q4, q5, q6⟩, hsteps⟩
theorem ne_of_keep {Z : State} {EL : List (String × Nat)} {vm : Vm} {h h' : Heap} {x : Addr} (K : Keep h h' [x]) (C : CHv Z EL vm h) (nb : ¬ Bk Z EL vm h x) : CHv Z EL vm h' ∧ ∀ y, Bk Z EL vm h' y → Bk Z EL vm h y := C.keepStep K (sfS nb sf0)
/-- a library law that writes one object of ours -/
theorem Pays.of_keep {y : MethodName} {len W kc ks : Nat} {as' : Array Value} {x : Addr} {Qk : Option Value → Heap → List Loc → Prop} (nb : ¬ bk x) (ge : n0 ≤ x) (hq : ∀ v h' L, Qk v h' L → Fr n0 L ∧ Keep h h' [x])
    (hK : ∀ s' : State, Z.Warmed39 s'.vm → Back l R p e below s' args y len W (fun P a => a = as' ∧ P.U.heap = h ∧ P.cells + kc ≤ R.cells ∧ P.slots + ks ≤ R.slots) (fun P _ v B => ∃ L, Qk v B.U.heap L ∧ B.locs = P.locs ++ L ∧ B.cells = P.cells + kc ∧ B.slots = P.slots + ks)) :
    Pays l R p e below s args Z EL n0 bk h y len W kc ks as' (fun v h' bk' => (∃ L, Qk v h' L) ∧ bk = bk') := fun vm0 hZ ⟨a1, hEL⟩ hO H hB => by
  intro m meth c A g ig mk a X hg hsize hdg hW hn hp
  obtain ⟨v, B, X', ⟨L, q1, q4, q5, q6⟩, hsteps⟩ := hK (s.setVm vm0) hZ m meth c A g ig mk a X hg hsize hdg hW hn hp
  obtain ⟨N, K⟩ := hq _ _ _ q1
  have r := at_bk X' hZ hEL H hB
  have r' := ne_of_keep K r.1 (fun q => nb (r.2 x q))
  refine ⟨v, B, X'.retabled X'.warmed.wide, X'.warmed.since _, by rw [hp.2.1]; exact K.1, ⟨L, bk, ⟨⟨L, q1⟩, rfl⟩, N, hO.keep K (allS ge all0), r'.1, fun z q => r.2 z (r'.2 z q), q4, q5, q6⟩, hsteps⟩
/-- behind a call -/
theorem k_back {vm0 : Vm} {T : State} {locs : List Loc} {len kc ks : Nat} {rest : List Value} {Qc : Option Value → Heap → (Addr → Prop) → Prop} (P : Pos p l e R s m args below meth c Z EL own n0 bk h cells slots vm0 T locs)
    (H : ∃ (v : Option Value) (vm₁ : Vm) (B : Pt), (s.setVm vm0).WarmedH vm₁ ∧ Stand p l e R ((s.setVm vm0).setVm B.U.vm) m args below meth c B.U B.locs B.cells B.slots ∧ (s.setVm vm0).Since B.U.vm B.U.heap.size ∧ T.heap.size ≤ B.U.heap.size ∧
      (∃ L bk', Qc v B.U.heap bk' ∧ Fr n0 L ∧ Old Z n0 B.U.heap ∧ CHv Z EL B.U.vm B.U.heap ∧ (∀ y, Bk Z EL B.U.vm B.U.heap y → bk' y) ∧ B.locs = locs ++ L ∧ B.cells = cells + kc ∧ B.slots = slots + ks) ∧ Steps p.tables e below (T.setTop g) (B.U.setTop { g with pc := g.pc + len, stack := v.toList ++ rest }))
    (k : ∀ v h' bk', Old Z n0 h' → h.size ≤ h'.size → Qc v h' bk' → Run p l e R s m args below meth c Z EL own n0 bk' h' (cells + kc) (slots + ks) { g with pc := g.pc + len, stack := v.toList ++ rest } Q) :
    ∃ U o, Steps p.tables e below (T.setTop g) U ∧ U.status = .running ∧ Ended U below o ∧ EndW s R Z EL n0 Q o U := by
  obtain ⟨X, e1, ⟨k0, hS, hk⟩, hZ, ho, N, O, C, B, hE⟩ := P
  obtain ⟨v, vm1, ⟨TB, LB, cB, sB⟩, -, X', hS', hgr, ⟨L, bk', q1, q2, q3, q4, q5, q6, q7, q8⟩, st⟩ := H
  dsimp only [Pt.U, Pt.locs, Pt.cells, Pt.slots] at X' hS' hgr q1 q3 q4 q5 q6 q7 q8 st
  subst q6 q7 q8
  obtain ⟨r1, r2, r3, r4⟩ := rebS hS (by rw [← e1] at hk; exact hk) X' hS' hgr hZ ho
  obtain ⟨U, o, h1, r⟩ := k v TB.heap bk' q3 (by rw [← e1]; exact hgr) q1 TB.vm TB _ ⟨r1, rfl, ⟨_, r2, Nat.le_refl _⟩, r3, r4, Fr.app N q2, q3, q4, q5, hE⟩
  exact ⟨U, o, st.trans h1, r⟩
theorem k_callS (hx : p.tables.exec = Jvm.exec) {index : Nat} {y : MethodName} {bytes : ByteArray} {maxL : Nat} {ret : Option FieldType} (w1 : (Jvm.Cond.methodLink own index y).before a0 Z = true) (w2 : (Jvm.Cond.static y).before a0 Z = true) (w3 : (Jvm.Cond.initialized y.cls).before a0 Z = true) (w4 : (Jvm.Cond.code y bytes maxL ret).before a0 Z = true)
    (hy : y.cls ≠ "java/lang/invoke/MethodHandle" ∧ y.cls ≠ "java/lang/invoke/VarHandle") {W kc ks : Nat} {Qc : Option Value → Heap → (Addr → Prop) → Prop} {argsL rest : List Value} (hK : Pays l R p e below s args Z EL n0 bk h y 3 W kc ks argsL.toArray Qc)
    (hg : g.method = m) (hsize : g.locals.size = c.maxLocals) (hlen : ∀ sig, parseMethodDescriptor y.desc = some sig → argsL.length = sig.parameters.length) (hstack : g.stack = argsL.reverse ++ rest) (hW : 2 * g.monitorRoom + (rest.map fun v => v.category).sum ≤ W) (hd : decode c.code g.pc = .ok (.invokestatic index, 3)) (hc : cells + kc ≤ R.cells) (hs : slots + ks ≤ R.slots)
    (k : ∀ v h' bk', Old Z n0 h' → h.size ≤ h'.size → Qc v h' bk' → Run p l e R s m args below meth c Z EL own n0 bk' h' (cells + kc) (slots + ks) { g with pc := g.pc + 3, stack := v.toList ++ rest } Q) : Run p l e R s m args below meth c Z EL own n0 bk h cells slots g Q := fun vm0 T locs P => by
  have P' := P
  obtain ⟨X, e1, hS, hZ, ho, N, O, C, B, hE⟩ := P'
  exact k_back P (callSS X hx ho (mv hZ w1) (mv hZ w2) (mv hZ w3) (mv hZ w4) hy (hK vm0 hZ hE O C B) hg hsize hlen hstack hW hd fun _ _ => ⟨rfl, e1, hc, hs⟩) k
theorem k_callI (hx : p.tables.exec = Jvm.exec) {index : Nat} {y : MethodName} {bytes : ByteArray} {maxL : Nat} (hy1 : y.name = "<init>") (w1 : (Jvm.Cond.methodLink own index y).before a0 Z = true) (w2 : (Jvm.Cond.instanceMethod y).before a0 Z = true) (w4 : (Jvm.Cond.code y bytes maxL none).before a0 Z = true)
    (hy : y.cls ≠ "java/lang/invoke/MethodHandle" ∧ y.cls ≠ "java/lang/invoke/VarHandle") {W kc ks : Nat} {Qc : Option Value → Heap → (Addr → Prop) → Prop} {a : Addr} {argsL rest : List Value} (hK : Pays l R p e below s args Z EL n0 bk h y 3 W kc ks (.ref a :: argsL).toArray Qc)
    (hg : g.method = m) (hsize : g.locals.size = c.maxLocals) (hlen : ∀ sig, parseMethodDescriptor y.desc = some sig → argsL.length = sig.parameters.length) (hstack : g.stack = argsL.reverse ++ .ref a :: rest) (hW : 2 * g.monitorRoom + (rest.map fun v => v.category).sum ≤ W) (hd : decode c.code g.pc = .ok (.invokespecial index, 3)) (hc : cells + kc ≤ R.cells) (hs : slots + ks ≤ R.slots)
    (k : ∀ v h' bk', Old Z n0 h' → h.size ≤ h'.size → Qc v h' bk' → Run p l e R s m args below meth c Z EL own n0 bk' h' (cells + kc) (slots + ks) { g with pc := g.pc + 3, stack := v.toList ++ rest } Q) : Run p l e R s m args below meth c Z EL own n0 bk h cells slots g Q := fun vm0 T locs P => by
  have P' := P
  obtain ⟨X, e1, hS, hZ, ho, N, O, C, B, hE⟩ := P'
  exact k_back P (X.specialBackS hx hy1 ho (mv hZ w1) (mv hZ w2) (mv hZ w4) hy (hK vm0 hZ hE O C B) hg hsize (Steps.refl _) hlen hstack hW hd fun _ _ => ⟨rfl, e1, hc, hs⟩) k
theorem k_callV (hx : p.tables.exec = Jvm.exec) {index : Nat} {C : String} {y z : MethodName} (w1 : (Jvm.Cond.methodLink own index y).before a0 Z = true) (w2 : (Jvm.Cond.declares y).before a0 Z = true) (nf : ∀ s' : State, Z.Warmed39 s'.vm → NotFace s' y) (w3 : (Jvm.Cond.selects C y z).before a0 Z = true) (w4 : (Jvm.Cond.instanceMethod z).before a0 Z = true)
    (hy : y.cls ≠ "java/lang/invoke/MethodHandle" ∧ y.cls ≠ "java/lang/invoke/VarHandle") {W kc ks : Nat} {Qc : Option Value → Heap → (Addr → Prop) → Prop} {a : Addr} {argsL rest : List Value} (hK : Pays l R p e below s args Z EL n0 bk h z 3 W kc ks (.ref a :: argsL).toArray Qc) (E : Exa Z h a C)
    (hg : g.method = m) (hsize : g.locals.size = c.maxLocals) (hlen : ∀ sig, parseMethodDescriptor y.desc = some sig → argsL.length = sig.parameters.length) (hstack : g.stack = argsL.reverse ++ .ref a :: rest) (hW : 2 * g.monitorRoom + (rest.map fun v => v.category).sum ≤ W) (hd : decode c.code g.pc = .ok (.invokevirtual index, 3)) (hc : cells + kc ≤ R.cells) (hs : slots + ks ≤ R.slots)
    (k : ∀ v h' bk', Old Z n0 h' → h.size ≤ h'.size → Qc v h' bk' → Run p l e R s m args below meth c Z EL own n0 bk' h' (cells + kc) (slots + ks) { g with pc := g.pc + 3, stack := v.toList ++ rest } Q) : Run p l e R s m args below meth c Z EL own n0 bk h cells slots g Q := fun vm0 T locs P => by
  have P' := P
  obtain ⟨X, e1, hS, hZ, ho, N, O, C, B, hE⟩ := P'
  obtain ⟨cq, kq, qa, qb, qc⟩ := isOf (s := s.setVm vm0) hZ e1 E
  exact k_back P (X.virtualBackS hx ho (mv hZ w1) (mv hZ w2) (nf _ hZ) (mv hZ w3) (mv hZ w4) hy (hK vm0 hZ hE O C B) qa qc hg hsize (Steps.refl _) hlen hstack hW hd fun _ _ => ⟨rfl, e1, hc, hs⟩) k
/-- invokevirtual of a method that a class above the named one declares -/
theorem k_callU (hx : p.tables.exec = Jvm.exec) {index : Nat} {C owner : String} {y z : MethodName} (w1 : (Jvm.Cond.methodLink own index y).before a0 Z = true) (w2 : (Jvm.Cond.sameMethod y.cls owner y.name y.desc).before a0 Z = true) (w5 : (Jvm.Cond.declares ⟨owner, y.name, y.desc⟩).before a0 Z = true) (how : owner ≠ "java/lang/invoke/MethodHandle" ∧ owner ≠ "java/lang/invoke/VarHandle") (w3 : (Jvm.Cond.selects C y z).before a0 Z = true) (w4 : (Jvm.Cond.instanceMethod z).before a0 Z = true)
    {W kc ks : Nat} {Qc : Option Value → Heap → (Addr → Prop) → Prop} {a : Addr} {argsL rest : List Value} (hK : Pays l R p e below s args Z EL n0 bk h z 3 W kc ks (.ref a :: argsL).toArray Qc) (E : Exa Z h a C)
    (hg : g.method = m) (hsize : g.locals.size = c.maxLocals) (hlen : ∀ sig, parseMethodDescriptor y.desc = some sig → argsL.length = sig.parameters.length) (hstack : g.stack = argsL.reverse ++ .ref a :: rest) (hW : 2 * g.monitorRoom + (rest.map fun v => v.category).sum ≤ W) (hd : decode c.code g.pc = .ok (.invokevirtual index, 3)) (hc : cells + kc ≤ R.cells) (hs : slots + ks ≤ R.slots)
    (k : ∀ v h' bk', Old Z n0 h' → h.size ≤ h'.size → Qc v h' bk' → Run p l e R s m args below meth c Z EL own n0 bk' h' (cells + kc) (slots + ks) { g with pc := g.pc + 3, stack := v.toList ++ rest } Q) : Run p l e R s m args below meth c Z EL own n0 bk h cells slots g Q := fun vm0 T locs P => by
  have P' := P
  obtain ⟨X, e1, hS, hZ, ho, N, O, C, B, hE⟩ := P'
  obtain ⟨cq, kq, qa, qb, qc⟩ := isOf (s := s.setVm vm0) hZ e1 E
  exact k_back P (X.virtualBackUpS hx ho (mv hZ w1) (mv hZ w2) (mv hZ w5) how (mv hZ w3) (mv hZ w4) (hK vm0 hZ hE O C B) qa qc hg hsize (Steps.refl _) hlen hstack hW hd fun _ _ => ⟨rfl, e1, hc, hs⟩) k
theorem decl_of {y : MethodName} {bytes : ByteArray} {maxL : Nat} {ret : Option FieldType} (w2 : (Jvm.Cond.instanceMethod y).before a0 Z = true) (w4 : (Jvm.Cond.code y bytes maxL ret).before a0 Z = true) : (Jvm.Cond.declares y).before a0 Z = true := by
  obtain ⟨mk, methM, hnamed, hmethM, hst, -⟩ := Jvm.Cond.instanceMethod_spec w2
  obtain ⟨m2, cM, q1, -, -, -, -, -, -, hsig⟩ := Jvm.Cond.code_spec hnamed w4
  cases hmethM.symm.trans q1
  simp [Jvm.Cond.before, Jvm.Cond.holds, Jvm.Cond.value, hnamed, hmethM, hst, hsig]
theorem nf_of' {s' : State} {C : String} {y y' : MethodName} (q : y'.cls = y.cls) (hZ : Z.Warmed39 s'.vm) (w : (Jvm.Cond.selects C y' y').before a0 Z = true) : NotFace s' y := fun r0 h0 => by
  obtain ⟨c2, r2, m2, q1, q2, q3, q4, kP, hkP, hkPi⟩ := Jvm.Cond.selects_spec (mv (args := #[]) hZ w)
  have e1 := findClass_of_methodNamed h0
  have e2 := findClass_of_methodNamed q3
  rw [q] at e2
  rw [show r0.cls = m2.cls from Option.some.inj (e1.symm.trans e2)]
  exact ⟨kP, hkP, hkPi⟩
theorem nf_of {C : String} {y y' : MethodName} (q : y'.cls = y.cls) (w : (Jvm.Cond.selects C y' y').before a0 Z = true) : NotFace Z y := nf_of' q (State.Warmed39.refl Z) w
theorem same_of {y : MethodName} (hy : y.cls ≠ "java/lang/invoke/MethodHandle" ∧ y.cls ≠ "java/lang/invoke/VarHandle") (w : (Jvm.Cond.declares y).before a0 Z = true) (nf : NotFace Z y) : (Jvm.Cond.sameMethod y.cls y.cls y.name y.desc).before a0 Z = true := by
  obtain ⟨mk, methM, hnamed, hmethM, -, -⟩ := Jvm.Cond.declares_spec w
  obtain ⟨kr, hk, hi⟩ := nf mk hnamed
  have e1 := State.methodFound?_of_named hnamed hy
  have e2 := findClass_of_methodNamed hnamed
  have e3 : Z.methodNamed? ⟨y.cls, y.name, y.desc⟩ = some mk := hnamed
  simp [Jvm.Cond.before, Jvm.Cond.holds, Jvm.Cond.value, e1, e2, e3, hk, hi]
/-- invokespecial of a method of the class above -/
theorem k_callX (hx : p.tables.exec = Jvm.exec) {index : Nat} {K : String} {y : MethodName} {bytes : ByteArray} {maxL : Nat} {ret : Option FieldType} (w1 : (Jvm.Cond.methodLink own index y).before a0 Z = true) (w2 : (Jvm.Cond.sameMethod y.cls y.cls y.name y.desc).before a0 Z = true) (w3 : (Jvm.Cond.instanceMethod y).before a0 Z = true) (w4 : (Jvm.Cond.superclass own y.cls).before a0 Z = true) (hn : y.name ≠ "<init>") (wc : (Jvm.Cond.code y bytes maxL ret).before a0 Z = true)
    {W kc ks : Nat} {Qc : Option Value → Heap → (Addr → Prop) → Prop} {a : Addr} {argsL rest : List Value} (hK : Pays l R p e below s args Z EL n0 bk h y 3 W kc ks (.ref a :: argsL).toArray Qc) (E : Ins Z h a K true)
    (hg : g.method = m) (hsize : g.locals.size = c.maxLocals) (hlen : ∀ sig, parseMethodDescriptor y.desc = some sig → argsL.length = sig.parameters.length) (hstack : g.stack = argsL.reverse ++ .ref a :: rest) (hW : 2 * g.monitorRoom + (rest.map fun v => v.category).sum ≤ W) (hd : decode c.code g.pc = .ok (.invokespecial index, 3)) (hc : cells + kc ≤ R.cells) (hs : slots + ks ≤ R.slots)
    (k : ∀ v h' bk', Old Z n0 h' → h.size ≤ h'.size → Qc v h' bk' → Run p l e R s m args below meth c Z EL own n0 bk' h' (cells + kc) (slots + ks) { g with pc := g.pc + 3, stack := v.toList ++ rest } Q) : Run p l e R s m args below meth c Z EL own n0 bk h cells slots g Q := fun vm0 T locs P => by
  have P' := P
  obtain ⟨X, e1, hS, hZ, ho, N, O, C, B, hE⟩ := P'
  exact k_back P (superBackS X hx hZ ho w1 w2 w3 w4 hn (hK vm0 hZ hE O C B) e1 E hg hsize wc hlen hstack hW hd fun _ _ => ⟨rfl, e1, hc, hs⟩) k
/-- invokeinterface -/
theorem k_face (hx : p.tables.exec = Jvm.exec) {index count : Nat} {C : String} {y z : MethodName} (w1 : (Jvm.Cond.methodLink own index y).before a0 Z = true) (w2 : (Jvm.Cond.declares y).before a0 Z = true) (w3 : (Jvm.Cond.interfaceMethod y.cls y.cls y.name y.desc).before a0 Z = true) (w4 : (Jvm.Cond.selects C y z).before a0 Z = true) (w5 : (Jvm.Cond.instanceMethod z).before a0 Z = true) (w6 : (Jvm.Cond.publicMethod z).before a0 Z = true) (w7 : (Jvm.Cond.unhidden C y.name y.desc).before a0 Z = true) (w8 : (Jvm.Cond.castable C y.cls).before a0 Z = true)
    (hfa : ((Jvm.Cond.interfaceMethod y.cls y.cls y.name y.desc).onTables && (Jvm.Cond.interfaceMethod y.cls y.cls y.name y.desc).keepsFace) = true) (hy : y.cls ≠ "java/lang/invoke/MethodHandle" ∧ y.cls ≠ "java/lang/invoke/VarHandle") {W kc ks : Nat} {Qc : Option Value → Heap → (Addr → Prop) → Prop} {a : Addr} {argsL rest : List Value} (hK : Pays l R p e below s args Z EL n0 bk h z 5 W kc ks (.ref a :: argsL).toArray Qc) (E : Exa Z h a C)
    (hg : g.method = m) (hsize : g.locals.size = c.maxLocals) (hlen : ∀ sig, parseMethodDescriptor y.desc = some sig → argsL.length = sig.parameters.length) (hstack : g.stack = argsL.reverse ++ .ref a :: rest) (hW : 2 * g.monitorRoom + (rest.map fun v => v.category).sum ≤ W) (hd : decode c.code g.pc = .ok (.invokeinterface index count, 5)) (hc : cells + kc ≤ R.cells) (hs : slots + ks ≤ R.slots)
    (k : ∀ v h' bk', Old Z n0 h' → h.size ≤ h'.size → Qc v h' bk' → Run p l e R s m args below meth c Z EL own n0 bk' h' (cells + kc) (slots + ks) { g with pc := g.pc + 5, stack := v.toList ++ rest } Q) : Run p l e R s m args below meth c Z EL own n0 bk h cells slots g Q := fun vm0 T locs P => by
  have P' := P
  obtain ⟨X, e1, hS, hZ, ho, N, O, C, B, hE⟩ := P'
  obtain ⟨cq, kq, qa, qb, qc⟩ := isOf (s := s.setVm vm0) hZ e1 E
  exact k_back P (X.interfaceBackS hx ho (mv hZ w1) (mv hZ w2) (mv hZ w3 hfa) (mv hZ w4) (mv hZ w5) (mv hZ w6) (mv hZ w7) (mv hZ w8) hy (hK vm0 hZ hE O C B) qa qb qc hg hsize (Steps.refl _) hlen hstack hW hd fun _ _ => ⟨rfl, e1, hc, hs⟩) k
/-! String constants -/
theorem k_ldcO (hx : p.tables.exec = Jvm.exec) {text : String} {index : Nat} (w : (Jvm.Cond.stringLink own index text).before a0 Z = true) (wS : ∀ a ∈ Bundle.stringAtoms, a.before a0 Z = true) (hg : g.method = m) (hd : decode c.code g.pc = .ok (.ldc index, 2)) {n : Nat} (hn : 4 * text.toList.length ≤ n) (hbig : n ≤ 536870912) (hc : cells + 2 ≤ R.cells) (hl : slots + (n + 4) ≤ R.slots)
    (k : ∀ h' a bk', Old Z n0 h' → Ext h h' → (∀ y, bk' y → bk y ∨ (h.size ≤ y ∧ y < h'.size)) → Run p l e R s m args below meth c Z EL own n0 bk' h' (cells + 2) (slots + (n + 4)) { g with pc := g.pc + 2, stack := .ref a :: g.stack } Q) : Run p l e R s m args below meth c Z EL own n0 bk h cells slots g Q := fun vm0 T locs P => by
  obtain ⟨X, e1, ⟨k0, hS, hk⟩, hZ, ho, N, O, C, B, a1, hE⟩ := P
  obtain ⟨a, T', h', k1, X', e2, E, hS', hk', hZ', ho', hC, -, st⟩ := ldcOH X hx hZ ho w wS e1 hS hk hE C hg hd hn hbig hc hl
  obtain ⟨U, o, h1, r⟩ := k h' a (fun y => bk y ∨ (h.size ≤ y ∧ y < h'.size)) (O.ext E) E (fun _ q => q) T'.vm T' locs ⟨X', e2, ⟨k1, hS', hk'⟩, hZ', ho', N, O.ext E, hC.1, fun y q => (hC.2.2 y q).imp (B y) fun r => ⟨r, (Array.getElem?_eq_some_iff.mp (Bk.there q).choose_spec).1⟩, a1, hE⟩
  exact ⟨U, o, st _ h1, r⟩
/-- where no constant is read -/
theorem k_ldc0 (hEL : EL = []) (hx : p.tables.exec = Jvm.exec) {text : String} {index : Nat} (w : (Jvm.Cond.stringLink own index text).before a0 Z = true) (wS : ∀ a ∈ Bundle.stringAtoms, a.before a0 Z = true) (hg : g.method = m) (hd : decode c.code g.pc = .ok (.ldc index, 2)) {n : Nat} (hn : 4 * text.toList.length ≤ n) (hbig : n ≤ 536870912) (hc : cells + 2 ≤ R.cells) (hl : slots + (n + 4) ≤ R.slots)
    (k : ∀ h' a, Old Z n0 h' → Ext h h' → Run p l e R s m args below meth c Z EL own n0 bk h' (cells + 2) (slots + (n + 4)) { g with pc := g.pc + 2, stack := .ref a :: g.stack } Q) : Run p l e R s m args below meth c Z EL own n0 bk h cells slots g Q := fun vm0 T locs P => by
  subst hEL
  obtain ⟨X, e1, ⟨k0, hS, hk⟩, hZ, ho, N, O, C, B, a1, hE⟩ := P
  obtain ⟨a, T', h', k1, X', e2, E, hS', hk', hZ', ho', hC, -, st⟩ := ldcOH X hx hZ ho w wS e1 hS hk hE C hg hd hn hbig hc hl
  obtain ⟨U, o, h1, r⟩ := k h' a (O.ext E) E T'.vm T' locs ⟨X', e2, ⟨k1, hS', hk'⟩, hZ', ho', N, O.ext E, hC.1, (fun y q => by obtain ⟨p, hp, -⟩ := q; cases hp), a1, hE⟩
  exact ⟨U, o, st _ h1, r⟩
/-- a constant that is read -/
theorem k_ldcC (hx : p.tables.exec = Jvm.exec) {text : String} {index : Nat} (w : (Jvm.Cond.stringLink own index text).before a0 Z = true) (wS : ∀ a ∈ Bundle.stringAtoms, a.before a0 Z = true) (hmem : (own, index) ∈ EL) {vs : List Value} {z : Int32} (ht : (∀ c ∈ text.toList, c.toNat < 256) ∧ text.toList.map (fun c => Value.int (Jvm.Lit.byteI c.toNat.toUInt16)) = vs) (hz : ¬ z < 0) (hzl : z.toNatClampNeg = vs.length)
    (hg : g.method = m) (hd : decode c.code g.pc = .ok (.ldc index, 2)) {n : Nat} (hn : 4 * text.toList.length ≤ n) (hbig : n ≤ 536870912) (hc : cells + 2 ≤ R.cells) (hl : slots + (n + 4) ≤ R.slots)
    (k : ∀ h' a b kb bk', Old Z n0 h' → Ext h h' → (∀ y, bk' y → bk y ∨ (h.size ≤ y ∧ y < h'.size)) → Exa Z h' a "java/lang/String" → Fld Z h' a "java/lang/String" "coder" "B" (.int 0) → Fld Z h' a "java/lang/String" "value" "[B" (.ref b) → Arv Z h' b kb .byte z vs (.int 0) → (∀ x, x < h.size → ¬ bk x → x ≠ a ∧ x ≠ b) →
      Run p l e R s m args below meth c Z EL own n0 bk' h' (cells + 2) (slots + (n + 4)) { g with pc := g.pc + 2, stack := .ref a :: g.stack } Q) : Run p l e R s m args below meth c Z EL own n0 bk h cells slots g Q := fun vm0 T locs P => by
  obtain ⟨X, e1, ⟨k0, hS, hk⟩, hZ, ho, N, O, C, B, a1, hE⟩ := P
  obtain ⟨a, T', h', k1, b, kb, X', e2, E, hS', hk', hZ', ho', r1, r2, r3, r4, -, -, hC, -, r5, st⟩ := ldcCH X hx hZ ho w wS e1 hS hk hE hmem C ht hz hzl hg hd hn hbig hc hl
  obtain ⟨U, o, h1, r⟩ := k h' a b kb (fun y => bk y ∨ (h.size ≤ y ∧ y < h'.size)) (O.ext E) E (fun _ q => q) r1 r2 r3 r4 (fun x lt nb => r5 x fun q => (hC.2.2 x q).elim (fun q => nb (B x q)) fun q => absurd lt (Nat.not_lt.mpr q)) T'.vm T' locs ⟨X', e2, ⟨k1, hS', hk'⟩, hZ', ho', N, O.ext E, hC.1, fun y q => (hC.2.2 y q).imp (B y) fun r => ⟨r, (Array.getElem?_eq_some_iff.mp (Bk.there q).choose_spec).1⟩, a1, hE⟩
  exact ⟨U, o, st _ h1, r⟩
/-! two natives -/
theorem k_cpA (hx : p.tables.exec = Jvm.exec) {index : Nat} (w1 : (Jvm.Cond.methodLink own index Jvm.Stand.acN).before a0 Z = true) (w2 : (Jvm.Cond.native Jvm.Stand.acN).before a0 Z = true) (w3 : (Jvm.Cond.static Jvm.Stand.acN).before a0 Z = true) (w4 : (Jvm.Cond.initialized "java/lang/System").before a0 Z = true)
    {a b : Addr} {ka kb : ClassId} {ty ty' : FieldType} {z z' sp dp nn : Int32} {vs vd us : List Value} {dv dd : Value} (A : Arv Z h a ka ty z vs dv) (B : Arv Z h b kb ty' z' vd dd) (hty : (ty = ty' ∧ refKind ty = false) ∨ (refKind ty = true ∧ refKind ty' = true ∧ StoL Z h b us))
    (h1 : ¬ sp < 0) (h2 : ¬ dp < 0) (h3 : ¬ nn < 0) (h4 : sp.toNatClampNeg + nn.toNatClampNeg ≤ z.toNatClampNeg) (h5 : dp.toNatClampNeg + nn.toNatClampNeg ≤ z'.toNatClampNeg) (hus : us = (List.range nn.toNatClampNeg).map fun i => vs.getD (sp.toNatClampNeg + i) dv) (hvl : dp.toNatClampNeg + nn.toNatClampNeg ≤ vd.length) (ge : n0 ≤ b) (nb : ¬ bk b)
    (hg : g.method = m) (hsize : g.locals.size = c.maxLocals) {rest : List Value} (hs : g.stack = .int nn :: .int dp :: .ref b :: .int sp :: .ref a :: rest) (hd : decode c.code g.pc = .ok (.invokestatic index, 3)) (hf : 1 ≤ R.frames) {W : Nat} (hW : 2 * g.monitorRoom + (rest.map fun v => v.category).sum ≤ W) (hlo : W + (nativeFrameWords "java/lang/System" "arraycopy" 5 + 11) ≤ R.locals)
    (k : ∀ h', Old Z n0 h' → Keep h h' [b] → Arv Z h' b kb ty' z' (vd.take dp.toNatClampNeg ++ us ++ vd.drop (dp.toNatClampNeg + nn.toNatClampNeg)) dd → Run p l e R s m args below meth c Z EL own n0 bk h' cells slots { g with pc := g.pc + 3, stack := rest } Q) : Run p l e R s m args below meth c Z EL own n0 bk h cells slots g Q := fun vm0 T locs P => by
  obtain ⟨X, e1, ⟨k0, hS, hk⟩, hZ, ho, N, O, C, Bb, hE⟩ := P
  obtain ⟨T', h', L, X', e2, N', K, V, st⟩ := cpA X hx hZ ho w1 w2 w3 w4 e1 A B hty h1 h2 h3 h4 h5 hus hvl N ge hg hsize hs hd hf hW hlo
  have r' := ne_of_keep K C (fun q => nb (Bb b q))
  obtain ⟨U, o, q1, r⟩ := k h' (O.keep K (allS ge all0)) K V vm0 T' L ⟨X', e2, ⟨k0, hS, Nat.le_trans hk K.1⟩, hZ, ho, N', O.keep K (allS ge all0), r'.1, fun y q => Bb y (r'.2 y q), hE⟩
  exact ⟨U, o, st _ q1, r⟩
theorem k_clone (hx : p.tables.exec = Jvm.exec) {ad : String} {index : Nat} (w1 : (Jvm.Cond.methodLink own index ⟨ad, "clone", "()Ljava/lang/Object;"⟩).before a0 Z = true) (w2 : (Jvm.Cond.sameMethod ad "java/lang/Object" "clone" "()Ljava/lang/Object;").before a0 Z = true) (w3 : (Jvm.Cond.native ⟨"java/lang/Object", "clone", "()Ljava/lang/Object;"⟩).before a0 Z = true)
    (w4 : (Jvm.Cond.instanceMethod ⟨"java/lang/Object", "clone", "()Ljava/lang/Object;"⟩).before a0 Z = true) (w5 : (Jvm.Cond.selects ad ⟨ad, "clone", "()Ljava/lang/Object;"⟩ ⟨"java/lang/Object", "clone", "()Ljava/lang/Object;"⟩).before a0 Z = true) (w6 : (Jvm.Cond.castable ad "java/lang/Cloneable").before a0 Z = true)
    {a : Addr} {kA : ClassId} {ty : FieldType} {z : Int32} {vs : List Value} {dv : Value} (F : Arv Z h a kA ty z vs dv) (E : Exa Z h a ad) (hg : g.method = m) (hsize : g.locals.size = c.maxLocals) {rest : List Value} (hst : g.stack = .ref a :: rest) (hd : decode c.code g.pc = .ok (.invokevirtual index, 3)) (hf : 1 ≤ R.frames) {W cap : Nat} (hW : 2 * g.monitorRoom + (rest.map fun v => v.category).sum ≤ W) (hl : W + 14 ≤ R.locals) (hcap : z.toNatClampNeg ≤ cap) (hc : cells + 1 ≤ R.cells) (hsl : slots + cap ≤ R.slots)
    (k : ∀ h' a, a = h.size → Old Z n0 h' → Ext h h' → Arv Z h' a kA ty z vs dv → Exa Z h' a ad → Run p l e R s m args below meth c Z EL own n0 bk h' (cells + 1) (slots + cap) { g with pc := g.pc + 3, stack := .ref a :: rest } Q) : Run p l e R s m args below meth c Z EL own n0 bk h cells slots g Q :=
  k_grow (F := fun h' g' => g' = { g with pc := g.pc + 3, stack := .ref h.size :: rest } ∧ Arv Z h' h.size kA ty z vs dv ∧ Exa Z h' h.size ad)
    (fun s' T locs X e1 hZ ho => by
      obtain ⟨T', h', X', e2, E', A, D, st⟩ := cloneH X hx hZ ho w1 w2 w3 w4 w5 w6 e1 (Arv.arh F) E hg hsize hst hd hf hW hl hcap hc hsl
      exact ⟨T', h', _, X', e2, E', ⟨rfl, A, D⟩, st⟩)
    (fun h' g' O E ⟨q, A, D⟩ => by subst q; exact k h' _ rfl O E A D)
end Kit

theorem s_irem {tb : Tables} [Ours tb] {e : Env} {below : List Frame} {T target : State} {m : MethodId} {c : Code} {g : JFrame} (h : At T m c below) (hx : tb.exec = Jvm.exec) (hg : g.method = m) {x y : Int32} {rest : List Value} (hd : decode c.code g.pc = .ok (.irem, 1)) (hs : g.stack = .int y :: .int x :: rest) (hy : y ≠ 0)
    (hr : Steps tb e below (T.setTop { g with pc := g.pc + 1, stack := .int (x % y) :: rest }) target) : Steps tb e below (T.setTop g) target := by
  have q : x - x / y * y = x % y := irem_eq_mod x y
  exact XS.irem h hx hg hd hs hy (by rw [q]; exact hr)
theorem kk0 {ws : List Addr} {n : Nat} : ∀ x ∈ ([] : List Addr), x ∈ ws ∨ n ≤ x := fun _ q => nomatch q
theorem kkS {ws L : List Addr} {n : Nat} {y : Addr} (q : y ∈ ws ∨ n ≤ y) (r : ∀ x ∈ L, x ∈ ws ∨ n ≤ x) : ∀ x ∈ y :: L, x ∈ ws ∨ n ≤ x := fun x z => (List.mem_cons.mp z).elim (fun u => u ▸ q) (r x)
theorem no_asg {Z : State} {a0 : Array Value} {C O K : String} {n : Nat} (w : (Jvm.Cond.superclass C O).before a0 Z = true) (wo : (Jvm.Cond.noSuperclass O).before a0 Z = true) (wk : (Jvm.Cond.instantiable K n).before a0 Z = true) (h1 : C ≠ K) (h2 : O ≠ K) : ∃ c t, Z.vm.findClass C = some c ∧ Z.vm.findClass K = some t ∧ Z.vm.assignable c t = false := by
  obtain ⟨c, hc⟩ := found_sup w
  obtain ⟨cO, k, kO, q1, q2, q3, q4, q5, -⟩ := Jvm.Cond.superclass_spec hc w
  obtain ⟨cO', kO', r1, r2, r3, -⟩ := Jvm.Cond.noSuperclass_spec wo
  cases q1.symm.trans r1
  obtain ⟨t, kt, t1, t2, t3, t4, -⟩ := Jvm.Cond.instantiable_spec wk
  have n1 := ids_ne hc t1 h1
  have n2 := ids_ne q1 t1 h2
  have sub2 : ∀ f, Z.vm.isSubclassAux f cO t = false := fun f => by cases f <;> simp [Vm.isSubclassAux, n2, r2, r3]
  have sub1 : ∀ f, Z.vm.isSubclassAux f c t = false := fun f => by cases f <;> simp [Vm.isSubclassAux, n1, q2, q4, sub2]
  have ti : kt.isInterface = false := by simp only [Bool.or_eq_false_iff] at t4; exact t4.1
  refine ⟨c, t, hc, t1, ?_⟩
  show Z.vm.assignableAux (255 + 1) c t = false
  simp [Vm.assignableAux, n1, q2, t2, q5, t3, ti, Vm.isSubclass, sub1]
/-! from the words of a start to facts on its heap -/
theorem ev_int {args : Array Value} {s : State} {t : Term} {k : Int32} (h : (Jvm.Cond.eq t (.int k)).before args s = true) : t.eval args s none [] s = some (.int k) := by
  obtain ⟨x, y, e1, e2, k1, -⟩ := cmp_v (Or.inl (Cond.before_iff.mp h))
  rw [Term.int_eval] at e2
  cases e2
  cases x with
  | int z => have := gotT (Cond.eq_ints e1 (Term.int_eval k)) (Cond.before_iff.mp h); rw [e1, this]
  | _ => exact absurd k1 (by simp [Kin, Value.isRef])
theorem ev_long {args : Array Value} {s : State} {t : Term} {k : Int64} (h : (Jvm.Cond.eq t (.long k)).before args s = true) : t.eval args s none [] s = some (.long k) := by
  obtain ⟨x, y, e1, e2, k1, -⟩ := cmp_v (Or.inl (Cond.before_iff.mp h))
  rw [long_at] at e2
  cases e2
  cases x with
  | long z => have := gotT (eq_L e1 (long_at k)) (Cond.before_iff.mp h); rw [e1, this]
  | _ => exact absurd k1 (by simp [Kin, Value.isRef])
theorem exa_start {args : Array Value} {s : State} {t : Term} {C : String} (h : (Jvm.Cond.exactly t C).before args s = true) : ∃ a, t.eval args s none [] s = some (.ref a) ∧ Exa s s.heap a C := by
  obtain ⟨a, e⟩ := exa_v (Cond.before_iff.mp h)
  exact ⟨a, e, Exa.start e (Cond.before_iff.mp h)⟩
theorem fld_start {args : Array Value} {s : State} {t : Term} {a : Addr} {C n d : String} {v : Value} (ht : t.eval args s none [] s = some (.ref a)) (hv : (Term.field t C n d).eval args s none [] s = some v) : Fld s s.heap a C n d v := Fld.start (by rw [← fld_at ht]; exact hv)
theorem s_pop2L {tb : Tables} [Ours tb] {e : Env} {below : List Frame} {T target : State} {m : MethodId} {c : Code} {g : JFrame} (h : At T m c below) (hx : tb.exec = Jvm.exec) (hg : g.method = m) {x : Int64} {rest : List Value} (hd : decode c.code g.pc = .ok (.pop2, 1)) (hs : g.stack = .long x :: rest)
    (hr : Steps tb e below (T.setTop { g with pc := g.pc + 1, stack := rest }) target) : Steps tb e below (T.setTop g) target := by
  subst hg
  jvm_step h [h.top, hx, hd, hs, pop2.wp_sem, Value.category]
  exact hr
theorem ne_ad {a b : Addr} (h : @Ne Nat a b) : a ≠ b := h

/-! naturals as ints -/
theorem lt_nat {i n : Nat} (h : i < n) (hn : n ≤ 4000) : Int32.ofNat i < Int32.ofNat n := by
  rw [Int32.lt_iff_toInt_lt, toInt_of rfl (by omega), toInt_of rfl (by omega)]; omega
theorem not_lt_nat {i n : Nat} (h : n ≤ i) (hn : i ≤ 4000) : ¬ Int32.ofNat i < Int32.ofNat n := by
  rw [Int32.lt_iff_toInt_lt, toInt_of rfl (by omega), toInt_of rfl (by omega)]; omega
theorem idx_ok {i n : Nat} (h : i < n) (hn : n ≤ 4000) : ¬ Int32.ofNat i < 0 ∧ Int32.ofNat i < Int32.ofNat n := ⟨not_lt_nat (n := 0) (Nat.zero_le _) (by omega), lt_nat h hn⟩
theorem clampN {i : Nat} (h : i ≤ 4000) : (Int32.ofNat i).toNatClampNeg = i := clamp_of rfl (by omega)
theorem getD_mem (cs : List Int32) (i : Nat) (h : i < cs.length) : cs.getD i 0 ∈ cs := by
  rw [List.getD_eq_getElem?_getD, List.getElem?_eq_getElem h]; exact List.getElem_mem h
theorem getD_int (bs : List Int32) {i : Nat} (h : i ≤ 4000) : (bs.map Value.int).getD (Int32.ofNat i).toNatClampNeg (.int 0) = .int (bs.getD i 0) := by
  rw [clampN h, List.getD_eq_getElem?_getD, List.getD_eq_getElem?_getD, List.getElem?_map]
  cases bs[i]? <;> rfl
theorem take_succ_eq {as bs : List Int32} {i : Nat} (h : as.take i = bs.take i) (ha : i < as.length) (hb : i < bs.length) (e : as.getD i 0 = bs.getD i 0) : as.take (i + 1) = bs.take (i + 1) := by
  rw [List.take_add_one, List.take_add_one, h, List.getElem?_eq_getElem ha, List.getElem?_eq_getElem hb]
  rw [List.getD_eq_getElem?_getD, List.getD_eq_getElem?_getD, List.getElem?_eq_getElem ha, List.getElem?_eq_getElem hb, Option.getD_some, Option.getD_some] at e
  rw [e]
theorem take_ne {as bs : List Int32} {i : Nat} (hi : i < bs.length) (e : ¬ as.getD i 0 = bs.getD i 0) : ¬ as.take bs.length = bs := fun q => e (by
  rw [List.getD_eq_getElem?_getD, List.getD_eq_getElem?_getD]
  have r := congrArg (fun l => l[i]?) q
  simp only [List.getElem?_take, if_pos hi] at r
  rw [r])
/-! words on arrays of the start -/
theorem fit_of {s : State} (hF : (s.heap.all fun c => (List.range c.slots.size).all fun i => match c.slots[i]? with | some v => s.fitsSlot c.cls c.vm i v | none => true) = true) : Fit s := by
  intro x c hc i hi
  obtain ⟨ha, rfl⟩ := Array.getElem?_eq_some_iff.mp hc
  have q := List.all_eq_true.mp ((Array.all_eq_true_iff_forall_mem.mp hF) _ (Array.getElem_mem ha)) i (List.mem_range.mpr hi)
  simpa [Array.getElem?_eq_getElem hi] using q
theorem ev_ref {args : Array Value} {s : State} {t u : Term} {a : Addr} (h : (Jvm.Cond.eq t u).value args s none s [] = some true) (hu : u.eval args s none [] s = some (.ref a)) : t.eval args s none [] s = some (.ref a) := by
  obtain ⟨x, y, e1, e2, k1, k2⟩ := cmp_v (Or.inl h)
  cases hu.symm.trans e2
  have hx : x.isRef = true := by cases x <;> simp_all [Kin, Value.isRef]
  have := gotT (eq_R e1 hu hx rfl) h
  rw [e1, this]
theorem arv_start {args : Array Value} {s : State} {t : Term} {a : Addr} {ty : FieldType} {z : Int32} {vs : List Value} {dv : Value} (hf : Fit s) (ht : t.eval args s none [] s = some (.ref a)) (hx : (Jvm.Cond.arrayOf t ty).value args s none s [] = some true) (hl : (Term.length t).eval args s none [] s = some (.int z)) (hz : ¬ z < 0) (hn : z.toNatClampNeg = vs.length) (H : ∀ cl : Cell, s.heap[a]? = some cl → HasL cl 0 vs) : ∃ k, Arv s s.heap a k ty z vs dv := by
  obtain ⟨cl, A⟩ := Arr.start ht hx
  obtain ⟨b, cell, e1, e2, e3, e4⟩ := Jvm.Lib.length_spec hl
  have eb : a = b := Value.ref.inj (Option.some.inj (ht.symm.trans e1))
  have ec : cell = cl := Option.some.inj (e2.symm.trans (eb ▸ Arr.fin (Vm.Alike.refl _) A))
  have ez : z = cell.slots.size.toInt32 := Value.int.inj e4
  rw [ec] at ez e3
  exact ⟨_, Arv.start hf A e3 ez.symm hz hn (H _ A.1)⟩

def EL1 : List (String × Nat) := [("com/example/lidmaat/lidmaat/http/Refusal", 33), ("com/example/lidmaat/lidmaat/http/Refusal", 38)]
def Ctx (Z : State) (a0 : Array Value) (G1 : Int32) (G3 : Value) : Prop := (∀ d ∈ tables_1, d.before a0 Z = true) ∧ EW Z a0 EL1 ∧ Sta Z Z.heap "java/lang/String" "COMPACT_STRINGS" "Z" (.int G1) ∧ ¬ (G1 = (0 : Int32)) ∧ Sta Z Z.heap "jdk/internal/util/Preconditions" "SIOOBE_FORMATTER" "Ljava/util/function/BiFunction;" G3 ∧ G3.isRef = true
theorem sa_of {Z : State} {a0 : Array Value} (hw : ∀ d ∈ tables_1, d.before a0 Z = true) : ∀ a ∈ Bundle.stringAtoms, a.before a0 Z = true := fun d hd => hw d ((by decide +kernel : ∀ d ∈ Bundle.stringAtoms, d ∈ tables_1) d hd)
section StrKit
def StrL (Z : State) (h : Heap) (a t : Addr) (kb : ClassId) (cs : List Int32) : Prop := Exa Z h a "java/lang/String" ∧ Fld Z h a "java/lang/String" "coder" "B" (.int 0) ∧ Fld Z h a "java/lang/String" "value" "[B" (.ref t) ∧ Arv Z h t kb .byte (Int32.ofNat cs.length) ((cs.map (fun c => c.toInt8.toInt32)).map Value.int) (.int 0) ∧ (∀ c ∈ cs, ¬ c < 0 ∧ ¬ (255 : Int32) < c) ∧ cs.length ≤ 4000
variable {Z : State} {h h' : Heap} {a t b : Addr} {kb : ClassId} {cs ds : List Int32} {ws : List Addr} {sl : Nat} {v : Value}
theorem StrL.ext (S : StrL Z h a t kb cs) (E : Ext h h') : StrL Z h' a t kb cs := ⟨S.1.ext E, S.2.1.ext E, S.2.2.1.ext E, S.2.2.2.1.ext E, S.2.2.2.2⟩
theorem StrL.other (S : StrL Z h a t kb cs) (W : Wr h h' b sl v) (q1 : a ≠ b) (q2 : t ≠ b) : StrL Z h' a t kb cs := ⟨S.1.wr W, S.2.1.other W (Or.inl q1), S.2.2.1.other W (Or.inl q1), S.2.2.2.1.other W q2, S.2.2.2.2⟩
theorem StrL.keep (S : StrL Z h a t kb cs) (K : Keep h h' ws) (q1 : a ∉ ws) (q2 : t ∉ ws) : StrL Z h' a t kb cs := ⟨S.1.keep K, S.2.1.keep K q1, S.2.2.1.keep K q1, S.2.2.2.1.keep K q2, S.2.2.2.2⟩
theorem StrL.lt1 (S : StrL Z h a t kb cs) : a < h.size := S.1.lt
theorem StrL.lt2 (S : StrL Z h a t kb cs) : t < h.size := S.2.2.2.1.lt
theorem up_ch {cs : List Int32} (h : ∀ c ∈ cs, ¬ c < 0 ∧ ¬ (255 : Int32) < c) : ∀ c ∈ cs, ¬ c < 0 ∧ ¬ (65535 : Int32) < c := fun c hc => ⟨(h c hc).1, fun q => (h c hc).2 (by rw [Int32.lt_iff_toInt_lt] at q ⊢; have e1 : (65535 : Int32).toInt = 65535 := rfl; have e2 : (255 : Int32).toInt = 255 := rfl; omega)⟩
variable {p : Program} {l : Launch} {e : Env} {R : Room} {s : State} {args : Array Value} {below : List Frame} {n0 W : Nat} {bk : Addr → Prop} {a0 : Array Value}
theorem Pays.mono {EL : List (String × Nat)} {y : MethodName} {len kc ks : Nat} {as' : Array Value} {Q Q' : Option Value → Heap → (Addr → Prop) → Prop} (hP : Pays l R p e below s args Z EL n0 bk h y len W kc ks as' Q) (hq : ∀ v h' bk', Q v h' bk' → Q' v h' bk') : Pays l R p e below s args Z EL n0 bk h y len W kc ks as' Q' := fun vm0 hZ hE hO hC hB m meth c A g ig mk a X hg hsize hdg hW hn hp => by
  obtain ⟨v, B, X', r1, r2, ⟨L, bk', q1, q2⟩, st⟩ := hP vm0 hZ hE hO hC hB m meth c A g ig mk a X hg hsize hdg hW hn hp
  exact ⟨v, B, X', r1, r2, ⟨L, bk', hq _ _ _ q1, q2⟩, st⟩
end StrKit

section SbKit
/-- a Latin-1 StringBuilder known by its chars -/
def SbL (Z : State) (h : Heap) (a t : Addr) (kb : ClassId) (N : Nat) (cs : List Int32) : Prop := Exa Z h a "java/lang/StringBuilder" ∧ Fld Z h a "java/lang/AbstractStringBuilder" "coder" "B" (.int 0) ∧ Fld Z h a "java/lang/AbstractStringBuilder" "value" "[B" (.ref t) ∧ Fld Z h a "java/lang/AbstractStringBuilder" "count" "I" (.int (Int32.ofNat cs.length)) ∧ Arv Z h t kb .byte (Int32.ofNat N) ((cs.map (fun c => c.toInt8.toInt32)).map Value.int) (.int 0) ∧ (∀ c ∈ cs, ¬ c < 0 ∧ ¬ (255 : Int32) < c) ∧ cs.length ≤ N ∧ N ≤ 4000 ∧ @Ne Nat a t
variable {Z : State} {h h' : Heap} {a t b : Addr} {kb : ClassId} {N : Nat} {cs ds : List Int32} {ws : List Addr} {sl : Nat} {v : Value}
theorem SbL.ext (S : SbL Z h a t kb N cs) (E : Ext h h') : SbL Z h' a t kb N cs := ⟨S.1.ext E, S.2.1.ext E, S.2.2.1.ext E, S.2.2.2.1.ext E, S.2.2.2.2.1.ext E, S.2.2.2.2.2⟩
theorem SbL.other (S : SbL Z h a t kb N cs) (W : Wr h h' b sl v) (q1 : a ≠ b) (q2 : t ≠ b) : SbL Z h' a t kb N cs := ⟨S.1.wr W, S.2.1.other W (Or.inl q1), S.2.2.1.other W (Or.inl q1), S.2.2.2.1.other W (Or.inl q1), S.2.2.2.2.1.other W q2, S.2.2.2.2.2⟩
theorem SbL.keep (S : SbL Z h a t kb N cs) (K : Keep h h' ws) (q1 : a ∉ ws) (q2 : t ∉ ws) : SbL Z h' a t kb N cs := ⟨S.1.keep K, S.2.1.keep K q1, S.2.2.1.keep K q1, S.2.2.2.1.keep K q1, S.2.2.2.2.1.keep K q2, S.2.2.2.2.2⟩
theorem SbL.lt1 (S : SbL Z h a t kb N cs) : a < h.size := S.1.lt
theorem SbL.lt2 (S : SbL Z h a t kb N cs) : t < h.size := S.2.2.2.2.1.lt
theorem range_getD {L : List Value} {d : Value} : (List.range L.length).map (fun i => L.getD i d) = L := by
  apply List.ext_getElem
  · simp
  · intro i h1 h2; simp [List.getD_eq_getElem?_getD, List.getElem?_eq_getElem h2]
theorem cpy_app {cs ds : List Int32} (h1 : cs.length ≤ 4000) (h2 : ds.length ≤ 4000) :
    (((cs.map (fun c : Int32 => c.toInt8.toInt32)).map Value.int) ++ List.replicate ds.length (Value.int 0)).take (Int32.ofNat cs.length).toNatClampNeg ++ ((List.range (Int32.ofNat ds.length).toNatClampNeg).map fun i => ((ds.map (fun c : Int32 => c.toInt8.toInt32)).map Value.int).getD ((0 : Int32).toNatClampNeg + i) (Value.int 0)) ++ (((cs.map (fun c : Int32 => c.toInt8.toInt32)).map Value.int) ++ List.replicate ds.length (Value.int 0)).drop ((Int32.ofNat cs.length).toNatClampNeg + (Int32.ofNat ds.length).toNatClampNeg) = (((cs ++ ds).map (fun c : Int32 => c.toInt8.toInt32)).map Value.int) := by
  rw [clampN h1, clampN h2]
  have e0 : (0 : Int32).toNatClampNeg = 0 := rfl
  have r := range_getD (L := ((ds.map (fun c : Int32 => c.toInt8.toInt32)).map Value.int)) (d := .int 0)
  simp only [List.length_map] at r
  simp only [e0, Nat.zero_add, r]
  rw [List.take_append_of_le_length (by simp), List.take_of_length_le (by simp), List.drop_of_length_le (by simp)]
  simp
theorem cpy_all {cs : List Int32} (h1 : cs.length ≤ 4000) :
    (([] : List Value) ++ List.replicate cs.length (Value.int 0)).take (0 : Int32).toNatClampNeg ++ ((List.range (Int32.ofNat cs.length).toNatClampNeg).map fun i => ((cs.map (fun c : Int32 => c.toInt8.toInt32)).map Value.int).getD ((0 : Int32).toNatClampNeg + i) (Value.int 0)) ++ (([] : List Value) ++ List.replicate cs.length (Value.int 0)).drop ((0 : Int32).toNatClampNeg + (Int32.ofNat cs.length).toNatClampNeg) = ((cs.map (fun c : Int32 => c.toInt8.toInt32)).map Value.int) := by
  rw [clampN h1]
  have e0 : (0 : Int32).toNatClampNeg = 0 := rfl
  have r := range_getD (L := ((cs.map (fun c : Int32 => c.toInt8.toInt32)).map Value.int)) (d := .int 0)
  simp only [List.length_map] at r
  simp only [e0, Nat.zero_add, r]
  simp
theorem add_len (cs ds : List Int32) : Int32.ofNat cs.length + Int32.ofNat ds.length = Int32.ofNat (cs ++ ds).length := by rw [List.length_append, Int32.ofNat_add]
theorem shl0 (d : Int32) : d <<< ((0 : Int32) &&& 31) = d := by
  rw [show ((0 : Int32) &&& 31) = 0 from rfl]; simp
theorem shr0 (d : Int32) : d >>> ((0 : Int32) &&& 31) = d := by
  rw [show ((0 : Int32) &&& 31) = 0 from rfl]; simp
theorem sub0 (d : Int32) : d - (0 : Int32) = d := by simp
theorem ens_ok {k N : Nat} (h : k ≤ N) (hN : N ≤ 4000) : ¬ (0 : Int32) < (Int32.ofNat k - Int32.ofNat N) := by
  have q := c_isub (Int32.ofNat k) (Int32.ofNat N)
  have r := rng32 (Int32.ofNat k - Int32.ofNat N)
  rw [toInt_of rfl (by omega), toInt_of rfl (by omega)] at q
  rw [Int32.lt_iff_toInt_lt]
  have e1 : (0 : Int32).toInt = 0 := rfl
  omega
theorem ne_nat {a b : Nat} (h : a < b) (hb : b ≤ 4000) : ¬ Int32.ofNat a = Int32.ofNat b := fun q => by
  have := congrArg Int32.toInt q
  rw [toInt_of rfl (by omega), toInt_of rfl (by omega)] at this
  omega
end SbKit

section SbwKit
/-- a Latin-1 StringBuilder whose bytes don't matter -/
def SbW (Z : State) (h : Heap) (a t : Addr) (kb : ClassId) (N n : Nat) (vs : List Value) : Prop := Exa Z h a "java/lang/StringBuilder" ∧ Fld Z h a "java/lang/AbstractStringBuilder" "coder" "B" (.int 0) ∧ Fld Z h a "java/lang/AbstractStringBuilder" "value" "[B" (.ref t) ∧ Fld Z h a "java/lang/AbstractStringBuilder" "count" "I" (.int (Int32.ofNat n)) ∧ Arv Z h t kb .byte (Int32.ofNat N) vs (.int 0) ∧ n ≤ N ∧ N ≤ 1000 ∧ @Ne Nat a t
variable {Z : State} {h h' : Heap} {a t b : Addr} {kb : ClassId} {N n : Nat} {vs : List Value} {ws : List Addr} {sl : Nat} {v : Value}
theorem SbW.ext (S : SbW Z h a t kb N n vs) (E : Ext h h') : SbW Z h' a t kb N n vs := ⟨S.1.ext E, S.2.1.ext E, S.2.2.1.ext E, S.2.2.2.1.ext E, S.2.2.2.2.1.ext E, S.2.2.2.2.2⟩
theorem SbW.other (S : SbW Z h a t kb N n vs) (W : Wr h h' b sl v) (q1 : a ≠ b) (q2 : t ≠ b) : SbW Z h' a t kb N n vs := ⟨S.1.wr W, S.2.1.other W (Or.inl q1), S.2.2.1.other W (Or.inl q1), S.2.2.2.1.other W (Or.inl q1), S.2.2.2.2.1.other W q2, S.2.2.2.2.2⟩
theorem SbW.keep (S : SbW Z h a t kb N n vs) (K : Keep h h' ws) (q1 : a ∉ ws) (q2 : t ∉ ws) : SbW Z h' a t kb N n vs := ⟨S.1.keep K, S.2.1.keep K q1, S.2.2.1.keep K q1, S.2.2.2.1.keep K q1, S.2.2.2.2.1.keep K q2, S.2.2.2.2.2⟩
theorem SbW.lt1 (S : SbW Z h a t kb N n vs) : a < h.size := S.1.lt
theorem SbW.lt2 (S : SbW Z h a t kb N n vs) : t < h.size := S.2.2.2.2.1.lt
theorem aget_int {k : ClassId} {z : Int32} {d : Value} (F : Arv Z h a k .byte z vs d) {i : Nat} (hi : i < z.toNatClampNeg) : ∃ x : Int32, vs.getD i d = .int x := by
  obtain ⟨c, A, e1, e2, e3, H, G⟩ := F
  exact fit_I (G i (by rw [e2]; exact hi)) (by simp)
theorem dec_ofNat {q : Nat} (h : 1 ≤ q) (h2 : q ≤ 4000) : Int32.ofNat q + (-1 : Int32) = Int32.ofNat (q - 1) := by
  apply Int32.toInt_inj.mp
  have r := c_iadd (Int32.ofNat q) (-1 : Int32)
  have e1 : (-1 : Int32).toInt = -1 := by decide
  rw [toInt_of rfl (by omega), e1] at r
  rw [toInt_of rfl (by omega)]
  have := rng32 (Int32.ofNat q + (-1 : Int32))
  omega
theorem of_toNat {r : Int32} (h : 0 ≤ r.toInt) : Int32.ofNat r.toInt.toNat = r := by
  apply Int32.toInt_inj.mp
  have := rng32 r
  rw [toInt_of rfl (by omega)]
  omega
theorem toI {n : Nat} (h : n ≤ 100000) : (Int32.ofNat n).toInt = n := toInt_of rfl (by omega)
theorem add_n (m n : Nat) : Int32.ofNat m + Int32.ofNat n = Int32.ofNat (m + n) := by rw [Int32.ofNat_add]
theorem ens_no {k N : Nat} (h : N < k) (hN : k ≤ 4000) : (0 : Int32) < (Int32.ofNat k - Int32.ofNat N) := by
  have q := c_isub (Int32.ofNat k) (Int32.ofNat N)
  have r := rng32 (Int32.ofNat k - Int32.ofNat N)
  rw [toInt_of rfl (by omega), toInt_of rfl (by omega)] at q
  rw [Int32.lt_iff_toInt_lt]
  have e1 : (0 : Int32).toInt = 0 := rfl
  omega
theorem dig_start {args : Array Value} {s : State} {t : Term} {z : Int32} (hf : Fit s) (wa : (Jvm.Cond.arrayClass .byte).before args s = true) (hx : (Jvm.Cond.exactly t "[B").before args s = true) (hl : (Term.length t).eval args s none [] s = some (.int z)) : ∃ a k vs, t.eval args s none [] s = some (.ref a) ∧ Exa s s.heap a "[B" ∧ Arv s s.heap a k .byte z vs (.int 0) := by
  obtain ⟨a, e, E⟩ := exa_start hx
  obtain ⟨b, cell, e1, e2, e3, e4⟩ := Jvm.Lib.length_spec hl
  have eb : a = b := Value.ref.inj (Option.some.inj (e.symm.trans e1))
  subst eb
  have ez : z = cell.slots.size.toInt32 := Value.int.inj e4
  obtain ⟨cell', k', x1, x2, x3, x4, -⟩ := E
  have hc : s.heap[a]? = some cell ∧ cell.vm ≠ .unknown := by
    simp only [State.arrayAt?, Option.bind_eq_bind, Option.bind_eq_some_iff] at e2
    obtain ⟨c, hc, k, hk, hrest⟩ := e2
    split at hrest
    · exact absurd hrest (by simp)
    · rename_i hn
      split at hrest
      · cases hrest; exact ⟨hc, fun q => hn (Or.inl q)⟩
      · exact absurd hrest (by simp)
  cases hc.1.symm.trans x1
  obtain ⟨c, k, comp, y1, y2, y3⟩ := Jvm.Cond.arrayClass_spec wa
  have ec : c = cell.cls := Option.some.inj (y1.symm.trans x2)
  subst ec
  have A : Arr s s.heap a cell .byte := ⟨hc.1, ⟨fun q r => by rw [r] at x4; simp [VmData.isStatics] at x4, k, y2, comp, y3⟩, hc.2⟩
  have S : cell.slots.size = z.toNatClampNeg := by rw [ez]; simp only [Int32.toNatClampNeg, len_toInt e3]; rfl
  refine ⟨a, cell.cls, cell.slots.toList, e, ⟨cell, k', x1, x2, x3, x4, by rw [y2] at x3; cases x3; rw [y3]; intro q; cases q⟩, cell, A, rfl, S, ?_, ?_, ?_⟩
  · rw [ez, Int32.lt_iff_toInt_lt, len_toInt e3]
    have e1 : (0 : Int32).toInt = 0 := rfl
    omega
  · intro i hi; simp [List.getD_eq_getElem?_getD, hi]
  · intro i hi
    obtain ⟨v, hv, hfv⟩ := elem_fit (j := Int32.ofNat i) hf A (by
      rw [clamp_of rfl (by omega), Int32.lt_iff_toInt_lt, toInt_of rfl (by omega)]
      have e1 : (0 : Int32).toInt = 0 := rfl
      omega)
    rw [clamp_of rfl (by omega)] at hv
    have : cell.slots.toList.getD i (.int 0) = v := by simp [List.getD_eq_getElem?_getD, hv]
    rw [this]; exact hfv
end SbwKit

def lit1 : List Int32 := [84, 104, 101, 32, 114, 101, 113, 117, 101, 115, 116, 32, 108, 105, 110, 101, 32, 97, 110, 100, 32, 104, 101, 97, 100, 101, 114, 32, 102, 105, 101, 108, 100, 115, 32, 97, 114, 101, 32, 108, 97, 114, 103, 101, 114, 32, 116, 104, 97, 110, 32]
def lit2 : List Int32 := [32, 98, 121, 116, 101, 115, 46]
theorem len1 : lit1.length = 51 := rfl
theorem len2 : lit2.length = 7 := rfl
theorem bd1 : ∀ c ∈ lit1, ¬ c < 0 ∧ ¬ (255 : Int32) < c := by decide +kernel
theorem bd2 : ∀ c ∈ lit2, ¬ c < 0 ∧ ¬ (255 : Int32) < c := by decide +kernel
def More (Z : State) (d1 d2 us ss : Addr) (kd1 kd2 : ClassId) (w1 w2 : List Value) : Prop := (Sta Z Z.heap "java/lang/Integer" "DigitOnes" "[B" (.ref d1)) ∧ (Arv Z Z.heap d1 kd1 .byte (100 : Int32) w1 (.int 0)) ∧ (Sta Z Z.heap "java/lang/Integer" "DigitTens" "[B" (.ref d2)) ∧ (Arv Z Z.heap d2 kd2 .byte (100 : Int32) w2 (.int 0)) ∧ (Sta Z Z.heap "java/lang/Throwable" "UNASSIGNED_STACK" "[Ljava/lang/StackTraceElement;" (.ref us)) ∧ (Sta Z Z.heap "java/lang/Throwable" "SUPPRESSED_SENTINEL" "Ljava/util/List;" (.ref ss))

theorem dig_lt {r : Int32} (h : 0 ≤ r.toInt ∧ r.toInt ≤ 99) : r.toNatClampNeg < (100 : Int32).toNatClampNeg := by
  have e : (100 : Int32).toNatClampNeg = 100 := rfl
  rw [e, Int32.toNatClampNeg]; omega
theorem dig_in {r : Int32} (h : 0 ≤ r.toInt ∧ r.toInt ≤ 99) : ¬ r < 0 ∧ r < (100 : Int32) := by
  rw [Int32.lt_iff_toInt_lt, Int32.lt_iff_toInt_lt]
  have e1 : (0 : Int32).toInt = 0 := rfl
  have e2 : (100 : Int32).toInt = 100 := rfl
  omega

def Q_coder (Z : State) (G1 : Int32) (G3 : Value) (d1 d2 us ss : Addr) (kd1 kd2 : ClassId) (w1 w2 : List Value) (a : Addr) (t : Addr) (kb : ClassId) (cs : List Int32) (h0 : Heap) (n0 : Nat) (bk : Addr → Prop) (v : Option Value) (h : Heap) (bk' : Addr → Prop) : Prop := v = some (.int (0 : Int32)) ∧ h0 = h ∧ bk = bk'
theorem d_jdk_42_m_152_0 : decode jdk_42_method_152_code 0 = .ok (.getstatic 38, 3) := by decide +kernel
theorem d_jdk_42_m_152_3 : decode jdk_42_method_152_code 3 = .ok (.ifCond .eq 10, 3) := by decide +kernel
theorem d_jdk_42_m_152_6 : decode jdk_42_method_152_code 6 = .ok (.aload_n 0, 1) := by decide +kernel
theorem d_jdk_42_m_152_7 : decode jdk_42_method_152_code 7 = .ok (.getfield 15, 3) := by decide +kernel
theorem d_jdk_42_m_152_10 : decode jdk_42_method_152_code 10 = .ok (.goto 4, 3) := by decide +kernel
theorem d_jdk_42_m_152_14 : decode jdk_42_method_152_code 14 = .ok (.ireturn, 1) := by decide +kernel
abbrev RM_coder : Room := { frames := 0, cells := 0, slots := 0, locals := 0 }
theorem ef_coder (m : MethodId) (x0 : Addr) : entryFrame m #[(.ref x0)] 1 = mkF m 0 #[.val (.ref x0)] [] := by first | (simp [entryFrame, mkF, argsToLocals, Value.category]; done) | rfl
set_option maxRecDepth 65536 in
set_option maxHeartbeats 40000000 in
theorem rm_coder (l : Launch) (Z : State) (a0 : Array Value) (G1 : Int32) (G3 : Value) (d1 d2 us ss : Addr) (kd1 kd2 : ClassId) (w1 w2 : List Value) (hX : Ctx Z a0 G1 G3) (hY : More Z d1 d2 us ss kd1 kd2 w1 w2) (n0 : Nat) (bk : Addr → Prop) (h0 : Heap) (O0 : Old Z n0 h0) (a : Addr) (t : Addr) (kb : ClassId) (cs : List Int32) (pf_0 : StrL Z h0 a t kb cs) (ws : List Jvm.Cond) : Met l Z EL1 n0 bk (⟨"java/lang/String", "coder", "()B"⟩ : MethodName) jdk_42_method_152_code 1 (Option.some FieldType.byte) RM_coder #[(.ref a)] h0 (Q_coder Z G1 G3 d1 d2 us ss kd1 kd2 w1 w2 a t kb cs h0 n0 bk) ws := by
  have hX' := hX
  obtain ⟨hw, hE, S1, P1, S3, P3⟩ := hX'
  have hY' := hY
  obtain ⟨s_d1, a_d1, s_d2, a_d2, s_us, s_ss⟩ := hY'
  have hSA := sa_of hw
  have z0 : n0 ≤ h0.size := by rw [← O0.1]; exact O0.2.1
  refine Met.of (by decide +kernel) O0 hE ?_
  intro p e s m below meth c hx hby hml hret hlk hnm
  refine k_cast (ef_coder m a) ?_
  show Run p l e _ s m _ below meth c Z EL1 _ n0 bk h0 0 0 (mkF m 0 #[.val (.ref a)] []) _
  have lt_1 : @LT.lt Nat _ a (Array.size h0) := pf_0.lt1
  have lt_2 : @LT.lt Nat _ t (Array.size h0) := pf_0.lt2
  refine k_getS hx (host := "") (Or.inl (hw _ (List.mem_of_getElem? (i := 55) rfl))) Via.refl (S1.ext O0.2) rfl (hb hby d_jdk_42_m_152_0) ?_
  show Run p l e _ s m _ below meth c Z EL1 _ n0 bk h0 0 0 (mkF m 3 #[.val (.ref a)] [(.int G1)]) _
  refine k_pure (g' := (mkF m 6 #[.val (.ref a)] [])) (fun TT HH tt kk => XS.ifNo HH hx rfl (hb hby d_jdk_42_m_152_3) rfl ((if0 _ _).trans (feq P1).1) kk) ?_
  refine k_pure (g' := (mkF m 7 #[.val (.ref a)] [(.ref a)])) (fun TT HH tt kk => XS.aloadN HH hx rfl (hb hby d_jdk_42_m_152_6) rfl rfl kk) ?_
  refine k_getF hx (host := "") (Or.inl (hw _ (List.mem_of_getElem? (i := 56) rfl))) Via.refl pf_0.2.1 rfl rfl (hb hby d_jdk_42_m_152_7) ?_
  show Run p l e _ s m _ below meth c Z EL1 _ n0 bk h0 0 0 (mkF m 10 #[.val (.ref a)] [(.int (0 : Int32))]) _
  refine k_pure (g' := (mkF m 14 #[.val (.ref a)] [(.int (0 : Int32))])) (fun TT HH tt kk => XS.goto HH hx rfl (pc0 := 10) (pc' := 14) rfl (hb hby d_jdk_42_m_152_10) (by decide) (by decide) kk) ?_
  exact k_retN hx hlk hret (by simp) (hb hby d_jdk_42_m_152_14) (by decide) (by decide) ⟨rfl, rfl, rfl⟩
def Q_sle (Z : State) (G1 : Int32) (G3 : Value) (d1 d2 us ss : Addr) (kd1 kd2 : ClassId) (w1 w2 : List Value) (a : Addr) (t : Addr) (kb : ClassId) (cs : List Int32) (h0 : Heap) (n0 : Nat) (bk : Addr → Prop) (v : Option Value) (h : Heap) (bk' : Addr → Prop) : Prop := v = some (.int (Int32.ofNat (cs).length)) ∧ h0 = h ∧ bk = bk'
theorem d_jdk_42_m_54_0 : decode jdk_42_method_54_code 0 = .ok (.aload_n 0, 1) := by decide +kernel
theorem d_jdk_42_m_54_1 : decode jdk_42_method_54_code 1 = .ok (.getfield 9, 3) := by decide +kernel
theorem d_jdk_42_m_54_4 : decode jdk_42_method_54_code 4 = .ok (.arraylength, 1) := by decide +kernel
theorem d_jdk_42_m_54_5 : decode jdk_42_method_54_code 5 = .ok (.aload_n 0, 1) := by decide +kernel
theorem d_jdk_42_m_54_6 : decode jdk_42_method_54_code 6 = .ok (.invokevirtual 335, 3) := by decide +kernel
theorem pd__28__29_B : parseMethodDescriptor "()B" = some ⟨[], some .byte⟩ := by decide +kernel
theorem d_jdk_42_m_54_9 : decode jdk_42_method_54_code 9 = .ok (.ishr, 1) := by decide +kernel
theorem d_jdk_42_m_54_10 : decode jdk_42_method_54_code 10 = .ok (.ireturn, 1) := by decide +kernel
abbrev RM_sle : Room := { frames := 1, cells := 0, slots := 0, locals := 13 }
theorem ef_sle (m : MethodId) (x0 : Addr) : entryFrame m #[(.ref x0)] 1 = mkF m 0 #[.val (.ref x0)] [] := by first | (simp [entryFrame, mkF, argsToLocals, Value.category]; done) | rfl
set_option maxRecDepth 65536 in
set_option maxHeartbeats 40000000 in
theorem rm_sle (l : Launch) (Z : State) (a0 : Array Value) (G1 : Int32) (G3 : Value) (d1 d2 us ss : Addr) (kd1 kd2 : ClassId) (w1 w2 : List Value) (hX : Ctx Z a0 G1 G3) (hY : More Z d1 d2 us ss kd1 kd2 w1 w2) (n0 : Nat) (bk : Addr → Prop) (h0 : Heap) (O0 : Old Z n0 h0) (a : Addr) (t : Addr) (kb : ClassId) (cs : List Int32) (pf_0 : StrL Z h0 a t kb cs) (ws : List Jvm.Cond) : Met l Z EL1 n0 bk (⟨"java/lang/String", "length", "()I"⟩ : MethodName) jdk_42_method_54_code 1 (Option.some FieldType.int) RM_sle #[(.ref a)] h0 (Q_sle Z G1 G3 d1 d2 us ss kd1 kd2 w1 w2 a t kb cs h0 n0 bk) ws := by
  have hX' := hX
  obtain ⟨hw, hE, S1, P1, S3, P3⟩ := hX'
  have hY' := hY
  obtain ⟨s_d1, a_d1, s_d2, a_d2, s_us, s_ss⟩ := hY'
  have hSA := sa_of hw
  have z0 : n0 ≤ h0.size := by rw [← O0.1]; exact O0.2.1
  refine Met.of (by decide +kernel) O0 hE ?_
  intro p e s m below meth c hx hby hml hret hlk hnm
  refine k_cast (ef_sle m a) ?_
  show Run p l e _ s m _ below meth c Z EL1 _ n0 bk h0 0 0 (mkF m 0 #[.val (.ref a)] []) _
  have lt_1 : @LT.lt Nat _ a (Array.size h0) := pf_0.lt1
  have lt_2 : @LT.lt Nat _ t (Array.size h0) := pf_0.lt2
  refine k_pure (g' := (mkF m 1 #[.val (.ref a)] [(.ref a)])) (fun TT HH tt kk => XS.aloadN HH hx rfl (hb hby d_jdk_42_m_54_0) rfl rfl kk) ?_
  refine k_getF hx (host := "") (Or.inl (hw _ (List.mem_of_getElem? (i := 49) rfl))) Via.refl pf_0.2.2.1 rfl rfl (hb hby d_jdk_42_m_54_1) ?_
  show Run p l e _ s m _ below meth c Z EL1 _ n0 bk h0 0 0 (mkF m 4 #[.val (.ref a)] [(.ref t)]) _
  refine k_alen hx pf_0.2.2.2.1 rfl rfl (hb hby d_jdk_42_m_54_4) ?_
  show Run p l e _ s m _ below meth c Z EL1 _ n0 bk h0 0 0 (mkF m 5 #[.val (.ref a)] [(.int (Int32.ofNat (cs).length))]) _
  refine k_pure (g' := (mkF m 6 #[.val (.ref a)] [(.ref a), (.int (Int32.ofNat (cs).length))])) (fun TT HH tt kk => XS.aloadN HH hx rfl (hb hby d_jdk_42_m_54_5) rfl rfl kk) ?_
  refine k_callV hx (y := (⟨"java/lang/String", "coder", "()B"⟩ : MethodName)) (z := (⟨"java/lang/String", "coder", "()B"⟩ : MethodName)) (hw _ (List.mem_of_getElem? (i := 50) rfl)) (hw _ (List.mem_of_getElem? (i := 51) rfl)) (fun s' hZ => notFace_of_selects (args := #[]) (mv hZ (hw _ (List.mem_of_getElem? (i := 53) rfl)))) (hw _ (List.mem_of_getElem? (i := 53) rfl)) (hw _ (List.mem_of_getElem? (i := 52) rfl)) (by decide) (W := 1) (a := a) (argsL := []) (rest := [(.int (Int32.ofNat (cs).length))]) (Pays.of_met (rm_coder l Z a0 G1 G3 d1 d2 us ss kd1 kd2 w1 w2 hX hY n0 bk h0 O0 a t kb cs pf_0 []) (hw _ (List.mem_of_getElem? (i := 54) rfl)) (hw _ (List.mem_of_getElem? (i := 22) rfl)) (by decide) (by decide)) pf_0.1 rfl (by rw [hml]; rfl) (lenOf pd__28__29_B rfl) rfl (by show 2 * 0 + _ ≤ _; exact Nat.le_of_eq rfl) (hb hby d_jdk_42_m_54_6) (by decide) (by decide) ?_
  intro v_3 h_4 bk_5 O_6 z_7 Q_8
  obtain ⟨rfl, rfl, rfl⟩ := Q_8
  show Run p l e _ s m _ below meth c Z EL1 _ n0 bk h0 0 0 (mkF m 9 #[.val (.ref a)] [(.int (0 : Int32)), (.int (Int32.ofNat (cs).length))]) _
  refine k_pure (g' := (mkF m 10 #[.val (.ref a)] [(.int ((Int32.ofNat (cs).length) >>> ((0 : Int32) &&& 31)))])) (fun TT HH tt kk => XS.ishr HH hx rfl (hb hby d_jdk_42_m_54_9) rfl kk) ?_
  rw [shr0]
  show Run p l e _ s m _ below meth c Z EL1 _ n0 bk h0 0 0 (mkF m 10 #[.val (.ref a)] [(.int (Int32.ofNat (cs).length))]) _
  exact k_retI hx hlk hret (hb hby d_jdk_42_m_54_10) (by decide) (by decide) ⟨rfl, rfl, rfl⟩
def Q_maxg (Z : State) (G1 : Int32) (G3 : Value) (d1 d2 us ss : Addr) (kd1 kd2 : ClassId) (w1 w2 : List Value) (u : Int32) (w : Int32) (h0 : Heap) (n0 : Nat) (bk : Addr → Prop) (v : Option Value) (h : Heap) (bk' : Addr → Prop) : Prop := ∃ (r : Int32), v = some (.int r) ∧ h0 = h ∧ bk = bk' ∧ (u.toInt ≤ r.toInt ∧ w.toInt ≤ r.toInt ∧ (r.toInt = u.toInt ∨ r.toInt = w.toInt))
theorem d_jdk_29_m_65_0 : decode jdk_29_method_65_code 0 = .ok (.iload_n 0, 1) := by decide +kernel
theorem d_jdk_29_m_65_1 : decode jdk_29_method_65_code 1 = .ok (.iload_n 1, 1) := by decide +kernel
theorem d_jdk_29_m_65_2 : decode jdk_29_method_65_code 2 = .ok (.if_icmp .lt 7, 3) := by decide +kernel
theorem d_jdk_29_m_65_9 : decode jdk_29_method_65_code 9 = .ok (.iload_n 1, 1) := by decide +kernel
theorem d_jdk_29_m_65_10 : decode jdk_29_method_65_code 10 = .ok (.ireturn, 1) := by decide +kernel
theorem d_jdk_29_m_65_5 : decode jdk_29_method_65_code 5 = .ok (.iload_n 0, 1) := by decide +kernel
theorem d_jdk_29_m_65_6 : decode jdk_29_method_65_code 6 = .ok (.goto 4, 3) := by decide +kernel
abbrev RM_maxg : Room := { frames := 0, cells := 0, slots := 0, locals := 0 }
theorem ef_maxg (m : MethodId) (x0 : Int32) (x1 : Int32) : entryFrame m #[(.int x0), (.int x1)] 2 = mkF m 0 #[.val (.int x0), .val (.int x1)] [] := by first | (simp [entryFrame, mkF, argsToLocals, Value.category]; done) | rfl
set_option maxRecDepth 65536 in
set_option maxHeartbeats 40000000 in
theorem rm_maxg (l : Launch) (Z : State) (a0 : Array Value) (G1 : Int32) (G3 : Value) (d1 d2 us ss : Addr) (kd1 kd2 : ClassId) (w1 w2 : List Value) (hX : Ctx Z a0 G1 G3) (hY : More Z d1 d2 us ss kd1 kd2 w1 w2) (n0 : Nat) (bk : Addr → Prop) (h0 : Heap) (O0 : Old Z n0 h0) (u : Int32) (w : Int32)  (ws : List Jvm.Cond) : Met l Z EL1 n0 bk (⟨"java/lang/Math", "max", "(II)I"⟩ : MethodName) jdk_29_method_65_code 2 (Option.some FieldType.int) RM_maxg #[(.int u), (.int w)] h0 (Q_maxg Z G1 G3 d1 d2 us ss kd1 kd2 w1 w2 u w h0 n0 bk) ws := by
  have hX' := hX
  obtain ⟨hw, hE, S1, P1, S3, P3⟩ := hX'
  have hY' := hY
  obtain ⟨s_d1, a_d1, s_d2, a_d2, s_us, s_ss⟩ := hY'
  have hSA := sa_of hw
  have z0 : n0 ≤ h0.size := by rw [← O0.1]; exact O0.2.1
  refine Met.of (by decide +kernel) O0 hE ?_
  intro p e s m below meth c hx hby hml hret hlk hnm
  refine k_cast (ef_maxg m u w) ?_
  show Run p l e _ s m _ below meth c Z EL1 _ n0 bk h0 0 0 (mkF m 0 #[.val (.int u), .val (.int w)] []) _
  refine k_pure (g' := (mkF m 1 #[.val (.int u), .val (.int w)] [(.int u)])) (fun TT HH tt kk => XS.iloadN HH hx rfl (hb hby d_jdk_29_m_65_0) rfl kk) ?_
  refine k_pure (g' := (mkF m 2 #[.val (.int u), .val (.int w)] [(.int w), (.int u)])) (fun TT HH tt kk => XS.iloadN HH hx rfl (hb hby d_jdk_29_m_65_1) rfl kk) ?_
  by_cases c_1 : u < w
  · refine k_pure (g' := (mkF m 9 #[.val (.int u), .val (.int w)] [])) (fun TT HH tt kk => XS.icmpYes HH hx rfl (pc0 := 2) (pc' := 9) rfl (hb hby d_jdk_29_m_65_2) rfl (tlt c_1).1 (by decide) (by decide) kk) ?_
    refine k_pure (g' := (mkF m 10 #[.val (.int u), .val (.int w)] [(.int w)])) (fun TT HH tt kk => XS.iloadN HH hx rfl (hb hby d_jdk_29_m_65_9) rfl kk) ?_
    exact k_retI hx hlk hret (hb hby d_jdk_29_m_65_10) (by decide) (by decide) ⟨_, rfl, rfl, rfl, (by have r0 := rng32 u; have r1 := rng32 w; have r2 := (Int32.lt_iff_toInt_lt.mp c_1); omega)⟩
  · refine k_pure (g' := (mkF m 5 #[.val (.int u), .val (.int w)] [])) (fun TT HH tt kk => XS.icmpNo HH hx rfl (hb hby d_jdk_29_m_65_2) rfl (flt c_1).1 kk) ?_
    refine k_pure (g' := (mkF m 6 #[.val (.int u), .val (.int w)] [(.int u)])) (fun TT HH tt kk => XS.iloadN HH hx rfl (hb hby d_jdk_29_m_65_5) rfl kk) ?_
    refine k_pure (g' := (mkF m 10 #[.val (.int u), .val (.int w)] [(.int u)])) (fun TT HH tt kk => XS.goto HH hx rfl (pc0 := 6) (pc' := 10) rfl (hb hby d_jdk_29_m_65_6) (by decide) (by decide) kk) ?_
    exact k_retI hx hlk hret (hb hby d_jdk_29_m_65_10) (by decide) (by decide) ⟨_, rfl, rfl, rfl, (by have r0 := rng32 u; have r1 := rng32 w; have r2 : ¬ (u).toInt < (w).toInt := fun q => c_1 (Int32.lt_iff_toInt_lt.mpr q); omega)⟩
def Q_min0 (Z : State) (G1 : Int32) (G3 : Value) (d1 d2 us ss : Addr) (kd1 kd2 : ClassId) (w1 w2 : List Value) (u : Int32) (w : Int32) (h0 : Heap) (n0 : Nat) (bk : Addr → Prop) (v : Option Value) (h : Heap) (bk' : Addr → Prop) : Prop := v = some (.int u) ∧ h0 = h ∧ bk = bk'
theorem d_jdk_29_m_69_0 : decode jdk_29_method_69_code 0 = .ok (.iload_n 0, 1) := by decide +kernel
theorem d_jdk_29_m_69_1 : decode jdk_29_method_69_code 1 = .ok (.iload_n 1, 1) := by decide +kernel
theorem d_jdk_29_m_69_2 : decode jdk_29_method_69_code 2 = .ok (.if_icmp .gt 7, 3) := by decide +kernel
theorem d_jdk_29_m_69_5 : decode jdk_29_method_69_code 5 = .ok (.iload_n 0, 1) := by decide +kernel
theorem d_jdk_29_m_69_6 : decode jdk_29_method_69_code 6 = .ok (.goto 4, 3) := by decide +kernel
theorem d_jdk_29_m_69_10 : decode jdk_29_method_69_code 10 = .ok (.ireturn, 1) := by decide +kernel
abbrev RM_min0 : Room := { frames := 0, cells := 0, slots := 0, locals := 0 }
theorem ef_min0 (m : MethodId) (x0 : Int32) (x1 : Int32) : entryFrame m #[(.int x0), (.int x1)] 2 = mkF m 0 #[.val (.int x0), .val (.int x1)] [] := by first | (simp [entryFrame, mkF, argsToLocals, Value.category]; done) | rfl
set_option maxRecDepth 65536 in
set_option maxHeartbeats 40000000 in
theorem rm_min0 (l : Launch) (Z : State) (a0 : Array Value) (G1 : Int32) (G3 : Value) (d1 d2 us ss : Addr) (kd1 kd2 : ClassId) (w1 w2 : List Value) (hX : Ctx Z a0 G1 G3) (hY : More Z d1 d2 us ss kd1 kd2 w1 w2) (n0 : Nat) (bk : Addr → Prop) (h0 : Heap) (O0 : Old Z n0 h0) (u : Int32) (w : Int32) (h : ¬ w < u) (ws : List Jvm.Cond) : Met l Z EL1 n0 bk (⟨"java/lang/Math", "min", "(II)I"⟩ : MethodName) jdk_29_method_69_code 2 (Option.some FieldType.int) RM_min0 #[(.int u), (.int w)] h0 (Q_min0 Z G1 G3 d1 d2 us ss kd1 kd2 w1 w2 u w h0 n0 bk) ws := by
  have hX' := hX
  obtain ⟨hw, hE, S1, P1, S3, P3⟩ := hX'
  have hY' := hY
  obtain ⟨s_d1, a_d1, s_d2, a_d2, s_us, s_ss⟩ := hY'
  have hSA := sa_of hw
  have z0 : n0 ≤ h0.size := by rw [← O0.1]; exact O0.2.1
  refine Met.of (by decide +kernel) O0 hE ?_
  intro p e s m below meth c hx hby hml hret hlk hnm
  refine k_cast (ef_min0 m u w) ?_
  show Run p l e _ s m _ below meth c Z EL1 _ n0 bk h0 0 0 (mkF m 0 #[.val (.int u), .val (.int w)] []) _
  refine k_pure (g' := (mkF m 1 #[.val (.int u), .val (.int w)] [(.int u)])) (fun TT HH tt kk => XS.iloadN HH hx rfl (hb hby d_jdk_29_m_69_0) rfl kk) ?_
  refine k_pure (g' := (mkF m 2 #[.val (.int u), .val (.int w)] [(.int w), (.int u)])) (fun TT HH tt kk => XS.iloadN HH hx rfl (hb hby d_jdk_29_m_69_1) rfl kk) ?_
  refine k_pure (g' := (mkF m 5 #[.val (.int u), .val (.int w)] [])) (fun TT HH tt kk => XS.icmpNo HH hx rfl (hb hby d_jdk_29_m_69_2) rfl (flt h).2.2.1 kk) ?_
  refine k_pure (g' := (mkF m 6 #[.val (.int u), .val (.int w)] [(.int u)])) (fun TT HH tt kk => XS.iloadN HH hx rfl (hb hby d_jdk_29_m_69_5) rfl kk) ?_
  refine k_pure (g' := (mkF m 10 #[.val (.int u), .val (.int w)] [(.int u)])) (fun TT HH tt kk => XS.goto HH hx rfl (pc0 := 6) (pc' := 10) rfl (hb hby d_jdk_29_m_69_6) (by decide) (by decide) kk) ?_
  exact k_retI hx hlk hret (hb hby d_jdk_29_m_69_10) (by decide) (by decide) ⟨rfl, rfl, rfl⟩
def Q_min1 (Z : State) (G1 : Int32) (G3 : Value) (d1 d2 us ss : Addr) (kd1 kd2 : ClassId) (w1 w2 : List Value) (u : Int32) (w : Int32) (h0 : Heap) (n0 : Nat) (bk : Addr → Prop) (v : Option Value) (h : Heap) (bk' : Addr → Prop) : Prop := v = some (.int w) ∧ h0 = h ∧ bk = bk'
theorem d_jdk_29_m_69_9 : decode jdk_29_method_69_code 9 = .ok (.iload_n 1, 1) := by decide +kernel
abbrev RM_min1 : Room := { frames := 0, cells := 0, slots := 0, locals := 0 }
theorem ef_min1 (m : MethodId) (x0 : Int32) (x1 : Int32) : entryFrame m #[(.int x0), (.int x1)] 2 = mkF m 0 #[.val (.int x0), .val (.int x1)] [] := by first | (simp [entryFrame, mkF, argsToLocals, Value.category]; done) | rfl
set_option maxRecDepth 65536 in
set_option maxHeartbeats 40000000 in
theorem rm_min1 (l : Launch) (Z : State) (a0 : Array Value) (G1 : Int32) (G3 : Value) (d1 d2 us ss : Addr) (kd1 kd2 : ClassId) (w1 w2 : List Value) (hX : Ctx Z a0 G1 G3) (hY : More Z d1 d2 us ss kd1 kd2 w1 w2) (n0 : Nat) (bk : Addr → Prop) (h0 : Heap) (O0 : Old Z n0 h0) (u : Int32) (w : Int32) (h : w < u) (ws : List Jvm.Cond) : Met l Z EL1 n0 bk (⟨"java/lang/Math", "min", "(II)I"⟩ : MethodName) jdk_29_method_69_code 2 (Option.some FieldType.int) RM_min1 #[(.int u), (.int w)] h0 (Q_min1 Z G1 G3 d1 d2 us ss kd1 kd2 w1 w2 u w h0 n0 bk) ws := by
  have hX' := hX
  obtain ⟨hw, hE, S1, P1, S3, P3⟩ := hX'
  have hY' := hY
  obtain ⟨s_d1, a_d1, s_d2, a_d2, s_us, s_ss⟩ := hY'
  have hSA := sa_of hw
  have z0 : n0 ≤ h0.size := by rw [← O0.1]; exact O0.2.1
  refine Met.of (by decide +kernel) O0 hE ?_
  intro p e s m below meth c hx hby hml hret hlk hnm
  refine k_cast (ef_min1 m u w) ?_
  show Run p l e _ s m _ below meth c Z EL1 _ n0 bk h0 0 0 (mkF m 0 #[.val (.int u), .val (.int w)] []) _
  refine k_pure (g' := (mkF m 1 #[.val (.int u), .val (.int w)] [(.int u)])) (fun TT HH tt kk => XS.iloadN HH hx rfl (hb hby d_jdk_29_m_69_0) rfl kk) ?_
  refine k_pure (g' := (mkF m 2 #[.val (.int u), .val (.int w)] [(.int w), (.int u)])) (fun TT HH tt kk => XS.iloadN HH hx rfl (hb hby d_jdk_29_m_69_1) rfl kk) ?_
  refine k_pure (g' := (mkF m 9 #[.val (.int u), .val (.int w)] [])) (fun TT HH tt kk => XS.icmpYes HH hx rfl (pc0 := 2) (pc' := 9) rfl (hb hby d_jdk_29_m_69_2) rfl (tlt h).2.2.1 (by decide) (by decide) kk) ?_
  refine k_pure (g' := (mkF m 10 #[.val (.int u), .val (.int w)] [(.int w)])) (fun TT HH tt kk => XS.iloadN HH hx rfl (hb hby d_jdk_29_m_69_9) rfl kk) ?_
  exact k_retI hx hlk hret (hb hby d_jdk_29_m_69_10) (by decide) (by decide) ⟨rfl, rfl, rfl⟩
def Q_asi (Z : State) (G1 : Int32) (G3 : Value) (d1 d2 us ss : Addr) (kd1 kd2 : ClassId) (w1 w2 : List Value) (a : Addr) (h0 : Heap) (n0 : Nat) (bk : Addr → Prop) (v : Option Value) (h : Heap) (bk' : Addr → Prop) : Prop := ∃ (t : Addr), ∃ (kb : ClassId), v = none ∧ bk = bk' ∧ Keep h0 h [a] ∧ (SbW Z h a t kb 16 0 ([] : List Value)) ∧ (@LE.le Nat _ (Array.size h0) t) ∧ (¬ bk' t)
theorem d_jdk_68_m_2_0 : decode jdk_68_method_2_code 0 = .ok (.aload_n 0, 1) := by decide +kernel
theorem d_jdk_68_m_2_1 : decode jdk_68_method_2_code 1 = .ok (.invokespecial 3, 3) := by decide +kernel
theorem d_jdk_68_m_2_4 : decode jdk_68_method_2_code 4 = .ok (.getstatic 18, 3) := by decide +kernel
theorem d_jdk_68_m_2_7 : decode jdk_68_method_2_code 7 = .ok (.ifCond .eq 18, 3) := by decide +kernel
theorem d_jdk_68_m_2_10 : decode jdk_68_method_2_code 10 = .ok (.aload_n 0, 1) := by decide +kernel
theorem d_jdk_68_m_2_11 : decode jdk_68_method_2_code 11 = .ok (.iload_n 1, 1) := by decide +kernel
theorem d_jdk_68_m_2_12 : decode jdk_68_method_2_code 12 = .ok (.newarray .byte, 2) := by decide +kernel
theorem d_jdk_68_m_2_14 : decode jdk_68_method_2_code 14 = .ok (.putfield 15, 3) := by decide +kernel
theorem d_jdk_68_m_2_17 : decode jdk_68_method_2_code 17 = .ok (.aload_n 0, 1) := by decide +kernel
theorem d_jdk_68_m_2_18 : decode jdk_68_method_2_code 18 = .ok (.iconst 0, 1) := by decide +kernel
theorem d_jdk_68_m_2_19 : decode jdk_68_method_2_code 19 = .ok (.putfield 22, 3) := by decide +kernel
theorem d_jdk_68_m_2_22 : decode jdk_68_method_2_code 22 = .ok (.goto 16, 3) := by decide +kernel
theorem d_jdk_68_m_2_38 : decode jdk_68_method_2_code 38 = .ok (.return_, 1) := by decide +kernel
abbrev RM_asi : Room := { frames := 1, cells := 1, slots := 16, locals := 12 }
theorem ef_asi (m : MethodId) (x0 : Addr) (x1 : Int32) : entryFrame m #[(.ref x0), (.int x1)] 2 = mkF m 0 #[.val (.ref x0), .val (.int x1)] [] := by first | (simp [entryFrame, mkF, argsToLocals, Value.category]; done) | rfl
set_option maxRecDepth 65536 in
set_option maxHeartbeats 40000000 in
theorem rm_asi (l : Launch) (Z : State) (a0 : Array Value) (G1 : Int32) (G3 : Value) (d1 d2 us ss : Addr) (kd1 kd2 : ClassId) (w1 w2 : List Value) (hX : Ctx Z a0 G1 G3) (hY : More Z d1 d2 us ss kd1 kd2 w1 w2) (n0 : Nat) (bk : Addr → Prop) (h0 : Heap) (O0 : Old Z n0 h0) (a : Addr) (pf_0 : Exa Z h0 a "java/lang/StringBuilder") (pf_1 : Fld Z h0 a "java/lang/AbstractStringBuilder" "value" "[B" .null) (pf_2 : Fld Z h0 a "java/lang/AbstractStringBuilder" "coder" "B" (.int (0 : Int32))) (pf_3 : Fld Z h0 a "java/lang/AbstractStringBuilder" "count" "I" (.int (0 : Int32))) (hbl : ∀ y, bk y → @LT.lt Nat _ y (Array.size h0)) (nba : ¬ bk a) (ga : n0 ≤ a) (ws : List Jvm.Cond) : Met l Z EL1 n0 bk (⟨"java/lang/AbstractStringBuilder", "<init>", "(I)V"⟩ : MethodName) jdk_68_method_2_code 2 (Option.none : Option FieldType) RM_asi #[(.ref a), (.int (16 : Int32))] h0 (Q_asi Z G1 G3 d1 d2 us ss kd1 kd2 w1 w2 a h0 n0 bk) ws := by
  have hX' := hX
  obtain ⟨hw, hE, S1, P1, S3, P3⟩ := hX'
  have hY' := hY
  obtain ⟨s_d1, a_d1, s_d2, a_d2, s_us, s_ss⟩ := hY'
  have hSA := sa_of hw
  have z0 : n0 ≤ h0.size := by rw [← O0.1]; exact O0.2.1
  refine Met.of (by decide +kernel) O0 hE ?_
  intro p e s m below meth c hx hby hml hret hlk hnm
  refine k_cast (ef_asi m a (16 : Int32)) ?_
  show Run p l e _ s m _ below meth c Z EL1 _ n0 bk h0 0 0 (mkF m 0 #[.val (.ref a), .val (.int (16 : Int32))] []) _
  have lt_1 : @LT.lt Nat _ a (Array.size h0) := pf_0.lt
  have lt_2 : @LT.lt Nat _ a (Array.size h0) := pf_1.lt
  have lt_3 : @LT.lt Nat _ a (Array.size h0) := pf_2.lt
  have lt_4 : @LT.lt Nat _ a (Array.size h0) := pf_3.lt
  refine k_pure (g' := (mkF m 1 #[.val (.ref a), .val (.int (16 : Int32))] [(.ref a)])) (fun TT HH tt kk => XS.aloadN HH hx rfl (hb hby d_jdk_68_m_2_0) rfl rfl kk) ?_
  refine k_initO hx (hw _ (List.mem_of_getElem? (i := 18) rfl)) (hw _ (List.mem_of_getElem? (i := 19) rfl)) (hw _ (List.mem_of_getElem? (i := 20) rfl)) rfl (by rw [hml]; rfl) rfl (hb hby d_jdk_68_m_2_1) (by decide) (W := 0) (by show 2 * 0 + _ ≤ _; exact Nat.le_of_eq rfl) (by decide) ?_
  show Run p l e _ s m _ below meth c Z EL1 _ n0 bk h0 0 0 (mkF m 4 #[.val (.ref a), .val (.int (16 : Int32))] []) _
  refine k_getS hx (host := "") (Or.inl (hw _ (List.mem_of_getElem? (i := 21) rfl))) Via.refl (S1.ext O0.2) rfl (hb hby d_jdk_68_m_2_4) ?_
  show Run p l e _ s m _ below meth c Z EL1 _ n0 bk h0 0 0 (mkF m 7 #[.val (.ref a), .val (.int (16 : Int32))] [(.int G1)]) _
  refine k_pure (g' := (mkF m 10 #[.val (.ref a), .val (.int (16 : Int32))] [])) (fun TT HH tt kk => XS.ifNo HH hx rfl (hb hby d_jdk_68_m_2_7) rfl ((if0 _ _).trans (feq P1).1) kk) ?_
  refine k_pure (g' := (mkF m 11 #[.val (.ref a), .val (.int (16 : Int32))] [(.ref a)])) (fun TT HH tt kk => XS.aloadN HH hx rfl (hb hby d_jdk_68_m_2_10) rfl rfl kk) ?_
  refine k_pure (g' := (mkF m 12 #[.val (.ref a), .val (.int (16 : Int32))] [(.int (16 : Int32)), (.ref a)])) (fun TT HH tt kk => XS.iloadN HH hx rfl (hb hby d_jdk_68_m_2_11) rfl kk) ?_
  refine k_newP hx (hw _ (List.mem_of_getElem? (i := 23) rfl)) rfl (hb hby d_jdk_68_m_2_12) rfl (by decide) (cap := 16) (by decide) (by decide) (by decide) (by decide) "[B" (by decide +kernel) ?_
  intro h_6 a_5 k_7 g_8 O_9 E_10 A_11 X_12
  have z_13 := E_10.1
  have lt_14 : @LT.lt Nat _ a_5 (Array.size h_6) := A_11.lt
  have nb_15 : ¬ bk a_5 := fun q => Nat.not_le_of_lt (hbl _ q) (show @LE.le Nat _ (Array.size h0) a_5 by omega)
  show Run p l e _ s m _ below meth c Z EL1 _ n0 bk h_6 1 16 (mkF m 14 #[.val (.ref a), .val (.int (16 : Int32))] [(.ref a_5), (.ref a)]) _
  have F_16 : Fld Z h_6 a "java/lang/AbstractStringBuilder" "value" "[B" .null := (pf_1.ext E_10)
  have F_17 : Exa Z h_6 a "java/lang/StringBuilder" := (pf_0.ext E_10)
  refine k_putF hx (host := "") (Or.inl (hw _ (List.mem_of_getElem? (i := 24) rfl))) Via.refl F_16 F_17 (Or.inl (hw _ (List.mem_of_getElem? (i := 25) rfl))) (hw _ (List.mem_of_getElem? (i := 7) rfl)) (ty := (.array .byte)) (by decide) rfl rfl (by omega) nba rfl rfl (hb hby d_jdk_68_m_2_14) ?_
  intro h_18 O_20 W_19
  have z_21 := W_19.size
  show Run p l e _ s m _ below meth c Z EL1 _ n0 bk h_18 1 16 (mkF m 17 #[.val (.ref a), .val (.int (16 : Int32))] []) _
  refine k_pure (g' := (mkF m 18 #[.val (.ref a), .val (.int (16 : Int32))] [(.ref a)])) (fun TT HH tt kk => XS.aloadN HH hx rfl (hb hby d_jdk_68_m_2_17) rfl rfl kk) ?_
  refine k_pure (g' := (mkF m 19 #[.val (.ref a), .val (.int (16 : Int32))] [(.int (0 : Int32)), (.ref a)])) (fun TT HH tt kk => XS.iconst HH hx rfl (hb hby d_jdk_68_m_2_18) kk) ?_
  have F_22 : Fld Z h_18 a "java/lang/AbstractStringBuilder" "coder" "B" (.int (0 : Int32)) := ((pf_2.ext E_10).other W_19 (Or.inr (RoadKit.slot_ne (C := "java/lang/StringBuilder") (Or.inl (hw _ (List.mem_of_getElem? (i := 27) rfl))) (Or.inl (hw _ (List.mem_of_getElem? (i := 25) rfl))) (by decide) (t := .byte) (t' := (.array .byte)) (by decide) (by decide))))
  have F_23 : Exa Z h_18 a "java/lang/StringBuilder" := (F_17.wr W_19)
  refine k_putF hx (host := "") (Or.inl (hw _ (List.mem_of_getElem? (i := 26) rfl))) Via.refl F_22 F_23 (Or.inl (hw _ (List.mem_of_getElem? (i := 27) rfl))) (hw _ (List.mem_of_getElem? (i := 7) rfl)) (ty := .byte) (by decide) rfl rfl (by omega) nba rfl rfl (hb hby d_jdk_68_m_2_19) ?_
  intro h_24 O_26 W_25
  have z_27 := W_25.size
  show Run p l e _ s m _ below meth c Z EL1 _ n0 bk h_24 1 16 (mkF m 22 #[.val (.ref a), .val (.int (16 : Int32))] []) _
  refine k_pure (g' := (mkF m 38 #[.val (.ref a), .val (.int (16 : Int32))] [])) (fun TT HH tt kk => XS.goto HH hx rfl (pc0 := 22) (pc' := 38) rfl (hb hby d_jdk_68_m_2_22) (by decide) (by decide) kk) ?_
  have F_28 : Exa Z h_24 a "java/lang/StringBuilder" := (F_23.wr W_25)
  have F_29 : Fld Z h_24 a "java/lang/AbstractStringBuilder" "value" "[B" (.ref a_5) := ((F_16.same W_19).other W_25 (Or.inr (RoadKit.slot_ne (C := "java/lang/StringBuilder") (Or.inl (hw _ (List.mem_of_getElem? (i := 25) rfl))) (Or.inl (hw _ (List.mem_of_getElem? (i := 27) rfl))) (by decide) (t := (.array .byte)) (t' := .byte) (by decide) (by decide))))
  have F_30 : Fld Z h_24 a "java/lang/AbstractStringBuilder" "count" "I" (.int (0 : Int32)) := (((pf_3.ext E_10).other W_19 (Or.inr (RoadKit.slot_ne (C := "java/lang/StringBuilder") (Or.inl (hw _ (List.mem_of_getElem? (i := 58) rfl))) (Or.inl (hw _ (List.mem_of_getElem? (i := 25) rfl))) (by decide) (t := .int) (t' := (.array .byte)) (by decide) (by decide)))).other W_25 (Or.inr (RoadKit.slot_ne (C := "java/lang/StringBuilder") (Or.inl (hw _ (List.mem_of_getElem? (i := 58) rfl))) (Or.inl (hw _ (List.mem_of_getElem? (i := 27) rfl))) (by decide) (t := .int) (t' := .byte) (by decide) (by decide))))
  have F_31 : Arv Z h_24 a_5 k_7 .byte (16 : Int32) [] (.int (0 : Int32)) := ((A_11.other W_19 (ne_ad (by omega))).other W_25 (ne_ad (by omega)))
  exact k_ret0 hx hlk hret (hb hby d_jdk_68_m_2_38) (by decide) (by decide) ⟨a_5, k_7, rfl, rfl, ((((Keep.refl _ _).ext E_10).wr W_19 (Or.inl (by simp))).wr W_25 (Or.inl (by simp))), ⟨F_28, (F_22.same W_25), F_29, F_30, F_31, by decide, by decide, (show @Ne Nat _ _ by omega)⟩, (by omega), nb_15⟩
def Q_sbi (Z : State) (G1 : Int32) (G3 : Value) (d1 d2 us ss : Addr) (kd1 kd2 : ClassId) (w1 w2 : List Value) (a : Addr) (h0 : Heap) (n0 : Nat) (bk : Addr → Prop) (v : Option Value) (h : Heap) (bk' : Addr → Prop) : Prop := ∃ (t : Addr), ∃ (kb : ClassId), v = none ∧ bk = bk' ∧ Keep h0 h [a] ∧ (SbW Z h a t kb 16 0 ([] : List Value)) ∧ (@LE.le Nat _ (Array.size h0) t) ∧ (¬ bk' t)
theorem d_jdk_67_m_1_0 : decode jdk_67_method_1_code 0 = .ok (.aload_n 0, 1) := by decide +kernel
theorem d_jdk_67_m_1_1 : decode jdk_67_method_1_code 1 = .ok (.bipush 16, 2) := by decide +kernel
theorem d_jdk_67_m_1_3 : decode jdk_67_method_1_code 3 = .ok (.invokespecial 1, 3) := by decide +kernel
theorem pd__28_I_29_V : parseMethodDescriptor "(I)V" = some ⟨[.int], none⟩ := by decide +kernel
theorem d_jdk_67_m_1_6 : decode jdk_67_method_1_code 6 = .ok (.return_, 1) := by decide +kernel
abbrev RM_sbi : Room := { frames := 2, cells := 1, slots := 16, locals := 25 }
theorem ef_sbi (m : MethodId) (x0 : Addr) : entryFrame m #[(.ref x0)] 1 = mkF m 0 #[.val (.ref x0)] [] := by first | (simp [entryFrame, mkF, argsToLocals, Value.category]; done) | rfl
set_option maxRecDepth 65536 in
set_option maxHeartbeats 40000000 in
theorem rm_sbi (l : Launch) (Z : State) (a0 : Array Value) (G1 : Int32) (G3 : Value) (d1 d2 us ss : Addr) (kd1 kd2 : ClassId) (w1 w2 : List Value) (hX : Ctx Z a0 G1 G3) (hY : More Z d1 d2 us ss kd1 kd2 w1 w2) (n0 : Nat) (bk : Addr → Prop) (h0 : Heap) (O0 : Old Z n0 h0) (a : Addr) (pf_0 : Exa Z h0 a "java/lang/StringBuilder") (pf_1 : Fld Z h0 a "java/lang/AbstractStringBuilder" "value" "[B" .null) (pf_2 : Fld Z h0 a "java/lang/AbstractStringBuilder" "coder" "B" (.int (0 : Int32))) (pf_3 : Fld Z h0 a "java/lang/AbstractStringBuilder" "count" "I" (.int (0 : Int32))) (hbl : ∀ y, bk y → @LT.lt Nat _ y (Array.size h0)) (nba : ¬ bk a) (ga : n0 ≤ a) (ws : List Jvm.Cond) : Met l Z EL1 n0 bk (⟨"java/lang/StringBuilder", "<init>", "()V"⟩ : MethodName) jdk_67_method_1_code 1 (Option.none : Option FieldType) RM_sbi #[(.ref a)] h0 (Q_sbi Z G1 G3 d1 d2 us ss kd1 kd2 w1 w2 a h0 n0 bk) ws := by
  have hX' := hX
  obtain ⟨hw, hE, S1, P1, S3, P3⟩ := hX'
  have hY' := hY
  obtain ⟨s_d1, a_d1, s_d2, a_d2, s_us, s_ss⟩ := hY'
  have hSA := sa_of hw
  have z0 : n0 ≤ h0.size := by rw [← O0.1]; exact O0.2.1
  refine Met.of (by decide +kernel) O0 hE ?_
  intro p e s m below meth c hx hby hml hret hlk hnm
  refine k_cast (ef_sbi m a) ?_
  show Run p l e _ s m _ below meth c Z EL1 _ n0 bk h0 0 0 (mkF m 0 #[.val (.ref a)] []) _
  have lt_1 : @LT.lt Nat _ a (Array.size h0) := pf_0.lt
  have lt_2 : @LT.lt Nat _ a (Array.size h0) := pf_1.lt
  have lt_3 : @LT.lt Nat _ a (Array.size h0) := pf_2.lt
  have lt_4 : @LT.lt Nat _ a (Array.size h0) := pf_3.lt
  refine k_pure (g' := (mkF m 1 #[.val (.ref a)] [(.ref a)])) (fun TT HH tt kk => XS.aloadN HH hx rfl (hb hby d_jdk_67_m_1_0) rfl rfl kk) ?_
  refine k_pure (g' := (mkF m 3 #[.val (.ref a)] [(.int (16 : Int32)), (.ref a)])) (fun TT HH tt kk => XS.bipush HH hx rfl (hb hby d_jdk_67_m_1_1) kk) ?_
  refine k_callI hx (y := (⟨"java/lang/AbstractStringBuilder", "<init>", "(I)V"⟩ : MethodName)) rfl (hw _ (List.mem_of_getElem? (i := 12) rfl)) (hw _ (List.mem_of_getElem? (i := 13) rfl)) (hw _ (List.mem_of_getElem? (i := 17) rfl)) (by decide) (W := 0) (a := a) (argsL := [(.int (16 : Int32))]) (rest := []) (Pays.of_met (rm_asi l Z a0 G1 G3 d1 d2 us ss kd1 kd2 w1 w2 hX hY n0 bk h0 O0 a pf_0 pf_1 pf_2 pf_3 hbl nba (by omega) []) (hw _ (List.mem_of_getElem? (i := 17) rfl)) (hw _ (List.mem_of_getElem? (i := 16) rfl)) (by decide) (by decide)) rfl (by rw [hml]; rfl) (lenOf pd__28_I_29_V rfl) rfl (by show 2 * 0 + _ ≤ _; exact Nat.le_of_eq rfl) (hb hby d_jdk_67_m_1_3) (by decide) (by decide) ?_
  intro v_5 h_6 bk_7 O_8 z_9 Q_10
  obtain ⟨a_11, k_12, rfl, rfl, K_13, F_14, P_15, P_16⟩ := Q_10
  have ne_17 : @Ne Nat a a_11 := F_14.2.2.2.2.2.2.2
  have lt_18 : @LT.lt Nat _ a (Array.size h_6) := F_14.lt1
  have lt_19 : @LT.lt Nat _ a_11 (Array.size h_6) := F_14.lt2
  show Run p l e _ s m _ below meth c Z EL1 _ n0 bk h_6 1 16 (mkF m 6 #[.val (.ref a)] []) _
  exact k_ret0 hx hlk hret (hb hby d_jdk_67_m_1_6) (by decide) (by decide) ⟨a_11, k_12, rfl, rfl, ((Keep.refl _ _).trans K_13 (kkS (Or.inl (by simp)) kk0)), F_14, (by omega), P_16⟩
def Q_nle (Z : State) (G1 : Int32) (G3 : Value) (d1 d2 us ss : Addr) (kd1 kd2 : ClassId) (w1 w2 : List Value) (u : Int32) (va : Int32) (wa : Int32) (h0 : Heap) (n0 : Nat) (bk : Addr → Prop) (v : Option Value) (h : Heap) (bk' : Addr → Prop) : Prop := ∃ (r : Int32), v = some (.int r) ∧ h0 = h ∧ bk = bk' ∧ (u.toInt + va.toInt ≤ r.toInt ∧ u.toInt + wa.toInt ≤ r.toInt ∧ r.toInt ≤ u.toInt + va.toInt + wa.toInt ∧ (r.toInt = u.toInt + va.toInt ∨ r.toInt = u.toInt + wa.toInt))
theorem d_jdk_48_m_27_0 : decode jdk_48_method_27_code 0 = .ok (.iload_n 0, 1) := by decide +kernel
theorem d_jdk_48_m_27_1 : decode jdk_48_method_27_code 1 = .ok (.iload_n 1, 1) := by decide +kernel
theorem d_jdk_48_m_27_2 : decode jdk_48_method_27_code 2 = .ok (.iload_n 2, 1) := by decide +kernel
theorem d_jdk_48_m_27_3 : decode jdk_48_method_27_code 3 = .ok (.invokestatic 194, 3) := by decide +kernel
theorem pd__28_II_29_I : parseMethodDescriptor "(II)I" = some ⟨[.int, .int], some .int⟩ := by decide +kernel
theorem d_jdk_48_m_27_6 : decode jdk_48_method_27_code 6 = .ok (.iadd, 1) := by decide +kernel
theorem d_jdk_48_m_27_7 : decode jdk_48_method_27_code 7 = .ok (.istore_n 3, 1) := by decide +kernel
theorem d_jdk_48_m_27_8 : decode jdk_48_method_27_code 8 = .ok (.iconst 0, 1) := by decide +kernel
theorem d_jdk_48_m_27_9 : decode jdk_48_method_27_code 9 = .ok (.iload_n 3, 1) := by decide +kernel
theorem d_jdk_48_m_27_10 : decode jdk_48_method_27_code 10 = .ok (.if_icmp .ge 11, 3) := by decide +kernel
theorem d_jdk_48_m_27_13 : decode jdk_48_method_27_code 13 = .ok (.iload_n 3, 1) := by decide +kernel
theorem d_jdk_48_m_27_14 : decode jdk_48_method_27_code 14 = .ok (.ldc 200, 2) := by decide +kernel
theorem d_jdk_48_m_27_16 : decode jdk_48_method_27_code 16 = .ok (.if_icmp .gt 5, 3) := by decide +kernel
theorem d_jdk_48_m_27_19 : decode jdk_48_method_27_code 19 = .ok (.iload_n 3, 1) := by decide +kernel
theorem d_jdk_48_m_27_20 : decode jdk_48_method_27_code 20 = .ok (.ireturn, 1) := by decide +kernel
abbrev RM_nle : Room := { frames := 1, cells := 0, slots := 0, locals := 14 }
theorem ef_nle (m : MethodId) (x0 : Int32) (x1 : Int32) (x2 : Int32) : entryFrame m #[(.int x0), (.int x1), (.int x2)] 4 = mkF m 0 #[.val (.int x0), .val (.int x1), .val (.int x2), .unset] [] := by first | (simp [entryFrame, mkF, argsToLocals, Value.category]; done) | rfl
set_option maxRecDepth 65536 in
set_option maxHeartbeats 40000000 in
theorem rm_nle (l : Launch) (Z : State) (a0 : Array Value) (G1 : Int32) (G3 : Value) (d1 d2 us ss : Addr) (kd1 kd2 : ClassId) (w1 w2 : List Value) (hX : Ctx Z a0 G1 G3) (hY : More Z d1 d2 us ss kd1 kd2 w1 w2) (n0 : Nat) (bk : Addr → Prop) (h0 : Heap) (O0 : Old Z n0 h0) (u : Int32) (va : Int32) (wa : Int32) (h1 : 0 ≤ u.toInt ∧ u.toInt ≤ 1000) (h2 : 0 < va.toInt ∧ va.toInt ≤ 1000) (h3 : 0 ≤ wa.toInt ∧ wa.toInt ≤ 3000) (ws : List Jvm.Cond) : Met l Z EL1 n0 bk (⟨"jdk/internal/util/ArraysSupport", "newLength", "(III)I"⟩ : MethodName) jdk_48_method_27_code 4 (Option.some FieldType.int) RM_nle #[(.int u), (.int va), (.int wa)] h0 (Q_nle Z G1 G3 d1 d2 us ss kd1 kd2 w1 w2 u va wa h0 n0 bk) ws := by
  have hX' := hX
  obtain ⟨hw, hE, S1, P1, S3, P3⟩ := hX'
  have hY' := hY
  obtain ⟨s_d1, a_d1, s_d2, a_d2, s_us, s_ss⟩ := hY'
  have hSA := sa_of hw
  have z0 : n0 ≤ h0.size := by rw [← O0.1]; exact O0.2.1
  refine Met.of (by decide +kernel) O0 hE ?_
  intro p e s m below meth c hx hby hml hret hlk hnm
  refine k_cast (ef_nle m u va wa) ?_
  show Run p l e _ s m _ below meth c Z EL1 _ n0 bk h0 0 0 (mkF m 0 #[.val (.int u), .val (.int va), .val (.int wa), .unset] []) _
  refine k_pure (g' := (mkF m 1 #[.val (.int u), .val (.int va), .val (.int wa), .unset] [(.int u)])) (fun TT HH tt kk => XS.iloadN HH hx rfl (hb hby d_jdk_48_m_27_0) rfl kk) ?_
  refine k_pure (g' := (mkF m 2 #[.val (.int u), .val (.int va), .val (.int wa), .unset] [(.int va), (.int u)])) (fun TT HH tt kk => XS.iloadN HH hx rfl (hb hby d_jdk_48_m_27_1) rfl kk) ?_
  refine k_pure (g' := (mkF m 3 #[.val (.int u), .val (.int va), .val (.int wa), .unset] [(.int wa), (.int va), (.int u)])) (fun TT HH tt kk => XS.iloadN HH hx rfl (hb hby d_jdk_48_m_27_2) rfl kk) ?_
  refine k_callS hx (y := (⟨"java/lang/Math", "max", "(II)I"⟩ : MethodName)) (hw _ (List.mem_of_getElem? (i := 73) rfl)) (hw _ (List.mem_of_getElem? (i := 74) rfl)) (hw _ (List.mem_of_getElem? (i := 75) rfl)) (hw _ (List.mem_of_getElem? (i := 76) rfl)) (by decide) (W := 1) (argsL := [(.int va), (.int wa)]) (rest := [(.int u)]) (Pays.of_met (rm_maxg l Z a0 G1 G3 d1 d2 us ss kd1 kd2 w1 w2 hX hY n0 bk h0 O0 va wa  []) (hw _ (List.mem_of_getElem? (i := 76) rfl)) (hw _ (List.mem_of_getElem? (i := 75) rfl)) (by decide) (by decide)) rfl (by rw [hml]; rfl) (lenOf pd__28_II_29_I rfl) rfl (by show 2 * 0 + _ ≤ _; exact Nat.le_of_eq rfl) (hb hby d_jdk_48_m_27_3) (by decide) (by decide) ?_
  intro v_1 h_2 bk_3 O_4 z_5 Q_6
  obtain ⟨i_7, rfl, rfl, rfl, P_8⟩ := Q_6
  show Run p l e _ s m _ below meth c Z EL1 _ n0 bk h0 0 0 (mkF m 6 #[.val (.int u), .val (.int va), .val (.int wa), .unset] [(.int i_7), (.int u)]) _
  refine k_pure (g' := (mkF m 7 #[.val (.int u), .val (.int va), .val (.int wa), .unset] [(.int (u + i_7))])) (fun TT HH tt kk => XS.iadd HH hx rfl (hb hby d_jdk_48_m_27_6) rfl kk) ?_
  refine k_pure (g' := (mkF m 8 #[.val (.int u), .val (.int va), .val (.int wa), .val (.int (u + i_7))] [])) (fun TT HH tt kk => XS.istoreN HH hx rfl (hb hby d_jdk_48_m_27_7) rfl (l' := #[.val (.int u), .val (.int va), .val (.int wa), .val (.int (u + i_7))]) rfl kk) ?_
  refine k_pure (g' := (mkF m 9 #[.val (.int u), .val (.int va), .val (.int wa), .val (.int (u + i_7))] [(.int (0 : Int32))])) (fun TT HH tt kk => XS.iconst HH hx rfl (hb hby d_jdk_48_m_27_8) kk) ?_
  refine k_pure (g' := (mkF m 10 #[.val (.int u), .val (.int va), .val (.int wa), .val (.int (u + i_7))] [(.int (u + i_7)), (.int (0 : Int32))])) (fun TT HH tt kk => XS.iloadN HH hx rfl (hb hby d_jdk_48_m_27_9) rfl kk) ?_
  refine k_pure (g' := (mkF m 13 #[.val (.int u), .val (.int va), .val (.int wa), .val (.int (u + i_7))] [])) (fun TT HH tt kk => XS.icmpNo HH hx rfl (hb hby d_jdk_48_m_27_10) rfl (tlt (by have r0 : (0 : Int32).toInt = 0 := (by decide); have r1 := rng32 u; have r2 := rng32 i_7; have r3 := c_iadd u i_7; have r4 := rng32 (u + i_7); have r5 := h1.1; have r6 := h1.2; have r7 := h2.1; have r8 := h2.2; have r9 := h3.1; have r10 := h3.2; have r11 := P_8.1; have r12 := P_8.2.1; have r13 := P_8.2.2; rw [Int32.lt_iff_toInt_lt]; omega)).2.1 kk) ?_
  refine k_pure (g' := (mkF m 14 #[.val (.int u), .val (.int va), .val (.int wa), .val (.int (u + i_7))] [(.int (u + i_7))])) (fun TT HH tt kk => XS.iloadN HH hx rfl (hb hby d_jdk_48_m_27_13) rfl kk) ?_
  refine k_ldcI hx (hw _ (List.mem_of_getElem? (i := 77) rfl)) rfl (hb hby d_jdk_48_m_27_14) ?_
  show Run p l e _ s m _ below meth c Z EL1 _ n0 bk h0 0 0 (mkF m 16 #[.val (.int u), .val (.int va), .val (.int wa), .val (.int (u + i_7))] [(.int (2147483639 : Int32)), (.int (u + i_7))]) _
  refine k_pure (g' := (mkF m 19 #[.val (.int u), .val (.int va), .val (.int wa), .val (.int (u + i_7))] [])) (fun TT HH tt kk => XS.icmpNo HH hx rfl (hb hby d_jdk_48_m_27_16) rfl (flt (by have r0 : (2147483639 : Int32).toInt = 2147483639 := (by decide); have r1 := rng32 u; have r2 := rng32 i_7; have r3 := c_iadd u i_7; have r4 := rng32 (u + i_7); have r5 := h1.1; have r6 := h1.2; have r7 := h2.1; have r8 := h2.2; have r9 := h3.1; have r10 := h3.2; have r11 := P_8.1; have r12 := P_8.2.1; have r13 := P_8.2.2; rw [Int32.lt_iff_toInt_lt]; omega)).2.2.1 kk) ?_
  refine k_pure (g' := (mkF m 20 #[.val (.int u), .val (.int va), .val (.int wa), .val (.int (u + i_7))] [(.int (u + i_7))])) (fun TT HH tt kk => XS.iloadN HH hx rfl (hb hby d_jdk_48_m_27_19) rfl kk) ?_
  exact k_retI hx hlk hret (hb hby d_jdk_48_m_27_20) (by decide) (by decide) ⟨_, rfl, rfl, rfl, (by have r0 := rng32 u; have r1 := rng32 i_7; have r2 := c_iadd u i_7; have r3 := rng32 (u + i_7); have r4 := h1.1; have r5 := h1.2; have r6 := h2.1; have r7 := h2.2; have r8 := h3.1; have r9 := h3.2; have r10 := P_8.1; have r11 := P_8.2.1; have r12 := P_8.2.2; omega)⟩
def Q_nca (Z : State) (G1 : Int32) (G3 : Value) (d1 d2 us ss : Addr) (kd1 kd2 : ClassId) (w1 w2 : List Value) (a : Addr) (t : Addr) (kb : ClassId) (N : Nat) (n : Nat) (vs : List Value) (k : Nat) (h0 : Heap) (n0 : Nat) (bk : Addr → Prop) (v : Option Value) (h : Heap) (bk' : Addr → Prop) : Prop := ∃ (M : Nat), v = some (.int (Int32.ofNat M)) ∧ h0 = h ∧ bk = bk' ∧ (k ≤ M ∧ 2 * N + 2 ≤ M ∧ M ≤ k + N + 2 ∧ (M = k ∨ M = 2 * N + 2))
theorem d_jdk_68_m_10_0 : decode jdk_68_method_10_code 0 = .ok (.aload_n 0, 1) := by decide +kernel
theorem d_jdk_68_m_10_1 : decode jdk_68_method_10_code 1 = .ok (.getfield 15, 3) := by decide +kernel
theorem d_jdk_68_m_10_4 : decode jdk_68_method_10_code 4 = .ok (.arraylength, 1) := by decide +kernel
theorem d_jdk_68_m_10_5 : decode jdk_68_method_10_code 5 = .ok (.istore_n 2, 1) := by decide +kernel
theorem d_jdk_68_m_10_6 : decode jdk_68_method_10_code 6 = .ok (.iload_n 1, 1) := by decide +kernel
theorem d_jdk_68_m_10_7 : decode jdk_68_method_10_code 7 = .ok (.aload_n 0, 1) := by decide +kernel
theorem d_jdk_68_m_10_8 : decode jdk_68_method_10_code 8 = .ok (.getfield 22, 3) := by decide +kernel
theorem d_jdk_68_m_10_11 : decode jdk_68_method_10_code 11 = .ok (.ishl, 1) := by decide +kernel
theorem d_jdk_68_m_10_12 : decode jdk_68_method_10_code 12 = .ok (.istore_n 3, 1) := by decide +kernel
theorem d_jdk_68_m_10_13 : decode jdk_68_method_10_code 13 = .ok (.iload_n 3, 1) := by decide +kernel
theorem d_jdk_68_m_10_14 : decode jdk_68_method_10_code 14 = .ok (.iload_n 2, 1) := by decide +kernel
theorem d_jdk_68_m_10_15 : decode jdk_68_method_10_code 15 = .ok (.isub, 1) := by decide +kernel
theorem d_jdk_68_m_10_16 : decode jdk_68_method_10_code 16 = .ok (.istore 4, 2) := by decide +kernel
theorem d_jdk_68_m_10_18 : decode jdk_68_method_10_code 18 = .ok (.iload_n 2, 1) := by decide +kernel
theorem d_jdk_68_m_10_19 : decode jdk_68_method_10_code 19 = .ok (.iload 4, 2) := by decide +kernel
theorem d_jdk_68_m_10_21 : decode jdk_68_method_10_code 21 = .ok (.iload_n 2, 1) := by decide +kernel
theorem d_jdk_68_m_10_22 : decode jdk_68_method_10_code 22 = .ok (.iconst 2, 1) := by decide +kernel
theorem d_jdk_68_m_10_23 : decode jdk_68_method_10_code 23 = .ok (.aload_n 0, 1) := by decide +kernel
theorem d_jdk_68_m_10_24 : decode jdk_68_method_10_code 24 = .ok (.getfield 22, 3) := by decide +kernel
theorem d_jdk_68_m_10_27 : decode jdk_68_method_10_code 27 = .ok (.ishl, 1) := by decide +kernel
theorem d_jdk_68_m_10_28 : decode jdk_68_method_10_code 28 = .ok (.iadd, 1) := by decide +kernel
theorem d_jdk_68_m_10_29 : decode jdk_68_method_10_code 29 = .ok (.invokestatic 114, 3) := by decide +kernel
theorem pd__28_III_29_I : parseMethodDescriptor "(III)I" = some ⟨[.int, .int, .int], some .int⟩ := by decide +kernel
theorem d_jdk_68_m_10_32 : decode jdk_68_method_10_code 32 = .ok (.istore 5, 2) := by decide +kernel
theorem d_jdk_68_m_10_34 : decode jdk_68_method_10_code 34 = .ok (.iload 5, 2) := by decide +kernel
theorem d_jdk_68_m_10_36 : decode jdk_68_method_10_code 36 = .ok (.ldc 39, 2) := by decide +kernel
theorem d_jdk_68_m_10_38 : decode jdk_68_method_10_code 38 = .ok (.if_icmp .ne 13, 3) := by decide +kernel
theorem d_jdk_68_m_10_51 : decode jdk_68_method_10_code 51 = .ok (.iload 5, 2) := by decide +kernel
theorem d_jdk_68_m_10_53 : decode jdk_68_method_10_code 53 = .ok (.aload_n 0, 1) := by decide +kernel
theorem d_jdk_68_m_10_54 : decode jdk_68_method_10_code 54 = .ok (.getfield 22, 3) := by decide +kernel
theorem d_jdk_68_m_10_57 : decode jdk_68_method_10_code 57 = .ok (.ishr, 1) := by decide +kernel
theorem d_jdk_68_m_10_58 : decode jdk_68_method_10_code 58 = .ok (.ireturn, 1) := by decide +kernel
abbrev RM_nca : Room := { frames := 2, cells := 0, slots := 0, locals := 29 }
theorem ef_nca (m : MethodId) (x0 : Addr) (x1 : Int32) : entryFrame m #[(.ref x0), (.int x1)] 6 = mkF m 0 #[.val (.ref x0), .val (.int x1), .unset, .unset, .unset, .unset] [] := by first | (simp [entryFrame, mkF, argsToLocals, Value.category]; done) | rfl
set_option maxRecDepth 65536 in
set_option maxHeartbeats 40000000 in
theorem rm_nca (l : Launch) (Z : State) (a0 : Array Value) (G1 : Int32) (G3 : Value) (d1 d2 us ss : Addr) (kd1 kd2 : ClassId) (w1 w2 : List Value) (hX : Ctx Z a0 G1 G3) (hY : More Z d1 d2 us ss kd1 kd2 w1 w2) (n0 : Nat) (bk : Addr → Prop) (h0 : Heap) (O0 : Old Z n0 h0) (a : Addr) (t : Addr) (kb : ClassId) (N : Nat) (n : Nat) (vs : List Value) (k : Nat) (pf_0 : SbW Z h0 a t kb N n vs) (h1 : N < k) (h2 : k ≤ 1000) (ws : List Jvm.Cond) : Met l Z EL1 n0 bk (⟨"java/lang/AbstractStringBuilder", "newCapacity", "(I)I"⟩ : MethodName) jdk_68_method_10_code 6 (Option.some FieldType.int) RM_nca #[(.ref a), (.int (Int32.ofNat k))] h0 (Q_nca Z G1 G3 d1 d2 us ss kd1 kd2 w1 w2 a t kb N n vs k h0 n0 bk) ws := by
  have hX' := hX
  obtain ⟨hw, hE, S1, P1, S3, P3⟩ := hX'
  have hY' := hY
  obtain ⟨s_d1, a_d1, s_d2, a_d2, s_us, s_ss⟩ := hY'
  have hSA := sa_of hw
  have z0 : n0 ≤ h0.size := by rw [← O0.1]; exact O0.2.1
  refine Met.of (by decide +kernel) O0 hE ?_
  intro p e s m below meth c hx hby hml hret hlk hnm
  refine k_cast (ef_nca m a (Int32.ofNat k)) ?_
  show Run p l e _ s m _ below meth c Z EL1 _ n0 bk h0 0 0 (mkF m 0 #[.val (.ref a), .val (.int (Int32.ofNat k)), .unset, .unset, .unset, .unset] []) _
  have ne_1 : @Ne Nat a t := pf_0.2.2.2.2.2.2.2
  have lt_2 : @LT.lt Nat _ a (Array.size h0) := pf_0.lt1
  have lt_3 : @LT.lt Nat _ t (Array.size h0) := pf_0.lt2
  refine k_pure (g' := (mkF m 1 #[.val (.ref a), .val (.int (Int32.ofNat k)), .unset, .unset, .unset, .unset] [(.ref a)])) (fun TT HH tt kk => XS.aloadN HH hx rfl (hb hby d_jdk_68_m_10_0) rfl rfl kk) ?_
  refine k_getF hx (host := "") (Or.inl (hw _ (List.mem_of_getElem? (i := 24) rfl))) Via.refl pf_0.2.2.1 rfl rfl (hb hby d_jdk_68_m_10_1) ?_
  show Run p l e _ s m _ below meth c Z EL1 _ n0 bk h0 0 0 (mkF m 4 #[.val (.ref a), .val (.int (Int32.ofNat k)), .unset, .unset, .unset, .unset] [(.ref t)]) _
  refine k_alen hx pf_0.2.2.2.2.1 rfl rfl (hb hby d_jdk_68_m_10_4) ?_
  show Run p l e _ s m _ below meth c Z EL1 _ n0 bk h0 0 0 (mkF m 5 #[.val (.ref a), .val (.int (Int32.ofNat k)), .unset, .unset, .unset, .unset] [(.int (Int32.ofNat N))]) _
  refine k_pure (g' := (mkF m 6 #[.val (.ref a), .val (.int (Int32.ofNat k)), .val (.int (Int32.ofNat N)), .unset, .unset, .unset] [])) (fun TT HH tt kk => XS.istoreN HH hx rfl (hb hby d_jdk_68_m_10_5) rfl (l' := #[.val (.ref a), .val (.int (Int32.ofNat k)), .val (.int (Int32.ofNat N)), .unset, .unset, .unset]) rfl kk) ?_
  refine k_pure (g' := (mkF m 7 #[.val (.ref a), .val (.int (Int32.ofNat k)), .val (.int (Int32.ofNat N)), .unset, .unset, .unset] [(.int (Int32.ofNat k))])) (fun TT HH tt kk => XS.iloadN HH hx rfl (hb hby d_jdk_68_m_10_6) rfl kk) ?_
  refine k_pure (g' := (mkF m 8 #[.val (.ref a), .val (.int (Int32.ofNat k)), .val (.int (Int32.ofNat N)), .unset, .unset, .unset] [(.ref a), (.int (Int32.ofNat k))])) (fun TT HH tt kk => XS.aloadN HH hx rfl (hb hby d_jdk_68_m_10_7) rfl rfl kk) ?_
  refine k_getF hx (host := "") (Or.inl (hw _ (List.mem_of_getElem? (i := 26) rfl))) Via.refl pf_0.2.1 rfl rfl (hb hby d_jdk_68_m_10_8) ?_
  show Run p l e _ s m _ below meth c Z EL1 _ n0 bk h0 0 0 (mkF m 11 #[.val (.ref a), .val (.int (Int32.ofNat k)), .val (.int (Int32.ofNat N)), .unset, .unset, .unset] [(.int (0 : Int32)), (.int (Int32.ofNat k))]) _
  refine k_pure (g' := (mkF m 12 #[.val (.ref a), .val (.int (Int32.ofNat k)), .val (.int (Int32.ofNat N)), .unset, .unset, .unset] [(.int ((Int32.ofNat k) <<< ((0 : Int32) &&& 31)))])) (fun TT HH tt kk => XS.ishl HH hx rfl (hb hby d_jdk_68_m_10_11) rfl kk) ?_
  rw [shl0]
  show Run p l e _ s m _ below meth c Z EL1 _ n0 bk h0 0 0 (mkF m 12 #[.val (.ref a), .val (.int (Int32.ofNat k)), .val (.int (Int32.ofNat N)), .unset, .unset, .unset] [(.int (Int32.ofNat k))]) _
  refine k_pure (g' := (mkF m 13 #[.val (.ref a), .val (.int (Int32.ofNat k)), .val (.int (Int32.ofNat N)), .val (.int (Int32.ofNat k)), .unset, .unset] [])) (fun TT HH tt kk => XS.istoreN HH hx rfl (hb hby d_jdk_68_m_10_12) rfl (l' := #[.val (.ref a), .val (.int (Int32.ofNat k)), .val (.int (Int32.ofNat N)), .val (.int (Int32.ofNat k)), .unset, .unset]) rfl kk) ?_
  refine k_pure (g' := (mkF m 14 #[.val (.ref a), .val (.int (Int32.ofNat k)), .val (.int (Int32.ofNat N)), .val (.int (Int32.ofNat k)), .unset, .unset] [(.int (Int32.ofNat k))])) (fun TT HH tt kk => XS.iloadN HH hx rfl (hb hby d_jdk_68_m_10_13) rfl kk) ?_
  refine k_pure (g' := (mkF m 15 #[.val (.ref a), .val (.int (Int32.ofNat k)), .val (.int (Int32.ofNat N)), .val (.int (Int32.ofNat k)), .unset, .unset] [(.int (Int32.ofNat N)), (.int (Int32.ofNat k))])) (fun TT HH tt kk => XS.iloadN HH hx rfl (hb hby d_jdk_68_m_10_14) rfl kk) ?_
  refine k_pure (g' := (mkF m 16 #[.val (.ref a), .val (.int (Int32.ofNat k)), .val (.int (Int32.ofNat N)), .val (.int (Int32.ofNat k)), .unset, .unset] [(.int ((Int32.ofNat k) - (Int32.ofNat N)))])) (fun TT HH tt kk => XS.isub HH hx rfl (hb hby d_jdk_68_m_10_15) rfl kk) ?_
  refine k_pure (g' := (mkF m 18 #[.val (.ref a), .val (.int (Int32.ofNat k)), .val (.int (Int32.ofNat N)), .val (.int (Int32.ofNat k)), .val (.int ((Int32.ofNat k) - (Int32.ofNat N))), .unset] [])) (fun TT HH tt kk => XS.istore HH hx rfl (hb hby d_jdk_68_m_10_16) rfl (l' := #[.val (.ref a), .val (.int (Int32.ofNat k)), .val (.int (Int32.ofNat N)), .val (.int (Int32.ofNat k)), .val (.int ((Int32.ofNat k) - (Int32.ofNat N))), .unset]) rfl kk) ?_
  refine k_pure (g' := (mkF m 19 #[.val (.ref a), .val (.int (Int32.ofNat k)), .val (.int (Int32.ofNat N)), .val (.int (Int32.ofNat k)), .val (.int ((Int32.ofNat k) - (Int32.ofNat N))), .unset] [(.int (Int32.ofNat N))])) (fun TT HH tt kk => XS.iloadN HH hx rfl (hb hby d_jdk_68_m_10_18) rfl kk) ?_
  refine k_pure (g' := (mkF m 21 #[.val (.ref a), .val (.int (Int32.ofNat k)), .val (.int (Int32.ofNat N)), .val (.int (Int32.ofNat k)), .val (.int ((Int32.ofNat k) - (Int32.ofNat N))), .unset] [(.int ((Int32.ofNat k) - (Int32.ofNat N))), (.int (Int32.ofNat N))])) (fun TT HH tt kk => XS.iload HH hx rfl (hb hby d_jdk_68_m_10_19) rfl kk) ?_
  refine k_pure (g' := (mkF m 22 #[.val (.ref a), .val (.int (Int32.ofNat k)), .val (.int (Int32.ofNat N)), .val (.int (Int32.ofNat k)), .val (.int ((Int32.ofNat k) - (Int32.ofNat N))), .unset] [(.int (Int32.ofNat N)), (.int ((Int32.ofNat k) - (Int32.ofNat N))), (.int (Int32.ofNat N))])) (fun TT HH tt kk => XS.iloadN HH hx rfl (hb hby d_jdk_68_m_10_21) rfl kk) ?_
  refine k_pure (g' := (mkF m 23 #[.val (.ref a), .val (.int (Int32.ofNat k)), .val (.int (Int32.ofNat N)), .val (.int (Int32.ofNat k)), .val (.int ((Int32.ofNat k) - (Int32.ofNat N))), .unset] [(.int (2 : Int32)), (.int (Int32.ofNat N)), (.int ((Int32.ofNat k) - (Int32.ofNat N))), (.int (Int32.ofNat N))])) (fun TT HH tt kk => XS.iconst HH hx rfl (hb hby d_jdk_68_m_10_22) kk) ?_
  refine k_pure (g' := (mkF m 24 #[.val (.ref a), .val (.int (Int32.ofNat k)), .val (.int (Int32.ofNat N)), .val (.int (Int32.ofNat k)), .val (.int ((Int32.ofNat k) - (Int32.ofNat N))), .unset] [(.ref a), (.int (2 : Int32)), (.int (Int32.ofNat N)), (.int ((Int32.ofNat k) - (Int32.ofNat N))), (.int (Int32.ofNat N))])) (fun TT HH tt kk => XS.aloadN HH hx rfl (hb hby d_jdk_68_m_10_23) rfl rfl kk) ?_
  refine k_getF hx (host := "") (Or.inl (hw _ (List.mem_of_getElem? (i := 26) rfl))) Via.refl pf_0.2.1 rfl rfl (hb hby d_jdk_68_m_10_24) ?_
  show Run p l e _ s m _ below meth c Z EL1 _ n0 bk h0 0 0 (mkF m 27 #[.val (.ref a), .val (.int (Int32.ofNat k)), .val (.int (Int32.ofNat N)), .val (.int (Int32.ofNat k)), .val (.int ((Int32.ofNat k) - (Int32.ofNat N))), .unset] [(.int (0 : Int32)), (.int (2 : Int32)), (.int (Int32.ofNat N)), (.int ((Int32.ofNat k) - (Int32.ofNat N))), (.int (Int32.ofNat N))]) _
  refine k_pure (g' := (mkF m 28 #[.val (.ref a), .val (.int (Int32.ofNat k)), .val (.int (Int32.ofNat N)), .val (.int (Int32.ofNat k)), .val (.int ((Int32.ofNat k) - (Int32.ofNat N))), .unset] [(.int (2 : Int32)), (.int (Int32.ofNat N)), (.int ((Int32.ofNat k) - (Int32.ofNat N))), (.int (Int32.ofNat N))])) (fun TT HH tt kk => XS.ishl HH hx rfl (hb hby d_jdk_68_m_10_27) rfl kk) ?_
  refine k_pure (g' := (mkF m 29 #[.val (.ref a), .val (.int (Int32.ofNat k)), .val (.int (Int32.ofNat N)), .val (.int (Int32.ofNat k)), .val (.int ((Int32.ofNat k) - (Int32.ofNat N))), .unset] [(.int ((Int32.ofNat N) + (2 : Int32))), (.int ((Int32.ofNat k) - (Int32.ofNat N))), (.int (Int32.ofNat N))])) (fun TT HH tt kk => XS.iadd HH hx rfl (hb hby d_jdk_68_m_10_28) rfl kk) ?_
  refine k_callS hx (y := (⟨"jdk/internal/util/ArraysSupport", "newLength", "(III)I"⟩ : MethodName)) (hw _ (List.mem_of_getElem? (i := 69) rfl)) (hw _ (List.mem_of_getElem? (i := 70) rfl)) (hw _ (List.mem_of_getElem? (i := 71) rfl)) (hw _ (List.mem_of_getElem? (i := 72) rfl)) (by decide) (W := 0) (argsL := [(.int (Int32.ofNat N)), (.int ((Int32.ofNat k) - (Int32.ofNat N))), (.int ((Int32.ofNat N) + (2 : Int32)))]) (rest := []) (Pays.of_met (rm_nle l Z a0 G1 G3 d1 d2 us ss kd1 kd2 w1 w2 hX hY n0 bk h0 O0 (Int32.ofNat N) ((Int32.ofNat k) - (Int32.ofNat N)) ((Int32.ofNat N) + (2 : Int32)) (by have r0 := rng32 (Int32.ofNat N); have r1 := toI (n := k) (by omega); have r2 := toI (n := N) (by omega); have r3 := h1; have r4 := h2; have r5 := pf_0.2.2.2.2.2.2.1; omega) (by have r0 := rng32 (Int32.ofNat k); have r1 := rng32 (Int32.ofNat N); have r2 := c_isub (Int32.ofNat k) (Int32.ofNat N); have r3 := rng32 ((Int32.ofNat k) - (Int32.ofNat N)); have r4 := toI (n := k) (by omega); have r5 := toI (n := N) (by omega); have r6 := h1; have r7 := h2; have r8 := pf_0.2.2.2.2.2.2.1; omega) (by have r0 := rng32 (Int32.ofNat N); have r1 : (2 : Int32).toInt = 2 := (by decide); have r2 := c_iadd (Int32.ofNat N) (2 : Int32); have r3 := rng32 ((Int32.ofNat N) + (2 : Int32)); have r4 := toI (n := k) (by omega); have r5 := toI (n := N) (by omega); have r6 := h1; have r7 := h2; have r8 := pf_0.2.2.2.2.2.2.1; omega) []) (hw _ (List.mem_of_getElem? (i := 72) rfl)) (hw _ (List.mem_of_getElem? (i := 71) rfl)) (by decide) (by decide)) rfl (by rw [hml]; rfl) (lenOf pd__28_III_29_I rfl) rfl (by show 2 * 0 + _ ≤ _; exact Nat.le_of_eq rfl) (hb hby d_jdk_68_m_10_29) (by decide) (by decide) ?_
  intro v_4 h_5 bk_6 O_7 z_8 Q_9
  obtain ⟨i_10, rfl, rfl, rfl, P_11⟩ := Q_9
  show Run p l e _ s m _ below meth c Z EL1 _ n0 bk h0 0 0 (mkF m 32 #[.val (.ref a), .val (.int (Int32.ofNat k)), .val (.int (Int32.ofNat N)), .val (.int (Int32.ofNat k)), .val (.int ((Int32.ofNat k) - (Int32.ofNat N))), .unset] [(.int i_10)]) _
  refine k_pure (g' := (mkF m 34 #[.val (.ref a), .val (.int (Int32.ofNat k)), .val (.int (Int32.ofNat N)), .val (.int (Int32.ofNat k)), .val (.int ((Int32.ofNat k) - (Int32.ofNat N))), .val (.int i_10)] [])) (fun TT HH tt kk => XS.istore HH hx rfl (hb hby d_jdk_68_m_10_32) rfl (l' := #[.val (.ref a), .val (.int (Int32.ofNat k)), .val (.int (Int32.ofNat N)), .val (.int (Int32.ofNat k)), .val (.int ((Int32.ofNat k) - (Int32.ofNat N))), .val (.int i_10)]) rfl kk) ?_
  refine k_pure (g' := (mkF m 36 #[.val (.ref a), .val (.int (Int32.ofNat k)), .val (.int (Int32.ofNat N)), .val (.int (Int32.ofNat k)), .val (.int ((Int32.ofNat k) - (Int32.ofNat N))), .val (.int i_10)] [(.int i_10)])) (fun TT HH tt kk => XS.iload HH hx rfl (hb hby d_jdk_68_m_10_34) rfl kk) ?_
  refine k_ldcI hx (hw _ (List.mem_of_getElem? (i := 78) rfl)) rfl (hb hby d_jdk_68_m_10_36) ?_
  show Run p l e _ s m _ below meth c Z EL1 _ n0 bk h0 0 0 (mkF m 38 #[.val (.ref a), .val (.int (Int32.ofNat k)), .val (.int (Int32.ofNat N)), .val (.int (Int32.ofNat k)), .val (.int ((Int32.ofNat k) - (Int32.ofNat N))), .val (.int i_10)] [(.int (2147483647 : Int32)), (.int i_10)]) _
  refine k_pure (g' := (mkF m 51 #[.val (.ref a), .val (.int (Int32.ofNat k)), .val (.int (Int32.ofNat N)), .val (.int (Int32.ofNat k)), .val (.int ((Int32.ofNat k) - (Int32.ofNat N))), .val (.int i_10)] [])) (fun TT HH tt kk => XS.icmpYes HH hx rfl (pc0 := 38) (pc' := 51) rfl (hb hby d_jdk_68_m_10_38) rfl (feq (by have r0 := rng32 i_10; have r1 : (2147483647 : Int32).toInt = 2147483647 := (by decide); have r2 := toI (n := k) (by omega); have r3 := toI (n := N) (by omega); have r4 := h1; have r5 := h2; have r6 := pf_0.2.2.2.2.2.2.1; have r7 := P_11.1; have r8 := P_11.2.2; have r9 := rng32 (Int32.ofNat k); have r10 := rng32 (Int32.ofNat N); have r11 := c_isub (Int32.ofNat k) (Int32.ofNat N); have r12 := rng32 ((Int32.ofNat k) - (Int32.ofNat N)); have r13 := rng32 (Int32.ofNat N); have r14 : (2 : Int32).toInt = 2 := (by decide); have r15 := c_iadd (Int32.ofNat N) (2 : Int32); have r16 := rng32 ((Int32.ofNat N) + (2 : Int32)); rw [← Int32.toInt_inj]; omega)).2 (by decide) (by decide) kk) ?_
  refine k_pure (g' := (mkF m 53 #[.val (.ref a), .val (.int (Int32.ofNat k)), .val (.int (Int32.ofNat N)), .val (.int (Int32.ofNat k)), .val (.int ((Int32.ofNat k) - (Int32.ofNat N))), .val (.int i_10)] [(.int i_10)])) (fun TT HH tt kk => XS.iload HH hx rfl (hb hby d_jdk_68_m_10_51) rfl kk) ?_
  refine k_pure (g' := (mkF m 54 #[.val (.ref a), .val (.int (Int32.ofNat k)), .val (.int (Int32.ofNat N)), .val (.int (Int32.ofNat k)), .val (.int ((Int32.ofNat k) - (Int32.ofNat N))), .val (.int i_10)] [(.ref a), (.int i_10)])) (fun TT HH tt kk => XS.aloadN HH hx rfl (hb hby d_jdk_68_m_10_53) rfl rfl kk) ?_
  refine k_getF hx (host := "") (Or.inl (hw _ (List.mem_of_getElem? (i := 26) rfl))) Via.refl pf_0.2.1 rfl rfl (hb hby d_jdk_68_m_10_54) ?_
  show Run p l e _ s m _ below meth c Z EL1 _ n0 bk h0 0 0 (mkF m 57 #[.val (.ref a), .val (.int (Int32.ofNat k)), .val (.int (Int32.ofNat N)), .val (.int (Int32.ofNat k)), .val (.int ((Int32.ofNat k) - (Int32.ofNat N))), .val (.int i_10)] [(.int (0 : Int32)), (.int i_10)]) _
  refine k_pure (g' := (mkF m 58 #[.val (.ref a), .val (.int (Int32.ofNat k)), .val (.int (Int32.ofNat N)), .val (.int (Int32.ofNat k)), .val (.int ((Int32.ofNat k) - (Int32.ofNat N))), .val (.int i_10)] [(.int (i_10 >>> ((0 : Int32) &&& 31)))])) (fun TT HH tt kk => XS.ishr HH hx rfl (hb hby d_jdk_68_m_10_57) rfl kk) ?_
  rw [shr0]
  show Run p l e _ s m _ below meth c Z EL1 _ n0 bk h0 0 0 (mkF m 58 #[.val (.ref a), .val (.int (Int32.ofNat k)), .val (.int (Int32.ofNat N)), .val (.int (Int32.ofNat k)), .val (.int ((Int32.ofNat k) - (Int32.ofNat N))), .val (.int i_10)] [(.int i_10)]) _
  exact k_retI hx hlk hret (hb hby d_jdk_68_m_10_58) (by decide) (by decide) ⟨(i_10).toInt.toNat, (by rw [of_toNat (by have r0 := rng32 i_10; have r1 := toI (n := k) (by omega); have r2 := toI (n := N) (by omega); have r3 := h1; have r4 := h2; have r5 := pf_0.2.2.2.2.2.2.1; have r6 := P_11.1; have r7 := rng32 (Int32.ofNat k); have r8 := rng32 (Int32.ofNat N); have r9 := c_isub (Int32.ofNat k) (Int32.ofNat N); have r10 := rng32 ((Int32.ofNat k) - (Int32.ofNat N)); have r11 := rng32 (Int32.ofNat N); have r12 : (2 : Int32).toInt = 2 := (by decide); have r13 := c_iadd (Int32.ofNat N) (2 : Int32); have r14 := rng32 ((Int32.ofNat N) + (2 : Int32)); omega)]), rfl, rfl, (by have r0 := rng32 i_10; have r1 := toI (n := k) (by omega); have r2 := toI (n := N) (by omega); have r3 := h1; have r4 := h2; have r5 := pf_0.2.2.2.2.2.2.1; have r6 := P_11.1; have r7 := P_11.2.1; have r8 := P_11.2.2; have r9 := rng32 (Int32.ofNat k); have r10 := rng32 (Int32.ofNat N); have r11 := c_isub (Int32.ofNat k) (Int32.ofNat N); have r12 := rng32 ((Int32.ofNat k) - (Int32.ofNat N)); have r13 := rng32 (Int32.ofNat N); have r14 : (2 : Int32).toInt = 2 := (by decide); have r15 := c_iadd (Int32.ofNat N) (2 : Int32); have r16 := rng32 ((Int32.ofNat N) + (2 : Int32)); omega)⟩
def Q_cof (Z : State) (G1 : Int32) (G3 : Value) (d1 d2 us ss : Addr) (kd1 kd2 : ClassId) (w1 w2 : List Value) (t : Addr) (kb : ClassId) (N : Nat) (vs : List Value) (M : Nat) (h0 : Heap) (n0 : Nat) (bk : Addr → Prop) (v : Option Value) (h : Heap) (bk' : Addr → Prop) : Prop := ∃ (u : Addr), ∃ (ku : ClassId), ∃ (us : List Value), v = some (.ref u) ∧ bk = bk' ∧ Keep h0 h [] ∧ (Arv Z h u ku .byte (Int32.ofNat M) us (.int 0)) ∧ (@LE.le Nat _ (Array.size h0) u) ∧ (¬ bk' u)
theorem d_jdk_65_m_121_0 : decode jdk_65_method_121_code 0 = .ok (.iload_n 1, 1) := by decide +kernel
theorem d_jdk_65_m_121_1 : decode jdk_65_method_121_code 1 = .ok (.aload_n 0, 1) := by decide +kernel
theorem d_jdk_65_m_121_2 : decode jdk_65_method_121_code 2 = .ok (.arraylength, 1) := by decide +kernel
theorem d_jdk_65_m_121_3 : decode jdk_65_method_121_code 3 = .ok (.if_icmp .ne 11, 3) := by decide +kernel
theorem d_jdk_65_m_121_14 : decode jdk_65_method_121_code 14 = .ok (.iload_n 1, 1) := by decide +kernel
theorem d_jdk_65_m_121_15 : decode jdk_65_method_121_code 15 = .ok (.newarray .byte, 2) := by decide +kernel
theorem d_jdk_65_m_121_17 : decode jdk_65_method_121_code 17 = .ok (.astore_n 2, 1) := by decide +kernel
theorem d_jdk_65_m_121_18 : decode jdk_65_method_121_code 18 = .ok (.aload_n 0, 1) := by decide +kernel
theorem d_jdk_65_m_121_19 : decode jdk_65_method_121_code 19 = .ok (.iconst 0, 1) := by decide +kernel
theorem d_jdk_65_m_121_20 : decode jdk_65_method_121_code 20 = .ok (.aload_n 2, 1) := by decide +kernel
theorem d_jdk_65_m_121_21 : decode jdk_65_method_121_code 21 = .ok (.iconst 0, 1) := by decide +kernel
theorem d_jdk_65_m_121_22 : decode jdk_65_method_121_code 22 = .ok (.aload_n 0, 1) := by decide +kernel
theorem d_jdk_65_m_121_23 : decode jdk_65_method_121_code 23 = .ok (.arraylength, 1) := by decide +kernel
theorem d_jdk_65_m_121_24 : decode jdk_65_method_121_code 24 = .ok (.iload_n 1, 1) := by decide +kernel
theorem d_jdk_65_m_121_25 : decode jdk_65_method_121_code 25 = .ok (.invokestatic 304, 3) := by decide +kernel
theorem d_jdk_65_m_121_28 : decode jdk_65_method_121_code 28 = .ok (.invokestatic 150, 3) := by decide +kernel
theorem d_jdk_65_m_121_31 : decode jdk_65_method_121_code 31 = .ok (.aload_n 2, 1) := by decide +kernel
theorem d_jdk_65_m_121_32 : decode jdk_65_method_121_code 32 = .ok (.areturn, 1) := by decide +kernel
abbrev RM_cof : Room := { frames := 1, cells := 1, slots := 130, locals := 18 }
theorem ef_cof (m : MethodId) (x0 : Addr) (x1 : Int32) : entryFrame m #[(.ref x0), (.int x1)] 3 = mkF m 0 #[.val (.ref x0), .val (.int x1), .unset] [] := by first | (simp [entryFrame, mkF, argsToLocals, Value.category]; done) | rfl
set_option maxRecDepth 65536 in
set_option maxHeartbeats 40000000 in
theorem rm_cof (l : Launch) (Z : State) (a0 : Array Value) (G1 : Int32) (G3 : Value) (d1 d2 us ss : Addr) (kd1 kd2 : ClassId) (w1 w2 : List Value) (hX : Ctx Z a0 G1 G3) (hY : More Z d1 d2 us ss kd1 kd2 w1 w2) (n0 : Nat) (bk : Addr → Prop) (h0 : Heap) (O0 : Old Z n0 h0) (t : Addr) (kb : ClassId) (N : Nat) (vs : List Value) (M : Nat) (pf_0 : Arv Z h0 t kb .byte (Int32.ofNat N) vs (.int 0)) (h1 : N < M) (h2 : M ≤ 130) (hbl : ∀ y, bk y → @LT.lt Nat _ y (Array.size h0)) (ws : List Jvm.Cond) : Met l Z EL1 n0 bk (⟨"java/util/Arrays", "copyOf", "([BI)[B"⟩ : MethodName) jdk_65_method_121_code 3 (Option.some (FieldType.array FieldType.byte)) RM_cof #[(.ref t), (.int (Int32.ofNat M))] h0 (Q_cof Z G1 G3 d1 d2 us ss kd1 kd2 w1 w2 t kb N vs M h0 n0 bk) ws := by
  have hX' := hX
  obtain ⟨hw, hE, S1, P1, S3, P3⟩ := hX'
  have hY' := hY
  obtain ⟨s_d1, a_d1, s_d2, a_d2, s_us, s_ss⟩ := hY'
  have hSA := sa_of hw
  have z0 : n0 ≤ h0.size := by rw [← O0.1]; exact O0.2.1
  refine Met.of (by decide +kernel) O0 hE ?_
  intro p e s m below meth c hx hby hml hret hlk hnm
  refine k_cast (ef_cof m t (Int32.ofNat M)) ?_
  show Run p l e _ s m _ below meth c Z EL1 _ n0 bk h0 0 0 (mkF m 0 #[.val (.ref t), .val (.int (Int32.ofNat M)), .unset] []) _
  have lt_1 : @LT.lt Nat _ t (Array.size h0) := pf_0.lt
  refine k_pure (g' := (mkF m 1 #[.val (.ref t), .val (.int (Int32.ofNat M)), .unset] [(.int (Int32.ofNat M))])) (fun TT HH tt kk => XS.iloadN HH hx rfl (hb hby d_jdk_65_m_121_0) rfl kk) ?_
  refine k_pure (g' := (mkF m 2 #[.val (.ref t), .val (.int (Int32.ofNat M)), .unset] [(.ref t), (.int (Int32.ofNat M))])) (fun TT HH tt kk => XS.aloadN HH hx rfl (hb hby d_jdk_65_m_121_1) rfl rfl kk) ?_
  refine k_alen hx pf_0 rfl rfl (hb hby d_jdk_65_m_121_2) ?_
  show Run p l e _ s m _ below meth c Z EL1 _ n0 bk h0 0 0 (mkF m 3 #[.val (.ref t), .val (.int (Int32.ofNat M)), .unset] [(.int (Int32.ofNat N)), (.int (Int32.ofNat M))]) _
  refine k_pure (g' := (mkF m 14 #[.val (.ref t), .val (.int (Int32.ofNat M)), .unset] [])) (fun TT HH tt kk => XS.icmpYes HH hx rfl (pc0 := 3) (pc' := 14) rfl (hb hby d_jdk_65_m_121_3) rfl (feq (fun q => ne_nat h1 (by omega) q.symm)).2 (by decide) (by decide) kk) ?_
  refine k_pure (g' := (mkF m 15 #[.val (.ref t), .val (.int (Int32.ofNat M)), .unset] [(.int (Int32.ofNat M))])) (fun TT HH tt kk => XS.iloadN HH hx rfl (hb hby d_jdk_65_m_121_14) rfl kk) ?_
  refine k_newP hx (hw _ (List.mem_of_getElem? (i := 23) rfl)) rfl (hb hby d_jdk_65_m_121_15) rfl (not_lt_nat (n := 0) (Nat.zero_le _) (by omega)) (cap := 130) (by rw [clampN (by omega)]; exact h2) (by decide) (by decide) (by decide) "[B" (by decide +kernel) ?_
  intro h_3 a_2 k_4 g_5 O_6 E_7 A_8 X_9
  have z_10 := E_7.1
  have lt_11 : @LT.lt Nat _ a_2 (Array.size h_3) := A_8.lt
  have nb_12 : ¬ bk a_2 := fun q => Nat.not_le_of_lt (hbl _ q) (show @LE.le Nat _ (Array.size h0) a_2 by omega)
  show Run p l e _ s m _ below meth c Z EL1 _ n0 bk h_3 1 130 (mkF m 17 #[.val (.ref t), .val (.int (Int32.ofNat M)), .unset] [(.ref a_2)]) _
  refine k_pure (g' := (mkF m 18 #[.val (.ref t), .val (.int (Int32.ofNat M)), .val (.ref a_2)] [])) (fun TT HH tt kk => XS.astoreN HH hx rfl (hb hby d_jdk_65_m_121_17) rfl rfl (l' := #[.val (.ref t), .val (.int (Int32.ofNat M)), .val (.ref a_2)]) rfl kk) ?_
  refine k_pure (g' := (mkF m 19 #[.val (.ref t), .val (.int (Int32.ofNat M)), .val (.ref a_2)] [(.ref t)])) (fun TT HH tt kk => XS.aloadN HH hx rfl (hb hby d_jdk_65_m_121_18) rfl rfl kk) ?_
  refine k_pure (g' := (mkF m 20 #[.val (.ref t), .val (.int (Int32.ofNat M)), .val (.ref a_2)] [(.int (0 : Int32)), (.ref t)])) (fun TT HH tt kk => XS.iconst HH hx rfl (hb hby d_jdk_65_m_121_19) kk) ?_
  refine k_pure (g' := (mkF m 21 #[.val (.ref t), .val (.int (Int32.ofNat M)), .val (.ref a_2)] [(.ref a_2), (.int (0 : Int32)), (.ref t)])) (fun TT HH tt kk => XS.aloadN HH hx rfl (hb hby d_jdk_65_m_121_20) rfl rfl kk) ?_
  refine k_pure (g' := (mkF m 22 #[.val (.ref t), .val (.int (Int32.ofNat M)), .val (.ref a_2)] [(.int (0 : Int32)), (.ref a_2), (.int (0 : Int32)), (.ref t)])) (fun TT HH tt kk => XS.iconst HH hx rfl (hb hby d_jdk_65_m_121_21) kk) ?_
  refine k_pure (g' := (mkF m 23 #[.val (.ref t), .val (.int (Int32.ofNat M)), .val (.ref a_2)] [(.ref t), (.int (0 : Int32)), (.ref a_2), (.int (0 : Int32)), (.ref t)])) (fun TT HH tt kk => XS.aloadN HH hx rfl (hb hby d_jdk_65_m_121_22) rfl rfl kk) ?_
  have F_13 : Arv Z h_3 t kb .byte (Int32.ofNat N) vs (.int 0) := (pf_0.ext E_7)
  refine k_alen hx F_13 rfl rfl (hb hby d_jdk_65_m_121_23) ?_
  show Run p l e _ s m _ below meth c Z EL1 _ n0 bk h_3 1 130 (mkF m 24 #[.val (.ref t), .val (.int (Int32.ofNat M)), .val (.ref a_2)] [(.int (Int32.ofNat N)), (.int (0 : Int32)), (.ref a_2), (.int (0 : Int32)), (.ref t)]) _
  refine k_pure (g' := (mkF m 25 #[.val (.ref t), .val (.int (Int32.ofNat M)), .val (.ref a_2)] [(.int (Int32.ofNat M)), (.int (Int32.ofNat N)), (.int (0 : Int32)), (.ref a_2), (.int (0 : Int32)), (.ref t)])) (fun TT HH tt kk => XS.iloadN HH hx rfl (hb hby d_jdk_65_m_121_24) rfl kk) ?_
  refine k_callS hx (y := (⟨"java/lang/Math", "min", "(II)I"⟩ : MethodName)) (hw _ (List.mem_of_getElem? (i := 83) rfl)) (hw _ (List.mem_of_getElem? (i := 84) rfl)) (hw _ (List.mem_of_getElem? (i := 75) rfl)) (hw _ (List.mem_of_getElem? (i := 85) rfl)) (by decide) (W := 4) (argsL := [(.int (Int32.ofNat N)), (.int (Int32.ofNat M))]) (rest := [(.int (0 : Int32)), (.ref a_2), (.int (0 : Int32)), (.ref t)]) (Pays.of_met (rm_min0 l Z a0 G1 G3 d1 d2 us ss kd1 kd2 w1 w2 hX hY n0 bk h_3 O_6 (Int32.ofNat N) (Int32.ofNat M) (not_lt_nat (by omega) (by omega)) []) (hw _ (List.mem_of_getElem? (i := 85) rfl)) (hw _ (List.mem_of_getElem? (i := 75) rfl)) (by decide) (by decide)) rfl (by rw [hml]; rfl) (lenOf pd__28_II_29_I rfl) rfl (by show 2 * 0 + _ ≤ _; exact Nat.le_of_eq rfl) (hb hby d_jdk_65_m_121_25) (by decide) (by decide) ?_
  intro v_14 h_15 bk_16 O_17 z_18 Q_19
  obtain ⟨rfl, rfl, rfl⟩ := Q_19
  show Run p l e _ s m _ below meth c Z EL1 _ n0 bk h_3 1 130 (mkF m 28 #[.val (.ref t), .val (.int (Int32.ofNat M)), .val (.ref a_2)] [(.int (Int32.ofNat N)), (.int (0 : Int32)), (.ref a_2), (.int (0 : Int32)), (.ref t)]) _
  have B_20 : Arv Z h_3 a_2 k_4 .byte (Int32.ofNat M) (([] : List Value) ++ List.replicate N (Value.int 0)) (.int (0 : Int32)) := Arv.pad A_8 (pad_rep [] (.int 0) N)
  refine k_cpA hx (hw _ (List.mem_of_getElem? (i := 86) rfl)) (hw _ (List.mem_of_getElem? (i := 89) rfl)) (hw _ (List.mem_of_getElem? (i := 87) rfl)) (hw _ (List.mem_of_getElem? (i := 88) rfl)) F_13 B_20 (Or.inl ⟨rfl, rfl⟩) (by decide) (by decide) (not_lt_nat (n := 0) (Nat.zero_le _) (by omega)) (by first | (rw [clampN (by omega)]; show 0 + _ ≤ _; rw [clampN (by omega)]; omega) | (rw [clampN (by omega)]; show 0 + _ ≤ _; omega)) (by first | (rw [clampN (by omega)]; show 0 + _ ≤ _; rw [clampN (by omega)]; omega) | (rw [clampN (by omega)]; show 0 + _ ≤ _; omega)) rfl (by rw [clampN (by omega)]; first | (simp; done) | (simp; exact Nat.le_of_eq (Nat.zero_add _))) (by omega) nb_12 rfl (by rw [hml]; rfl) rfl (hb hby d_jdk_65_m_121_28) (by decide) (W := 0) (by show 2 * 0 + _ ≤ _; exact Nat.le_of_eq rfl) (by decide) ?_
  intro h_21 O_22 K_23 V_24
  have z_25 := K_23.1
  obtain ⟨vs_26, V_27⟩ : ∃ ws : List Value, Arv Z h_21 a_2 k_4 .byte (Int32.ofNat M) ws (.int (0 : Int32)) := ⟨_, V_24⟩
  show Run p l e _ s m _ below meth c Z EL1 _ n0 bk h_21 1 130 (mkF m 31 #[.val (.ref t), .val (.int (Int32.ofNat M)), .val (.ref a_2)] []) _
  refine k_pure (g' := (mkF m 32 #[.val (.ref t), .val (.int (Int32.ofNat M)), .val (.ref a_2)] [(.ref a_2)])) (fun TT HH tt kk => XS.aloadN HH hx rfl (hb hby d_jdk_65_m_121_31) rfl rfl kk) ?_
  exact k_retA hx hlk hret rfl rfl rfl (hb hby d_jdk_65_m_121_32) (by decide) (by decide) ⟨a_2, k_4, vs_26, rfl, rfl, (((Keep.refl _ _).ext E_7).trans K_23 (kkS (Or.inr (by omega)) kk0)), V_27, (by omega), nb_12⟩
def Q_ecg (Z : State) (G1 : Int32) (G3 : Value) (d1 d2 us ss : Addr) (kd1 kd2 : ClassId) (w1 w2 : List Value) (a : Addr) (t : Addr) (kb : ClassId) (N : Nat) (n : Nat) (vs : List Value) (k : Nat) (h0 : Heap) (n0 : Nat) (bk : Addr → Prop) (v : Option Value) (h : Heap) (bk' : Addr → Prop) : Prop := ∃ (u : Addr), ∃ (ku : ClassId), ∃ (M : Nat), ∃ (us : List Value), v = none ∧ bk = bk' ∧ Keep h0 h [a] ∧ (SbW Z h a u ku M n us) ∧ (k ≤ M ∧ 2 * N + 2 ≤ M ∧ M ≤ 130 ∧ (M = k ∨ M = 2 * N + 2)) ∧ (@LE.le Nat _ (Array.size h0) u) ∧ (¬ bk' u)
theorem d_jdk_68_m_9_0 : decode jdk_68_method_9_code 0 = .ok (.aload_n 0, 1) := by decide +kernel
theorem d_jdk_68_m_9_1 : decode jdk_68_method_9_code 1 = .ok (.getfield 15, 3) := by decide +kernel
theorem d_jdk_68_m_9_4 : decode jdk_68_method_9_code 4 = .ok (.arraylength, 1) := by decide +kernel
theorem d_jdk_68_m_9_5 : decode jdk_68_method_9_code 5 = .ok (.aload_n 0, 1) := by decide +kernel
theorem d_jdk_68_m_9_6 : decode jdk_68_method_9_code 6 = .ok (.getfield 22, 3) := by decide +kernel
theorem d_jdk_68_m_9_9 : decode jdk_68_method_9_code 9 = .ok (.ishr, 1) := by decide +kernel
theorem d_jdk_68_m_9_10 : decode jdk_68_method_9_code 10 = .ok (.istore_n 2, 1) := by decide +kernel
theorem d_jdk_68_m_9_11 : decode jdk_68_method_9_code 11 = .ok (.iload_n 1, 1) := by decide +kernel
theorem d_jdk_68_m_9_12 : decode jdk_68_method_9_code 12 = .ok (.iload_n 2, 1) := by decide +kernel
theorem d_jdk_68_m_9_13 : decode jdk_68_method_9_code 13 = .ok (.isub, 1) := by decide +kernel
theorem d_jdk_68_m_9_14 : decode jdk_68_method_9_code 14 = .ok (.ifCond .le 24, 3) := by decide +kernel
theorem d_jdk_68_m_9_17 : decode jdk_68_method_9_code 17 = .ok (.aload_n 0, 1) := by decide +kernel
theorem d_jdk_68_m_9_18 : decode jdk_68_method_9_code 18 = .ok (.aload_n 0, 1) := by decide +kernel
theorem d_jdk_68_m_9_19 : decode jdk_68_method_9_code 19 = .ok (.getfield 15, 3) := by decide +kernel
theorem d_jdk_68_m_9_22 : decode jdk_68_method_9_code 22 = .ok (.aload_n 0, 1) := by decide +kernel
theorem d_jdk_68_m_9_23 : decode jdk_68_method_9_code 23 = .ok (.iload_n 1, 1) := by decide +kernel
theorem d_jdk_68_m_9_24 : decode jdk_68_method_9_code 24 = .ok (.invokevirtual 104, 3) := by decide +kernel
theorem pd__28_I_29_I : parseMethodDescriptor "(I)I" = some ⟨[.int], some .int⟩ := by decide +kernel
theorem d_jdk_68_m_9_27 : decode jdk_68_method_9_code 27 = .ok (.aload_n 0, 1) := by decide +kernel
theorem d_jdk_68_m_9_28 : decode jdk_68_method_9_code 28 = .ok (.getfield 22, 3) := by decide +kernel
theorem d_jdk_68_m_9_31 : decode jdk_68_method_9_code 31 = .ok (.ishl, 1) := by decide +kernel
theorem d_jdk_68_m_9_32 : decode jdk_68_method_9_code 32 = .ok (.invokestatic 108, 3) := by decide +kernel
theorem pd__28__5b_BI_29__5b_B : parseMethodDescriptor "([BI)[B" = some ⟨[(.array .byte), .int], some (.array .byte)⟩ := by decide +kernel
theorem d_jdk_68_m_9_35 : decode jdk_68_method_9_code 35 = .ok (.putfield 15, 3) := by decide +kernel
theorem d_jdk_68_m_9_38 : decode jdk_68_method_9_code 38 = .ok (.return_, 1) := by decide +kernel
abbrev RM_ecg : Room := { frames := 3, cells := 1, slots := 130, locals := 48 }
theorem ef_ecg (m : MethodId) (x0 : Addr) (x1 : Int32) : entryFrame m #[(.ref x0), (.int x1)] 3 = mkF m 0 #[.val (.ref x0), .val (.int x1), .unset] [] := by first | (simp [entryFrame, mkF, argsToLocals, Value.category]; done) | rfl
set_option maxRecDepth 65536 in
set_option maxHeartbeats 40000000 in
theorem rm_ecg (l : Launch) (Z : State) (a0 : Array Value) (G1 : Int32) (G3 : Value) (d1 d2 us ss : Addr) (kd1 kd2 : ClassId) (w1 w2 : List Value) (hX : Ctx Z a0 G1 G3) (hY : More Z d1 d2 us ss kd1 kd2 w1 w2) (n0 : Nat) (bk : Addr → Prop) (h0 : Heap) (O0 : Old Z n0 h0) (a : Addr) (t : Addr) (kb : ClassId) (N : Nat) (n : Nat) (vs : List Value) (k : Nat) (pf_0 : SbW Z h0 a t kb N n vs) (h1 : N < k) (h2 : k + N + 2 ≤ 130) (hbl : ∀ y, bk y → @LT.lt Nat _ y (Array.size h0)) (nba : ¬ bk a) (ga : n0 ≤ a) (ws : List Jvm.Cond) : Met l Z EL1 n0 bk (⟨"java/lang/AbstractStringBuilder", "ensureCapacityInternal", "(I)V"⟩ : MethodName) jdk_68_method_9_code 3 (Option.none : Option FieldType) RM_ecg #[(.ref a), (.int (Int32.ofNat k))] h0 (Q_ecg Z G1 G3 d1 d2 us ss kd1 kd2 w1 w2 a t kb N n vs k h0 n0 bk) ws := by
  have hX' := hX
  obtain ⟨hw, hE, S1, P1, S3, P3⟩ := hX'
  have hY' := hY
  obtain ⟨s_d1, a_d1, s_d2, a_d2, s_us, s_ss⟩ := hY'
  have hSA := sa_of hw
  have z0 : n0 ≤ h0.size := by rw [← O0.1]; exact O0.2.1
  refine Met.of (by decide +kernel) O0 hE ?_
  intro p e s m below meth c hx hby hml hret hlk hnm
  refine k_cast (ef_ecg m a (Int32.ofNat k)) ?_
  show Run p l e _ s m _ below meth c Z EL1 _ n0 bk h0 0 0 (mkF m 0 #[.val (.ref a), .val (.int (Int32.ofNat k)), .unset] []) _
  have ne_1 : @Ne Nat a t := pf_0.2.2.2.2.2.2.2
  have lt_2 : @LT.lt Nat _ a (Array.size h0) := pf_0.lt1
  have lt_3 : @LT.lt Nat _ t (Array.size h0) := pf_0.lt2
  have hNN := pf_0.2.2.2.2.2.2.1
  have hnN := pf_0.2.2.2.2.2.1
  refine k_pure (g' := (mkF m 1 #[.val (.ref a), .val (.int (Int32.ofNat k)), .unset] [(.ref a)])) (fun TT HH tt kk => XS.aloadN HH hx rfl (hb hby d_jdk_68_m_9_0) rfl rfl kk) ?_
  refine k_getF hx (host := "") (Or.inl (hw _ (List.mem_of_getElem? (i := 24) rfl))) Via.refl pf_0.2.2.1 rfl rfl (hb hby d_jdk_68_m_9_1) ?_
  show Run p l e _ s m _ below meth c Z EL1 _ n0 bk h0 0 0 (mkF m 4 #[.val (.ref a), .val (.int (Int32.ofNat k)), .unset] [(.ref t)]) _
  refine k_alen hx pf_0.2.2.2.2.1 rfl rfl (hb hby d_jdk_68_m_9_4) ?_
  show Run p l e _ s m _ below meth c Z EL1 _ n0 bk h0 0 0 (mkF m 5 #[.val (.ref a), .val (.int (Int32.ofNat k)), .unset] [(.int (Int32.ofNat N))]) _
  refine k_pure (g' := (mkF m 6 #[.val (.ref a), .val (.int (Int32.ofNat k)), .unset] [(.ref a), (.int (Int32.ofNat N))])) (fun TT HH tt kk => XS.aloadN HH hx rfl (hb hby d_jdk_68_m_9_5) rfl rfl kk) ?_
  refine k_getF hx (host := "") (Or.inl (hw _ (List.mem_of_getElem? (i := 26) rfl))) Via.refl pf_0.2.1 rfl rfl (hb hby d_jdk_68_m_9_6) ?_
  show Run p l e _ s m _ below meth c Z EL1 _ n0 bk h0 0 0 (mkF m 9 #[.val (.ref a), .val (.int (Int32.ofNat k)), .unset] [(.int (0 : Int32)), (.int (Int32.ofNat N))]) _
  refine k_pure (g' := (mkF m 10 #[.val (.ref a), .val (.int (Int32.ofNat k)), .unset] [(.int ((Int32.ofNat N) >>> ((0 : Int32) &&& 31)))])) (fun TT HH tt kk => XS.ishr HH hx rfl (hb hby d_jdk_68_m_9_9) rfl kk) ?_
  rw [shr0]
  show Run p l e _ s m _ below meth c Z EL1 _ n0 bk h0 0 0 (mkF m 10 #[.val (.ref a), .val (.int (Int32.ofNat k)), .unset] [(.int (Int32.ofNat N))]) _
  refine k_pure (g' := (mkF m 11 #[.val (.ref a), .val (.int (Int32.ofNat k)), .val (.int (Int32.ofNat N))] [])) (fun TT HH tt kk => XS.istoreN HH hx rfl (hb hby d_jdk_68_m_9_10) rfl (l' := #[.val (.ref a), .val (.int (Int32.ofNat k)), .val (.int (Int32.ofNat N))]) rfl kk) ?_
  refine k_pure (g' := (mkF m 12 #[.val (.ref a), .val (.int (Int32.ofNat k)), .val (.int (Int32.ofNat N))] [(.int (Int32.ofNat k))])) (fun TT HH tt kk => XS.iloadN HH hx rfl (hb hby d_jdk_68_m_9_11) rfl kk) ?_
  refine k_pure (g' := (mkF m 13 #[.val (.ref a), .val (.int (Int32.ofNat k)), .val (.int (Int32.ofNat N))] [(.int (Int32.ofNat N)), (.int (Int32.ofNat k))])) (fun TT HH tt kk => XS.iloadN HH hx rfl (hb hby d_jdk_68_m_9_12) rfl kk) ?_
  refine k_pure (g' := (mkF m 14 #[.val (.ref a), .val (.int (Int32.ofNat k)), .val (.int (Int32.ofNat N))] [(.int ((Int32.ofNat k) - (Int32.ofNat N)))])) (fun TT HH tt kk => XS.isub HH hx rfl (hb hby d_jdk_68_m_9_13) rfl kk) ?_
  refine k_pure (g' := (mkF m 17 #[.val (.ref a), .val (.int (Int32.ofNat k)), .val (.int (Int32.ofNat N))] [])) (fun TT HH tt kk => XS.ifNo HH hx rfl (hb hby d_jdk_68_m_9_14) rfl ((if0 _ _).trans (tlt (ens_no h1 (by omega))).2.2.2) kk) ?_
  refine k_pure (g' := (mkF m 18 #[.val (.ref a), .val (.int (Int32.ofNat k)), .val (.int (Int32.ofNat N))] [(.ref a)])) (fun TT HH tt kk => XS.aloadN HH hx rfl (hb hby d_jdk_68_m_9_17) rfl rfl kk) ?_
  refine k_pure (g' := (mkF m 19 #[.val (.ref a), .val (.int (Int32.ofNat k)), .val (.int (Int32.ofNat N))] [(.ref a), (.ref a)])) (fun TT HH tt kk => XS.aloadN HH hx rfl (hb hby d_jdk_68_m_9_18) rfl rfl kk) ?_
  refine k_getF hx (host := "") (Or.inl (hw _ (List.mem_of_getElem? (i := 24) rfl))) Via.refl pf_0.2.2.1 rfl rfl (hb hby d_jdk_68_m_9_19) ?_
  show Run p l e _ s m _ below meth c Z EL1 _ n0 bk h0 0 0 (mkF m 22 #[.val (.ref a), .val (.int (Int32.ofNat k)), .val (.int (Int32.ofNat N))] [(.ref t), (.ref a)]) _
  refine k_pure (g' := (mkF m 23 #[.val (.ref a), .val (.int (Int32.ofNat k)), .val (.int (Int32.ofNat N))] [(.ref a), (.ref t), (.ref a)])) (fun TT HH tt kk => XS.aloadN HH hx rfl (hb hby d_jdk_68_m_9_22) rfl rfl kk) ?_
  refine k_pure (g' := (mkF m 24 #[.val (.ref a), .val (.int (Int32.ofNat k)), .val (.int (Int32.ofNat N))] [(.int (Int32.ofNat k)), (.ref a), (.ref t), (.ref a)])) (fun TT HH tt kk => XS.iloadN HH hx rfl (hb hby d_jdk_68_m_9_23) rfl kk) ?_
  refine k_callV hx (y := (⟨"java/lang/AbstractStringBuilder", "newCapacity", "(I)I"⟩ : MethodName)) (z := (⟨"java/lang/AbstractStringBuilder", "newCapacity", "(I)I"⟩ : MethodName)) (hw _ (List.mem_of_getElem? (i := 64) rfl)) (decl_of (hw _ (List.mem_of_getElem? (i := 65) rfl)) (hw _ (List.mem_of_getElem? (i := 68) rfl))) (fun s' hZ => notFace_of_selects (args := #[]) (mv hZ (hw _ (List.mem_of_getElem? (i := 67) rfl)))) (hw _ (List.mem_of_getElem? (i := 67) rfl)) (hw _ (List.mem_of_getElem? (i := 65) rfl)) (by decide) (W := 2) (a := a) (argsL := [(.int (Int32.ofNat k))]) (rest := [(.ref t), (.ref a)]) (Pays.of_met (rm_nca l Z a0 G1 G3 d1 d2 us ss kd1 kd2 w1 w2 hX hY n0 bk h0 O0 a t kb N n vs k pf_0 h1 (by omega) []) (hw _ (List.mem_of_getElem? (i := 68) rfl)) (hw _ (List.mem_of_getElem? (i := 16) rfl)) (by decide) (by decide)) pf_0.1 rfl (by rw [hml]; rfl) (lenOf pd__28_I_29_I rfl) rfl (by show 2 * 0 + _ ≤ _; exact Nat.le_of_eq rfl) (hb hby d_jdk_68_m_9_24) (by decide) (by decide) ?_
  intro v_4 h_5 bk_6 O_7 z_8 Q_9
  obtain ⟨e_10, rfl, rfl, rfl, P_11⟩ := Q_9
  show Run p l e _ s m _ below meth c Z EL1 _ n0 bk h0 0 0 (mkF m 27 #[.val (.ref a), .val (.int (Int32.ofNat k)), .val (.int (Int32.ofNat N))] [(.int (Int32.ofNat e_10)), (.ref t), (.ref a)]) _
  have hP := P_11
  refine k_pure (g' := (mkF m 28 #[.val (.ref a), .val (.int (Int32.ofNat k)), .val (.int (Int32.ofNat N))] [(.ref a), (.int (Int32.ofNat e_10)), (.ref t), (.ref a)])) (fun TT HH tt kk => XS.aloadN HH hx rfl (hb hby d_jdk_68_m_9_27) rfl rfl kk) ?_
  refine k_getF hx (host := "") (Or.inl (hw _ (List.mem_of_getElem? (i := 26) rfl))) Via.refl pf_0.2.1 rfl rfl (hb hby d_jdk_68_m_9_28) ?_
  show Run p l e _ s m _ below meth c Z EL1 _ n0 bk h0 0 0 (mkF m 31 #[.val (.ref a), .val (.int (Int32.ofNat k)), .val (.int (Int32.ofNat N))] [(.int (0 : Int32)), (.int (Int32.ofNat e_10)), (.ref t), (.ref a)]) _
  refine k_pure (g' := (mkF m 32 #[.val (.ref a), .val (.int (Int32.ofNat k)), .val (.int (Int32.ofNat N))] [(.int ((Int32.ofNat e_10) <<< ((0 : Int32) &&& 31))), (.ref t), (.ref a)])) (fun TT HH tt kk => XS.ishl HH hx rfl (hb hby d_jdk_68_m_9_31) rfl kk) ?_
  rw [shl0]
  show Run p l e _ s m _ below meth c Z EL1 _ n0 bk h0 0 0 (mkF m 32 #[.val (.ref a), .val (.int (Int32.ofNat k)), .val (.int (Int32.ofNat N))] [(.int (Int32.ofNat e_10)), (.ref t), (.ref a)]) _
  refine k_callS hx (y := (⟨"java/util/Arrays", "copyOf", "([BI)[B"⟩ : MethodName)) (hw _ (List.mem_of_getElem? (i := 79) rfl)) (hw _ (List.mem_of_getElem? (i := 80) rfl)) (hw _ (List.mem_of_getElem? (i := 81) rfl)) (hw _ (List.mem_of_getElem? (i := 82) rfl)) (by decide) (W := 1) (argsL := [(.ref t), (.int (Int32.ofNat e_10))]) (rest := [(.ref a)]) (Pays.of_met (rm_cof l Z a0 G1 G3 d1 d2 us ss kd1 kd2 w1 w2 hX hY n0 bk h0 O0 t kb N vs e_10 pf_0.2.2.2.2.1 (by omega) (by omega) hbl []) (hw _ (List.mem_of_getElem? (i := 82) rfl)) (hw _ (List.mem_of_getElem? (i := 81) rfl)) (by decide) (by decide)) rfl (by rw [hml]; rfl) (lenOf pd__28__5b_BI_29__5b_B rfl) rfl (by show 2 * 0 + _ ≤ _; exact Nat.le_of_eq rfl) (hb hby d_jdk_68_m_9_32) (by decide) (by decide) ?_
  intro v_12 h_13 bk_14 O_15 z_16 Q_17
  obtain ⟨a_18, k_19, e_20, rfl, rfl, K_21, F_22, P_23, P_24⟩ := Q_17
  have lt_25 : @LT.lt Nat _ a_18 (Array.size h_13) := F_22.lt
  show Run p l e _ s m _ below meth c Z EL1 _ n0 bk h_13 1 130 (mkF m 35 #[.val (.ref a), .val (.int (Int32.ofNat k)), .val (.int (Int32.ofNat N))] [(.ref a_18), (.ref a)]) _
  have F_26 : Fld Z h_13 a "java/lang/AbstractStringBuilder" "value" "[B" (.ref t) := (pf_0.2.2.1.keep K_21 nin0)
  have F_27 : Exa Z h_13 a "java/lang/StringBuilder" := (pf_0.1.keep K_21)
  refine k_putF hx (host := "") (Or.inl (hw _ (List.mem_of_getElem? (i := 24) rfl))) Via.refl F_26 F_27 (Or.inl (hw _ (List.mem_of_getElem? (i := 25) rfl))) (hw _ (List.mem_of_getElem? (i := 7) rfl)) (ty := (.array .byte)) (by decide) rfl rfl (by omega) nba rfl rfl (hb hby d_jdk_68_m_9_35) ?_
  intro h_28 O_30 W_29
  have z_31 := W_29.size
  show Run p l e _ s m _ below meth c Z EL1 _ n0 bk h_28 1 130 (mkF m 38 #[.val (.ref a), .val (.int (Int32.ofNat k)), .val (.int (Int32.ofNat N))] []) _
  have F_32 : Exa Z h_28 a "java/lang/StringBuilder" := (F_27.wr W_29)
  have F_33 : Fld Z h_28 a "java/lang/AbstractStringBuilder" "coder" "B" (.int (0 : Int32)) := ((pf_0.2.1.keep K_21 nin0).other W_29 (Or.inr (RoadKit.slot_ne (C := "java/lang/StringBuilder") (Or.inl (hw _ (List.mem_of_getElem? (i := 27) rfl))) (Or.inl (hw _ (List.mem_of_getElem? (i := 25) rfl))) (by decide) (t := .byte) (t' := (.array .byte)) (by decide) (by decide))))
  have F_34 : Fld Z h_28 a "java/lang/AbstractStringBuilder" "count" "I" (.int (Int32.ofNat n)) := ((pf_0.2.2.2.1.keep K_21 nin0).other W_29 (Or.inr (RoadKit.slot_ne (C := "java/lang/StringBuilder") (Or.inl (hw _ (List.mem_of_getElem? (i := 58) rfl))) (Or.inl (hw _ (List.mem_of_getElem? (i := 25) rfl))) (by decide) (t := .int) (t' := (.array .byte)) (by decide) (by decide))))
  have F_35 : Arv Z h_28 a_18 k_19 .byte (Int32.ofNat e_10) e_20 (.int 0) := (F_22.other W_29 (ne_ad (by omega)))
  exact k_ret0 hx hlk hret (hb hby d_jdk_68_m_9_38) (by decide) (by decide) ⟨a_18, k_19, e_10, e_20, rfl, rfl, (((Keep.refl _ _).trans K_21 kk0).wr W_29 (Or.inl (by simp))), ⟨F_32, F_33, (F_26.same W_29), F_34, F_35, (by omega), (by omega), (show @Ne Nat _ _ by omega)⟩, ⟨P_11.1, P_11.2.1, (by omega), (by omega)⟩, (by omega), P_24⟩
def Q_eci (Z : State) (G1 : Int32) (G3 : Value) (d1 d2 us ss : Addr) (kd1 kd2 : ClassId) (w1 w2 : List Value) (a : Addr) (t : Addr) (kb : ClassId) (N : Nat) (n : Nat) (vs : List Value) (k : Nat) (h0 : Heap) (n0 : Nat) (bk : Addr → Prop) (v : Option Value) (h : Heap) (bk' : Addr → Prop) : Prop := v = none ∧ h0 = h ∧ bk = bk'
abbrev RM_eci : Room := { frames := 0, cells := 0, slots := 0, locals := 0 }
theorem ef_eci (m : MethodId) (x0 : Addr) (x1 : Int32) : entryFrame m #[(.ref x0), (.int x1)] 3 = mkF m 0 #[.val (.ref x0), .val (.int x1), .unset] [] := by first | (simp [entryFrame, mkF, argsToLocals, Value.category]; done) | rfl
set_option maxRecDepth 65536 in
set_option maxHeartbeats 40000000 in
theorem rm_eci (l : Launch) (Z : State) (a0 : Array Value) (G1 : Int32) (G3 : Value) (d1 d2 us ss : Addr) (kd1 kd2 : ClassId) (w1 w2 : List Value) (hX : Ctx Z a0 G1 G3) (hY : More Z d1 d2 us ss kd1 kd2 w1 w2) (n0 : Nat) (bk : Addr → Prop) (h0 : Heap) (O0 : Old Z n0 h0) (a : Addr) (t : Addr) (kb : ClassId) (N : Nat) (n : Nat) (vs : List Value) (k : Nat) (pf_0 : SbW Z h0 a t kb N n vs) (hk : k ≤ N) (ws : List Jvm.Cond) : Met l Z EL1 n0 bk (⟨"java/lang/AbstractStringBuilder", "ensureCapacityInternal", "(I)V"⟩ : MethodName) jdk_68_method_9_code 3 (Option.none : Option FieldType) RM_eci #[(.ref a), (.int (Int32.ofNat k))] h0 (Q_eci Z G1 G3 d1 d2 us ss kd1 kd2 w1 w2 a t kb N n vs k h0 n0 bk) ws := by
  have hX' := hX
  obtain ⟨hw, hE, S1, P1, S3, P3⟩ := hX'
  have hY' := hY
  obtain ⟨s_d1, a_d1, s_d2, a_d2, s_us, s_ss⟩ := hY'
  have hSA := sa_of hw
  have z0 : n0 ≤ h0.size := by rw [← O0.1]; exact O0.2.1
  refine Met.of (by decide +kernel) O0 hE ?_
  intro p e s m below meth c hx hby hml hret hlk hnm
  refine k_cast (ef_eci m a (Int32.ofNat k)) ?_
  show Run p l e _ s m _ below meth c Z EL1 _ n0 bk h0 0 0 (mkF m 0 #[.val (.ref a), .val (.int (Int32.ofNat k)), .unset] []) _
  have ne_1 : @Ne Nat a t := pf_0.2.2.2.2.2.2.2
  have lt_2 : @LT.lt Nat _ a (Array.size h0) := pf_0.lt1
  have lt_3 : @LT.lt Nat _ t (Array.size h0) := pf_0.lt2
  have hNN := pf_0.2.2.2.2.2.2.1
  have hnN := pf_0.2.2.2.2.2.1
  refine k_pure (g' := (mkF m 1 #[.val (.ref a), .val (.int (Int32.ofNat k)), .unset] [(.ref a)])) (fun TT HH tt kk => XS.aloadN HH hx rfl (hb hby d_jdk_68_m_9_0) rfl rfl kk) ?_
  refine k_getF hx (host := "") (Or.inl (hw _ (List.mem_of_getElem? (i := 24) rfl))) Via.refl pf_0.2.2.1 rfl rfl (hb hby d_jdk_68_m_9_1) ?_
  show Run p l e _ s m _ below meth c Z EL1 _ n0 bk h0 0 0 (mkF m 4 #[.val (.ref a), .val (.int (Int32.ofNat k)), .unset] [(.ref t)]) _
  refine k_alen hx pf_0.2.2.2.2.1 rfl rfl (hb hby d_jdk_68_m_9_4) ?_
  show Run p l e _ s m _ below meth c Z EL1 _ n0 bk h0 0 0 (mkF m 5 #[.val (.ref a), .val (.int (Int32.ofNat k)), .unset] [(.int (Int32.ofNat N))]) _
  refine k_pure (g' := (mkF m 6 #[.val (.ref a), .val (.int (Int32.ofNat k)), .unset] [(.ref a), (.int (Int32.ofNat N))])) (fun TT HH tt kk => XS.aloadN HH hx rfl (hb hby d_jdk_68_m_9_5) rfl rfl kk) ?_
  refine k_getF hx (host := "") (Or.inl (hw _ (List.mem_of_getElem? (i := 26) rfl))) Via.refl pf_0.2.1 rfl rfl (hb hby d_jdk_68_m_9_6) ?_
  show Run p l e _ s m _ below meth c Z EL1 _ n0 bk h0 0 0 (mkF m 9 #[.val (.ref a), .val (.int (Int32.ofNat k)), .unset] [(.int (0 : Int32)), (.int (Int32.ofNat N))]) _
  refine k_pure (g' := (mkF m 10 #[.val (.ref a), .val (.int (Int32.ofNat k)), .unset] [(.int ((Int32.ofNat N) >>> ((0 : Int32) &&& 31)))])) (fun TT HH tt kk => XS.ishr HH hx rfl (hb hby d_jdk_68_m_9_9) rfl kk) ?_
  rw [shr0]
  show Run p l e _ s m _ below meth c Z EL1 _ n0 bk h0 0 0 (mkF m 10 #[.val (.ref a), .val (.int (Int32.ofNat k)), .unset] [(.int (Int32.ofNat N))]) _
  refine k_pure (g' := (mkF m 11 #[.val (.ref a), .val (.int (Int32.ofNat k)), .val (.int (Int32.ofNat N))] [])) (fun TT HH tt kk => XS.istoreN HH hx rfl (hb hby d_jdk_68_m_9_10) rfl (l' := #[.val (.ref a), .val (.int (Int32.ofNat k)), .val (.int (Int32.ofNat N))]) rfl kk) ?_
  refine k_pure (g' := (mkF m 12 #[.val (.ref a), .val (.int (Int32.ofNat k)), .val (.int (Int32.ofNat N))] [(.int (Int32.ofNat k))])) (fun TT HH tt kk => XS.iloadN HH hx rfl (hb hby d_jdk_68_m_9_11) rfl kk) ?_
  refine k_pure (g' := (mkF m 13 #[.val (.ref a), .val (.int (Int32.ofNat k)), .val (.int (Int32.ofNat N))] [(.int (Int32.ofNat N)), (.int (Int32.ofNat k))])) (fun TT HH tt kk => XS.iloadN HH hx rfl (hb hby d_jdk_68_m_9_12) rfl kk) ?_
  refine k_pure (g' := (mkF m 14 #[.val (.ref a), .val (.int (Int32.ofNat k)), .val (.int (Int32.ofNat N))] [(.int ((Int32.ofNat k) - (Int32.ofNat N)))])) (fun TT HH tt kk => XS.isub HH hx rfl (hb hby d_jdk_68_m_9_13) rfl kk) ?_
  refine k_pure (g' := (mkF m 38 #[.val (.ref a), .val (.int (Int32.ofNat k)), .val (.int (Int32.ofNat N))] [])) (fun TT HH tt kk => XS.ifYes HH hx rfl (pc0 := 14) (pc' := 38) rfl (hb hby d_jdk_68_m_9_14) rfl ((if0 _ _).trans (flt (ens_ok hk (by omega))).2.2.2) (by decide) (by decide) kk) ?_
  exact k_ret0 hx hlk hret (hb hby d_jdk_68_m_9_38) (by decide) (by decide) ⟨rfl, rfl, rfl⟩
def Q_inf (Z : State) (G1 : Int32) (G3 : Value) (d1 d2 us ss : Addr) (kd1 kd2 : ClassId) (w1 w2 : List Value) (a : Addr) (t : Addr) (kb : ClassId) (N : Nat) (n : Nat) (vs : List Value) (b : Addr) (t2 : Addr) (kb2 : ClassId) (ds : List Int32) (h0 : Heap) (n0 : Nat) (bk : Addr → Prop) (v : Option Value) (h : Heap) (bk' : Addr → Prop) : Prop := v = none ∧ h0 = h ∧ bk = bk'
theorem d_jdk_68_m_71_0 : decode jdk_68_method_71_code 0 = .ok (.getstatic 18, 3) := by decide +kernel
theorem d_jdk_68_m_71_3 : decode jdk_68_method_71_code 3 = .ok (.ifCond .eq 18, 3) := by decide +kernel
theorem d_jdk_68_m_71_6 : decode jdk_68_method_71_code 6 = .ok (.aload_n 0, 1) := by decide +kernel
theorem d_jdk_68_m_71_7 : decode jdk_68_method_71_code 7 = .ok (.getfield 22, 3) := by decide +kernel
theorem d_jdk_68_m_71_10 : decode jdk_68_method_71_code 10 = .ok (.aload_n 1, 1) := by decide +kernel
theorem d_jdk_68_m_71_11 : decode jdk_68_method_71_code 11 = .ok (.invokevirtual 40, 3) := by decide +kernel
theorem d_jdk_68_m_71_14 : decode jdk_68_method_71_code 14 = .ok (.if_icmp .eq 7, 3) := by decide +kernel
theorem d_jdk_68_m_71_21 : decode jdk_68_method_71_code 21 = .ok (.return_, 1) := by decide +kernel
abbrev RM_inf : Room := { frames := 1, cells := 0, slots := 0, locals := 13 }
theorem ef_inf (m : MethodId) (x0 : Addr) (x1 : Addr) : entryFrame m #[(.ref x0), (.ref x1)] 2 = mkF m 0 #[.val (.ref x0), .val (.ref x1)] [] := by first | (simp [entryFrame, mkF, argsToLocals, Value.category]; done) | rfl
set_option maxRecDepth 65536 in
set_option maxHeartbeats 40000000 in
theorem rm_inf (l : Launch) (Z : State) (a0 : Array Value) (G1 : Int32) (G3 : Value) (d1 d2 us ss : Addr) (kd1 kd2 : ClassId) (w1 w2 : List Value) (hX : Ctx Z a0 G1 G3) (hY : More Z d1 d2 us ss kd1 kd2 w1 w2) (n0 : Nat) (bk : Addr → Prop) (h0 : Heap) (O0 : Old Z n0 h0) (a : Addr) (t : Addr) (kb : ClassId) (N : Nat) (n : Nat) (vs : List Value) (b : Addr) (t2 : Addr) (kb2 : ClassId) (ds : List Int32) (pf_0 : SbW Z h0 a t kb N n vs) (pf_1 : StrL Z h0 b t2 kb2 ds) (ws : List Jvm.Cond) : Met l Z EL1 n0 bk (⟨"java/lang/AbstractStringBuilder", "inflateIfNeededFor", "(Ljava/lang/String;)V"⟩ : MethodName) jdk_68_method_71_code 2 (Option.none : Option FieldType) RM_inf #[(.ref a), (.ref b)] h0 (Q_inf Z G1 G3 d1 d2 us ss kd1 kd2 w1 w2 a t kb N n vs b t2 kb2 ds h0 n0 bk) ws := by
  have hX' := hX
  obtain ⟨hw, hE, S1, P1, S3, P3⟩ := hX'
  have hY' := hY
  obtain ⟨s_d1, a_d1, s_d2, a_d2, s_us, s_ss⟩ := hY'
  have hSA := sa_of hw
  have z0 : n0 ≤ h0.size := by rw [← O0.1]; exact O0.2.1
  refine Met.of (by decide +kernel) O0 hE ?_
  intro p e s m below meth c hx hby hml hret hlk hnm
  refine k_cast (ef_inf m a b) ?_
  show Run p l e _ s m _ below meth c Z EL1 _ n0 bk h0 0 0 (mkF m 0 #[.val (.ref a), .val (.ref b)] []) _
  have ne_1 : @Ne Nat a t := pf_0.2.2.2.2.2.2.2
  have lt_2 : @LT.lt Nat _ a (Array.size h0) := pf_0.lt1
  have lt_3 : @LT.lt Nat _ t (Array.size h0) := pf_0.lt2
  have lt_4 : @LT.lt Nat _ b (Array.size h0) := pf_1.lt1
  have lt_5 : @LT.lt Nat _ t2 (Array.size h0) := pf_1.lt2
  refine k_getS hx (host := "") (Or.inl (hw _ (List.mem_of_getElem? (i := 21) rfl))) Via.refl (S1.ext O0.2) rfl (hb hby d_jdk_68_m_71_0) ?_
  show Run p l e _ s m _ below meth c Z EL1 _ n0 bk h0 0 0 (mkF m 3 #[.val (.ref a), .val (.ref b)] [(.int G1)]) _
  refine k_pure (g' := (mkF m 6 #[.val (.ref a), .val (.ref b)] [])) (fun TT HH tt kk => XS.ifNo HH hx rfl (hb hby d_jdk_68_m_71_3) rfl ((if0 _ _).trans (feq P1).1) kk) ?_
  refine k_pure (g' := (mkF m 7 #[.val (.ref a), .val (.ref b)] [(.ref a)])) (fun TT HH tt kk => XS.aloadN HH hx rfl (hb hby d_jdk_68_m_71_6) rfl rfl kk) ?_
  refine k_getF hx (host := "") (Or.inl (hw _ (List.mem_of_getElem? (i := 26) rfl))) Via.refl pf_0.2.1 rfl rfl (hb hby d_jdk_68_m_71_7) ?_
  show Run p l e _ s m _ below meth c Z EL1 _ n0 bk h0 0 0 (mkF m 10 #[.val (.ref a), .val (.ref b)] [(.int (0 : Int32))]) _
  refine k_pure (g' := (mkF m 11 #[.val (.ref a), .val (.ref b)] [(.ref b), (.int (0 : Int32))])) (fun TT HH tt kk => XS.aloadN HH hx rfl (hb hby d_jdk_68_m_71_10) rfl rfl kk) ?_
  refine k_callV hx (y := (⟨"java/lang/String", "coder", "()B"⟩ : MethodName)) (z := (⟨"java/lang/String", "coder", "()B"⟩ : MethodName)) (hw _ (List.mem_of_getElem? (i := 100) rfl)) (hw _ (List.mem_of_getElem? (i := 51) rfl)) (fun s' hZ => notFace_of_selects (args := #[]) (mv hZ (hw _ (List.mem_of_getElem? (i := 53) rfl)))) (hw _ (List.mem_of_getElem? (i := 53) rfl)) (hw _ (List.mem_of_getElem? (i := 52) rfl)) (by decide) (W := 1) (a := b) (argsL := []) (rest := [(.int (0 : Int32))]) (Pays.of_met (rm_coder l Z a0 G1 G3 d1 d2 us ss kd1 kd2 w1 w2 hX hY n0 bk h0 O0 b t2 kb2 ds pf_1 []) (hw _ (List.mem_of_getElem? (i := 54) rfl)) (hw _ (List.mem_of_getElem? (i := 22) rfl)) (by decide) (by decide)) pf_1.1 rfl (by rw [hml]; rfl) (lenOf pd__28__29_B rfl) rfl (by show 2 * 0 + _ ≤ _; exact Nat.le_of_eq rfl) (hb hby d_jdk_68_m_71_11) (by decide) (by decide) ?_
  intro v_6 h_7 bk_8 O_9 z_10 Q_11
  obtain ⟨rfl, rfl, rfl⟩ := Q_11
  show Run p l e _ s m _ below meth c Z EL1 _ n0 bk h0 0 0 (mkF m 14 #[.val (.ref a), .val (.ref b)] [(.int (0 : Int32)), (.int (0 : Int32))]) _
  refine k_pure (g' := (mkF m 21 #[.val (.ref a), .val (.ref b)] [])) (fun TT HH tt kk => XS.icmpYes HH hx rfl (pc0 := 14) (pc' := 21) rfl (hb hby d_jdk_68_m_71_14) rfl (teq (by decide : ((0 : Int32) = (0 : Int32)))).1 (by decide) (by decide) kk) ?_
  exact k_ret0 hx hlk hret (hb hby d_jdk_68_m_71_21) (by decide) (by decide) ⟨rfl, rfl, rfl⟩
def Q_gby (Z : State) (G1 : Int32) (G3 : Value) (d1 d2 us ss : Addr) (kd1 kd2 : ClassId) (w1 w2 : List Value) (t : Addr) (kb : ClassId) (N : Nat) (n : Nat) (vs : List Value) (b : Addr) (t2 : Addr) (kb2 : ClassId) (ds : List Int32) (h0 : Heap) (n0 : Nat) (bk : Addr → Prop) (v : Option Value) (h : Heap) (bk' : Addr → Prop) : Prop := ∃ (us : List Value), v = none ∧ bk = bk' ∧ Keep h0 h [t] ∧ (Arv Z h t kb .byte (Int32.ofNat N) us (.int 0))
theorem d_jdk_42_m_147_0 : decode jdk_42_method_147_code 0 = .ok (.aload_n 0, 1) := by decide +kernel
theorem d_jdk_42_m_147_1 : decode jdk_42_method_147_code 1 = .ok (.invokevirtual 335, 3) := by decide +kernel
theorem d_jdk_42_m_147_4 : decode jdk_42_method_147_code 4 = .ok (.iload_n 3, 1) := by decide +kernel
theorem d_jdk_42_m_147_5 : decode jdk_42_method_147_code 5 = .ok (.if_icmp .ne 23, 3) := by decide +kernel
theorem d_jdk_42_m_147_8 : decode jdk_42_method_147_code 8 = .ok (.aload_n 0, 1) := by decide +kernel
theorem d_jdk_42_m_147_9 : decode jdk_42_method_147_code 9 = .ok (.getfield 9, 3) := by decide +kernel
theorem d_jdk_42_m_147_12 : decode jdk_42_method_147_code 12 = .ok (.iconst 0, 1) := by decide +kernel
theorem d_jdk_42_m_147_13 : decode jdk_42_method_147_code 13 = .ok (.aload_n 1, 1) := by decide +kernel
theorem d_jdk_42_m_147_14 : decode jdk_42_method_147_code 14 = .ok (.iload_n 2, 1) := by decide +kernel
theorem d_jdk_42_m_147_15 : decode jdk_42_method_147_code 15 = .ok (.iload_n 3, 1) := by decide +kernel
theorem d_jdk_42_m_147_16 : decode jdk_42_method_147_code 16 = .ok (.ishl, 1) := by decide +kernel
theorem d_jdk_42_m_147_17 : decode jdk_42_method_147_code 17 = .ok (.aload_n 0, 1) := by decide +kernel
theorem d_jdk_42_m_147_18 : decode jdk_42_method_147_code 18 = .ok (.getfield 9, 3) := by decide +kernel
theorem d_jdk_42_m_147_21 : decode jdk_42_method_147_code 21 = .ok (.arraylength, 1) := by decide +kernel
theorem d_jdk_42_m_147_22 : decode jdk_42_method_147_code 22 = .ok (.invokestatic 212, 3) := by decide +kernel
theorem d_jdk_42_m_147_25 : decode jdk_42_method_147_code 25 = .ok (.goto 18, 3) := by decide +kernel
theorem d_jdk_42_m_147_43 : decode jdk_42_method_147_code 43 = .ok (.return_, 1) := by decide +kernel
abbrev RM_gby : Room := { frames := 1, cells := 0, slots := 0, locals := 18 }
theorem ef_gby (m : MethodId) (x0 : Addr) (x1 : Addr) (x2 : Int32) (x3 : Int32) : entryFrame m #[(.ref x0), (.ref x1), (.int x2), (.int x3)] 4 = mkF m 0 #[.val (.ref x0), .val (.ref x1), .val (.int x2), .val (.int x3)] [] := by first | (simp [entryFrame, mkF, argsToLocals, Value.category]; done) | rfl
set_option maxRecDepth 65536 in
set_option maxHeartbeats 40000000 in
theorem rm_gby (l : Launch) (Z : State) (a0 : Array Value) (G1 : Int32) (G3 : Value) (d1 d2 us ss : Addr) (kd1 kd2 : ClassId) (w1 w2 : List Value) (hX : Ctx Z a0 G1 G3) (hY : More Z d1 d2 us ss kd1 kd2 w1 w2) (n0 : Nat) (bk : Addr → Prop) (h0 : Heap) (O0 : Old Z n0 h0) (t : Addr) (kb : ClassId) (N : Nat) (n : Nat) (vs : List Value) (b : Addr) (t2 : Addr) (kb2 : ClassId) (ds : List Int32) (pf_0 : StrL Z h0 b t2 kb2 ds) (pf_1 : Arv Z h0 t kb .byte (Int32.ofNat N) vs (.int 0)) (hl : n + ds.length ≤ N) (hN : N ≤ 1000) (nbt : ¬ bk t) (gt : n0 ≤ t) (ws : List Jvm.Cond) : Met l Z EL1 n0 bk (⟨"java/lang/String", "getBytes", "([BIB)V"⟩ : MethodName) jdk_42_method_147_code 4 (Option.none : Option FieldType) RM_gby #[(.ref b), (.ref t), (.int (Int32.ofNat n)), (.int (0 : Int32))] h0 (Q_gby Z G1 G3 d1 d2 us ss kd1 kd2 w1 w2 t kb N n vs b t2 kb2 ds h0 n0 bk) ws := by
  have hX' := hX
  obtain ⟨hw, hE, S1, P1, S3, P3⟩ := hX'
  have hY' := hY
  obtain ⟨s_d1, a_d1, s_d2, a_d2, s_us, s_ss⟩ := hY'
  have hSA := sa_of hw
  have z0 : n0 ≤ h0.size := by rw [← O0.1]; exact O0.2.1
  refine Met.of (by decide +kernel) O0 hE ?_
  intro p e s m below meth c hx hby hml hret hlk hnm
  refine k_cast (ef_gby m b t (Int32.ofNat n) (0 : Int32)) ?_
  show Run p l e _ s m _ below meth c Z EL1 _ n0 bk h0 0 0 (mkF m 0 #[.val (.ref b), .val (.ref t), .val (.int (Int32.ofNat n)), .val (.int (0 : Int32))] []) _
  have lt_1 : @LT.lt Nat _ b (Array.size h0) := pf_0.lt1
  have lt_2 : @LT.lt Nat _ t2 (Array.size h0) := pf_0.lt2
  have lt_3 : @LT.lt Nat _ t (Array.size h0) := pf_1.lt
  refine k_pure (g' := (mkF m 1 #[.val (.ref b), .val (.ref t), .val (.int (Int32.ofNat n)), .val (.int (0 : Int32))] [(.ref b)])) (fun TT HH tt kk => XS.aloadN HH hx rfl (hb hby d_jdk_42_m_147_0) rfl rfl kk) ?_
  refine k_callV hx (y := (⟨"java/lang/String", "coder", "()B"⟩ : MethodName)) (z := (⟨"java/lang/String", "coder", "()B"⟩ : MethodName)) (hw _ (List.mem_of_getElem? (i := 50) rfl)) (hw _ (List.mem_of_getElem? (i := 51) rfl)) (fun s' hZ => notFace_of_selects (args := #[]) (mv hZ (hw _ (List.mem_of_getElem? (i := 53) rfl)))) (hw _ (List.mem_of_getElem? (i := 53) rfl)) (hw _ (List.mem_of_getElem? (i := 52) rfl)) (by decide) (W := 0) (a := b) (argsL := []) (rest := []) (Pays.of_met (rm_coder l Z a0 G1 G3 d1 d2 us ss kd1 kd2 w1 w2 hX hY n0 bk h0 O0 b t2 kb2 ds pf_0 []) (hw _ (List.mem_of_getElem? (i := 54) rfl)) (hw _ (List.mem_of_getElem? (i := 22) rfl)) (by decide) (by decide)) pf_0.1 rfl (by rw [hml]; rfl) (lenOf pd__28__29_B rfl) rfl (by show 2 * 0 + _ ≤ _; exact Nat.le_of_eq rfl) (hb hby d_jdk_42_m_147_1) (by decide) (by decide) ?_
  intro v_4 h_5 bk_6 O_7 z_8 Q_9
  obtain ⟨rfl, rfl, rfl⟩ := Q_9
  show Run p l e _ s m _ below meth c Z EL1 _ n0 bk h0 0 0 (mkF m 4 #[.val (.ref b), .val (.ref t), .val (.int (Int32.ofNat n)), .val (.int (0 : Int32))] [(.int (0 : Int32))]) _
  refine k_pure (g' := (mkF m 5 #[.val (.ref b), .val (.ref t), .val (.int (Int32.ofNat n)), .val (.int (0 : Int32))] [(.int (0 : Int32)), (.int (0 : Int32))])) (fun TT HH tt kk => XS.iloadN HH hx rfl (hb hby d_jdk_42_m_147_4) rfl kk) ?_
  refine k_pure (g' := (mkF m 8 #[.val (.ref b), .val (.ref t), .val (.int (Int32.ofNat n)), .val (.int (0 : Int32))] [])) (fun TT HH tt kk => XS.icmpNo HH hx rfl (hb hby d_jdk_42_m_147_5) rfl (teq (by decide : ((0 : Int32) = (0 : Int32)))).2 kk) ?_
  refine k_pure (g' := (mkF m 9 #[.val (.ref b), .val (.ref t), .val (.int (Int32.ofNat n)), .val (.int (0 : Int32))] [(.ref b)])) (fun TT HH tt kk => XS.aloadN HH hx rfl (hb hby d_jdk_42_m_147_8) rfl rfl kk) ?_
  refine k_getF hx (host := "") (Or.inl (hw _ (List.mem_of_getElem? (i := 49) rfl))) Via.refl pf_0.2.2.1 rfl rfl (hb hby d_jdk_42_m_147_9) ?_
  show Run p l e _ s m _ below meth c Z EL1 _ n0 bk h0 0 0 (mkF m 12 #[.val (.ref b), .val (.ref t), .val (.int (Int32.ofNat n)), .val (.int (0 : Int32))] [(.ref t2)]) _
  refine k_pure (g' := (mkF m 13 #[.val (.ref b), .val (.ref t), .val (.int (Int32.ofNat n)), .val (.int (0 : Int32))] [(.int (0 : Int32)), (.ref t2)])) (fun TT HH tt kk => XS.iconst HH hx rfl (hb hby d_jdk_42_m_147_12) kk) ?_
  refine k_pure (g' := (mkF m 14 #[.val (.ref b), .val (.ref t), .val (.int (Int32.ofNat n)), .val (.int (0 : Int32))] [(.ref t), (.int (0 : Int32)), (.ref t2)])) (fun TT HH tt kk => XS.aloadN HH hx rfl (hb hby d_jdk_42_m_147_13) rfl rfl kk) ?_
  refine k_pure (g' := (mkF m 15 #[.val (.ref b), .val (.ref t), .val (.int (Int32.ofNat n)), .val (.int (0 : Int32))] [(.int (Int32.ofNat n)), (.ref t), (.int (0 : Int32)), (.ref t2)])) (fun TT HH tt kk => XS.iloadN HH hx rfl (hb hby d_jdk_42_m_147_14) rfl kk) ?_
  refine k_pure (g' := (mkF m 16 #[.val (.ref b), .val (.ref t), .val (.int (Int32.ofNat n)), .val (.int (0 : Int32))] [(.int (0 : Int32)), (.int (Int32.ofNat n)), (.ref t), (.int (0 : Int32)), (.ref t2)])) (fun TT HH tt kk => XS.iloadN HH hx rfl (hb hby d_jdk_42_m_147_15) rfl kk) ?_
  refine k_pure (g' := (mkF m 17 #[.val (.ref b), .val (.ref t), .val (.int (Int32.ofNat n)), .val (.int (0 : Int32))] [(.int ((Int32.ofNat n) <<< ((0 : Int32) &&& 31))), (.ref t), (.int (0 : Int32)), (.ref t2)])) (fun TT HH tt kk => XS.ishl HH hx rfl (hb hby d_jdk_42_m_147_16) rfl kk) ?_
  rw [shl0]
  show Run p l e _ s m _ below meth c Z EL1 _ n0 bk h0 0 0 (mkF m 17 #[.val (.ref b), .val (.ref t), .val (.int (Int32.ofNat n)), .val (.int (0 : Int32))] [(.int (Int32.ofNat n)), (.ref t), (.int (0 : Int32)), (.ref t2)]) _
  refine k_pure (g' := (mkF m 18 #[.val (.ref b), .val (.ref t), .val (.int (Int32.ofNat n)), .val (.int (0 : Int32))] [(.ref b), (.int (Int32.ofNat n)), (.ref t), (.int (0 : Int32)), (.ref t2)])) (fun TT HH tt kk => XS.aloadN HH hx rfl (hb hby d_jdk_42_m_147_17) rfl rfl kk) ?_
  refine k_getF hx (host := "") (Or.inl (hw _ (List.mem_of_getElem? (i := 49) rfl))) Via.refl pf_0.2.2.1 rfl rfl (hb hby d_jdk_42_m_147_18) ?_
  show Run p l e _ s m _ below meth c Z EL1 _ n0 bk h0 0 0 (mkF m 21 #[.val (.ref b), .val (.ref t), .val (.int (Int32.ofNat n)), .val (.int (0 : Int32))] [(.ref t2), (.int (Int32.ofNat n)), (.ref t), (.int (0 : Int32)), (.ref t2)]) _
  refine k_alen hx pf_0.2.2.2.1 rfl rfl (hb hby d_jdk_42_m_147_21) ?_
  show Run p l e _ s m _ below meth c Z EL1 _ n0 bk h0 0 0 (mkF m 22 #[.val (.ref b), .val (.ref t), .val (.int (Int32.ofNat n)), .val (.int (0 : Int32))] [(.int (Int32.ofNat (ds).length)), (.int (Int32.ofNat n)), (.ref t), (.int (0 : Int32)), (.ref t2)]) _
  have B_10 : Arv Z h0 t kb .byte (Int32.ofNat N) (vs ++ List.replicate N (Value.int 0)) (.int 0) := Arv.pad pf_1 (pad_rep _ (.int 0) N)
  refine k_cpA hx (hw _ (List.mem_of_getElem? (i := 106) rfl)) (hw _ (List.mem_of_getElem? (i := 89) rfl)) (hw _ (List.mem_of_getElem? (i := 87) rfl)) (hw _ (List.mem_of_getElem? (i := 88) rfl)) pf_0.2.2.2.1 B_10 (Or.inl ⟨rfl, rfl⟩) (by decide) (not_lt_nat (n := 0) (Nat.zero_le _) (by omega)) (not_lt_nat (n := 0) (Nat.zero_le _) (by omega)) (Nat.le_of_eq (Nat.zero_add _)) (by rw [clampN (by omega), clampN (by omega), clampN (by omega)]; exact hl) rfl (by rw [clampN (by omega), clampN (by omega), List.length_append, List.length_replicate]; omega) (by omega) nbt rfl (by rw [hml]; rfl) rfl (hb hby d_jdk_42_m_147_22) (by decide) (W := 0) (by show 2 * 0 + _ ≤ _; exact Nat.le_of_eq rfl) (by decide) ?_
  intro h_11 O_12 K_13 V_14
  have z_15 := K_13.1
  obtain ⟨vs_16, V_17⟩ : ∃ ws : List Value, Arv Z h_11 t kb .byte (Int32.ofNat N) ws (.int 0) := ⟨_, V_14⟩
  show Run p l e _ s m _ below meth c Z EL1 _ n0 bk h_11 0 0 (mkF m 25 #[.val (.ref b), .val (.ref t), .val (.int (Int32.ofNat n)), .val (.int (0 : Int32))] []) _
  refine k_pure (g' := (mkF m 43 #[.val (.ref b), .val (.ref t), .val (.int (Int32.ofNat n)), .val (.int (0 : Int32))] [])) (fun TT HH tt kk => XS.goto HH hx rfl (pc0 := 25) (pc' := 43) rfl (hb hby d_jdk_42_m_147_25) (by decide) (by decide) kk) ?_
  exact k_ret0 hx hlk hret (hb hby d_jdk_42_m_147_43) (by decide) (by decide) ⟨_, rfl, rfl, ((Keep.refl _ _).trans K_13 (kkS (Or.inl (by simp)) kk0)), V_17⟩
def Q_psa (Z : State) (G1 : Int32) (G3 : Value) (d1 d2 us ss : Addr) (kd1 kd2 : ClassId) (w1 w2 : List Value) (a : Addr) (t : Addr) (kb : ClassId) (N : Nat) (n : Nat) (vs : List Value) (b : Addr) (t2 : Addr) (kb2 : ClassId) (ds : List Int32) (h0 : Heap) (n0 : Nat) (bk : Addr → Prop) (v : Option Value) (h : Heap) (bk' : Addr → Prop) : Prop := ∃ (us : List Value), v = none ∧ bk = bk' ∧ Keep h0 h [t] ∧ (Arv Z h t kb .byte (Int32.ofNat N) us (.int 0))
theorem d_jdk_68_m_73_0 : decode jdk_68_method_73_code 0 = .ok (.aload_n 0, 1) := by decide +kernel
theorem d_jdk_68_m_73_1 : decode jdk_68_method_73_code 1 = .ok (.aload_n 2, 1) := by decide +kernel
theorem d_jdk_68_m_73_2 : decode jdk_68_method_73_code 2 = .ok (.invokevirtual 397, 3) := by decide +kernel
theorem pd__28_Ljava_2f_lang_2f_String_3b__29_V : parseMethodDescriptor "(Ljava/lang/String;)V" = some ⟨[(.object "java/lang/String")], none⟩ := by decide +kernel
theorem d_jdk_68_m_73_5 : decode jdk_68_method_73_code 5 = .ok (.aload_n 2, 1) := by decide +kernel
theorem d_jdk_68_m_73_6 : decode jdk_68_method_73_code 6 = .ok (.aload_n 0, 1) := by decide +kernel
theorem d_jdk_68_m_73_7 : decode jdk_68_method_73_code 7 = .ok (.getfield 15, 3) := by decide +kernel
theorem d_jdk_68_m_73_10 : decode jdk_68_method_73_code 10 = .ok (.iload_n 1, 1) := by decide +kernel
theorem d_jdk_68_m_73_11 : decode jdk_68_method_73_code 11 = .ok (.aload_n 0, 1) := by decide +kernel
theorem d_jdk_68_m_73_12 : decode jdk_68_method_73_code 12 = .ok (.getfield 22, 3) := by decide +kernel
theorem d_jdk_68_m_73_15 : decode jdk_68_method_73_code 15 = .ok (.invokevirtual 399, 3) := by decide +kernel
theorem pd__28__5b_BIB_29_V : parseMethodDescriptor "([BIB)V" = some ⟨[(.array .byte), .int, .byte], none⟩ := by decide +kernel
theorem d_jdk_68_m_73_18 : decode jdk_68_method_73_code 18 = .ok (.return_, 1) := by decide +kernel
abbrev RM_psa : Room := { frames := 2, cells := 0, slots := 0, locals := 33 }
theorem ef_psa (m : MethodId) (x0 : Addr) (x1 : Int32) (x2 : Addr) : entryFrame m #[(.ref x0), (.int x1), (.ref x2)] 3 = mkF m 0 #[.val (.ref x0), .val (.int x1), .val (.ref x2)] [] := by first | (simp [entryFrame, mkF, argsToLocals, Value.category]; done) | rfl
set_option maxRecDepth 65536 in
set_option maxHeartbeats 40000000 in
theorem rm_psa (l : Launch) (Z : State) (a0 : Array Value) (G1 : Int32) (G3 : Value) (d1 d2 us ss : Addr) (kd1 kd2 : ClassId) (w1 w2 : List Value) (hX : Ctx Z a0 G1 G3) (hY : More Z d1 d2 us ss kd1 kd2 w1 w2) (n0 : Nat) (bk : Addr → Prop) (h0 : Heap) (O0 : Old Z n0 h0) (a : Addr) (t : Addr) (kb : ClassId) (N : Nat) (n : Nat) (vs : List Value) (b : Addr) (t2 : Addr) (kb2 : ClassId) (ds : List Int32) (pf_0 : SbW Z h0 a t kb N n vs) (pf_1 : StrL Z h0 b t2 kb2 ds) (hl : n + ds.length ≤ N) (nba : ¬ bk a) (nbt : ¬ bk t) (ga : n0 ≤ a) (gt : n0 ≤ t) (ws : List Jvm.Cond) : Met l Z EL1 n0 bk (⟨"java/lang/AbstractStringBuilder", "putStringAt", "(ILjava/lang/String;)V"⟩ : MethodName) jdk_68_method_73_code 3 (Option.none : Option FieldType) RM_psa #[(.ref a), (.int (Int32.ofNat n)), (.ref b)] h0 (Q_psa Z G1 G3 d1 d2 us ss kd1 kd2 w1 w2 a t kb N n vs b t2 kb2 ds h0 n0 bk) ws := by
  have hX' := hX
  obtain ⟨hw, hE, S1, P1, S3, P3⟩ := hX'
  have hY' := hY
  obtain ⟨s_d1, a_d1, s_d2, a_d2, s_us, s_ss⟩ := hY'
  have hSA := sa_of hw
  have z0 : n0 ≤ h0.size := by rw [← O0.1]; exact O0.2.1
  refine Met.of (by decide +kernel) O0 hE ?_
  intro p e s m below meth c hx hby hml hret hlk hnm
  refine k_cast (ef_psa m a (Int32.ofNat n) b) ?_
  show Run p l e _ s m _ below meth c Z EL1 _ n0 bk h0 0 0 (mkF m 0 #[.val (.ref a), .val (.int (Int32.ofNat n)), .val (.ref b)] []) _
  have ne_1 : @Ne Nat a t := pf_0.2.2.2.2.2.2.2
  have lt_2 : @LT.lt Nat _ a (Array.size h0) := pf_0.lt1
  have lt_3 : @LT.lt Nat _ t (Array.size h0) := pf_0.lt2
  have lt_4 : @LT.lt Nat _ b (Array.size h0) := pf_1.lt1
  have lt_5 : @LT.lt Nat _ t2 (Array.size h0) := pf_1.lt2
  have hNN := pf_0.2.2.2.2.2.2.1
  have hnN := pf_0.2.2.2.2.2.1
  refine k_pure (g' := (mkF m 1 #[.val (.ref a), .val (.int (Int32.ofNat n)), .val (.ref b)] [(.ref a)])) (fun TT HH tt kk => XS.aloadN HH hx rfl (hb hby d_jdk_68_m_73_0) rfl rfl kk) ?_
  refine k_pure (g' := (mkF m 2 #[.val (.ref a), .val (.int (Int32.ofNat n)), .val (.ref b)] [(.ref b), (.ref a)])) (fun TT HH tt kk => XS.aloadN HH hx rfl (hb hby d_jdk_68_m_73_1) rfl rfl kk) ?_
  refine k_callV hx (y := (⟨"java/lang/AbstractStringBuilder", "inflateIfNeededFor", "(Ljava/lang/String;)V"⟩ : MethodName)) (z := (⟨"java/lang/AbstractStringBuilder", "inflateIfNeededFor", "(Ljava/lang/String;)V"⟩ : MethodName)) (hw _ (List.mem_of_getElem? (i := 95) rfl)) (decl_of (hw _ (List.mem_of_getElem? (i := 96) rfl)) (hw _ (List.mem_of_getElem? (i := 99) rfl))) (fun s' hZ => notFace_of_selects (args := #[]) (mv hZ (hw _ (List.mem_of_getElem? (i := 98) rfl)))) (hw _ (List.mem_of_getElem? (i := 98) rfl)) (hw _ (List.mem_of_getElem? (i := 96) rfl)) (by decide) (W := 0) (a := a) (argsL := [(.ref b)]) (rest := []) (Pays.of_met (rm_inf l Z a0 G1 G3 d1 d2 us ss kd1 kd2 w1 w2 hX hY n0 bk h0 O0 a t kb N n vs b t2 kb2 ds pf_0 pf_1 []) (hw _ (List.mem_of_getElem? (i := 99) rfl)) (hw _ (List.mem_of_getElem? (i := 16) rfl)) (by decide) (by decide)) pf_0.1 rfl (by rw [hml]; rfl) (lenOf pd__28_Ljava_2f_lang_2f_String_3b__29_V rfl) rfl (by show 2 * 0 + _ ≤ _; exact Nat.le_of_eq rfl) (hb hby d_jdk_68_m_73_2) (by decide) (by decide) ?_
  intro v_6 h_7 bk_8 O_9 z_10 Q_11
  obtain ⟨rfl, rfl, rfl⟩ := Q_11
  show Run p l e _ s m _ below meth c Z EL1 _ n0 bk h0 0 0 (mkF m 5 #[.val (.ref a), .val (.int (Int32.ofNat n)), .val (.ref b)] []) _
  refine k_pure (g' := (mkF m 6 #[.val (.ref a), .val (.int (Int32.ofNat n)), .val (.ref b)] [(.ref b)])) (fun TT HH tt kk => XS.aloadN HH hx rfl (hb hby d_jdk_68_m_73_5) rfl rfl kk) ?_
  refine k_pure (g' := (mkF m 7 #[.val (.ref a), .val (.int (Int32.ofNat n)), .val (.ref b)] [(.ref a), (.ref b)])) (fun TT HH tt kk => XS.aloadN HH hx rfl (hb hby d_jdk_68_m_73_6) rfl rfl kk) ?_
  refine k_getF hx (host := "") (Or.inl (hw _ (List.mem_of_getElem? (i := 24) rfl))) Via.refl pf_0.2.2.1 rfl rfl (hb hby d_jdk_68_m_73_7) ?_
  show Run p l e _ s m _ below meth c Z EL1 _ n0 bk h0 0 0 (mkF m 10 #[.val (.ref a), .val (.int (Int32.ofNat n)), .val (.ref b)] [(.ref t), (.ref b)]) _
  refine k_pure (g' := (mkF m 11 #[.val (.ref a), .val (.int (Int32.ofNat n)), .val (.ref b)] [(.int (Int32.ofNat n)), (.ref t), (.ref b)])) (fun TT HH tt kk => XS.iloadN HH hx rfl (hb hby d_jdk_68_m_73_10) rfl kk) ?_
  refine k_pure (g' := (mkF m 12 #[.val (.ref a), .val (.int (Int32.ofNat n)), .val (.ref b)] [(.ref a), (.int (Int32.ofNat n)), (.ref t), (.ref b)])) (fun TT HH tt kk => XS.aloadN HH hx rfl (hb hby d_jdk_68_m_73_11) rfl rfl kk) ?_
  refine k_getF hx (host := "") (Or.inl (hw _ (List.mem_of_getElem? (i := 26) rfl))) Via.refl pf_0.2.1 rfl rfl (hb hby d_jdk_68_m_73_12) ?_
  show Run p l e _ s m _ below meth c Z EL1 _ n0 bk h0 0 0 (mkF m 15 #[.val (.ref a), .val (.int (Int32.ofNat n)), .val (.ref b)] [(.int (0 : Int32)), (.int (Int32.ofNat n)), (.ref t), (.ref b)]) _
  refine k_callV hx (y := (⟨"java/lang/String", "getBytes", "([BIB)V"⟩ : MethodName)) (z := (⟨"java/lang/String", "getBytes", "([BIB)V"⟩ : MethodName)) (hw _ (List.mem_of_getElem? (i := 101) rfl)) (hw _ (List.mem_of_getElem? (i := 102) rfl)) (fun s' hZ => notFace_of_selects (args := #[]) (mv hZ (hw _ (List.mem_of_getElem? (i := 104) rfl)))) (hw _ (List.mem_of_getElem? (i := 104) rfl)) (hw _ (List.mem_of_getElem? (i := 103) rfl)) (by decide) (W := 0) (a := b) (argsL := [(.ref t), (.int (Int32.ofNat n)), (.int (0 : Int32))]) (rest := []) (Pays.of_met (rm_gby l Z a0 G1 G3 d1 d2 us ss kd1 kd2 w1 w2 hX hY n0 bk h0 O0 t kb N n vs b t2 kb2 ds pf_1 pf_0.2.2.2.2.1 hl hNN nbt (by omega) []) (hw _ (List.mem_of_getElem? (i := 105) rfl)) (hw _ (List.mem_of_getElem? (i := 22) rfl)) (by decide) (by decide)) pf_1.1 rfl (by rw [hml]; rfl) (lenOf pd__28__5b_BIB_29_V rfl) rfl (by show 2 * 0 + _ ≤ _; exact Nat.le_of_eq rfl) (hb hby d_jdk_68_m_73_15) (by decide) (by decide) ?_
  intro v_12 h_13 bk_14 O_15 z_16 Q_17
  obtain ⟨e_18, rfl, rfl, K_19, F_20⟩ := Q_17
  have lt_21 : @LT.lt Nat _ t (Array.size h_13) := F_20.lt
  show Run p l e _ s m _ below meth c Z EL1 _ n0 bk h_13 0 0 (mkF m 18 #[.val (.ref a), .val (.int (Int32.ofNat n)), .val (.ref b)] []) _
  exact k_ret0 hx hlk hret (hb hby d_jdk_68_m_73_18) (by decide) (by decide) ⟨_, rfl, rfl, ((Keep.refl _ _).trans K_19 (kkS (Or.inl (by simp)) kk0)), F_20⟩
def Q_aps (Z : State) (G1 : Int32) (G3 : Value) (d1 d2 us ss : Addr) (kd1 kd2 : ClassId) (w1 w2 : List Value) (a : Addr) (t : Addr) (kb : ClassId) (N : Nat) (n : Nat) (vs : List Value) (b : Addr) (t2 : Addr) (kb2 : ClassId) (ds : List Int32) (h0 : Heap) (n0 : Nat) (bk : Addr → Prop) (v : Option Value) (h : Heap) (bk' : Addr → Prop) : Prop := ∃ (us : List Value), v = some (.ref a) ∧ bk = bk' ∧ Keep h0 h [a, t] ∧ (SbW Z h a t kb N (n + ds.length) us)
theorem d_jdk_68_m_22_0 : decode jdk_68_method_22_code 0 = .ok (.aload_n 1, 1) := by decide +kernel
theorem d_jdk_68_m_22_1 : decode jdk_68_method_22_code 1 = .ok (.ifnonnull 8, 3) := by decide +kernel
theorem d_jdk_68_m_22_9 : decode jdk_68_method_22_code 9 = .ok (.aload_n 1, 1) := by decide +kernel
theorem d_jdk_68_m_22_10 : decode jdk_68_method_22_code 10 = .ok (.invokevirtual 32, 3) := by decide +kernel
theorem pd__28__29_I : parseMethodDescriptor "()I" = some ⟨[], some .int⟩ := by decide +kernel
theorem d_jdk_68_m_22_13 : decode jdk_68_method_22_code 13 = .ok (.istore_n 2, 1) := by decide +kernel
theorem d_jdk_68_m_22_14 : decode jdk_68_method_22_code 14 = .ok (.aload_n 0, 1) := by decide +kernel
theorem d_jdk_68_m_22_15 : decode jdk_68_method_22_code 15 = .ok (.aload_n 0, 1) := by decide +kernel
theorem d_jdk_68_m_22_16 : decode jdk_68_method_22_code 16 = .ok (.getfield 79, 3) := by decide +kernel
theorem d_jdk_68_m_22_19 : decode jdk_68_method_22_code 19 = .ok (.iload_n 2, 1) := by decide +kernel
theorem d_jdk_68_m_22_20 : decode jdk_68_method_22_code 20 = .ok (.iadd, 1) := by decide +kernel
theorem d_jdk_68_m_22_21 : decode jdk_68_method_22_code 21 = .ok (.invokevirtual 100, 3) := by decide +kernel
theorem d_jdk_68_m_22_24 : decode jdk_68_method_22_code 24 = .ok (.aload_n 0, 1) := by decide +kernel
theorem d_jdk_68_m_22_25 : decode jdk_68_method_22_code 25 = .ok (.aload_n 0, 1) := by decide +kernel
theorem d_jdk_68_m_22_26 : decode jdk_68_method_22_code 26 = .ok (.getfield 79, 3) := by decide +kernel
theorem d_jdk_68_m_22_29 : decode jdk_68_method_22_code 29 = .ok (.aload_n 1, 1) := by decide +kernel
theorem d_jdk_68_m_22_30 : decode jdk_68_method_22_code 30 = .ok (.invokevirtual 208, 3) := by decide +kernel
theorem pd__28_ILjava_2f_lang_2f_String_3b__29_V : parseMethodDescriptor "(ILjava/lang/String;)V" = some ⟨[.int, (.object "java/lang/String")], none⟩ := by decide +kernel
theorem d_jdk_68_m_22_33 : decode jdk_68_method_22_code 33 = .ok (.aload_n 0, 1) := by decide +kernel
theorem d_jdk_68_m_22_34 : decode jdk_68_method_22_code 34 = .ok (.dup, 1) := by decide +kernel
theorem d_jdk_68_m_22_35 : decode jdk_68_method_22_code 35 = .ok (.getfield 79, 3) := by decide +kernel
theorem d_jdk_68_m_22_38 : decode jdk_68_method_22_code 38 = .ok (.iload_n 2, 1) := by decide +kernel
theorem d_jdk_68_m_22_39 : decode jdk_68_method_22_code 39 = .ok (.iadd, 1) := by decide +kernel
theorem d_jdk_68_m_22_40 : decode jdk_68_method_22_code 40 = .ok (.putfield 79, 3) := by decide +kernel
theorem d_jdk_68_m_22_43 : decode jdk_68_method_22_code 43 = .ok (.aload_n 0, 1) := by decide +kernel
theorem d_jdk_68_m_22_44 : decode jdk_68_method_22_code 44 = .ok (.areturn, 1) := by decide +kernel
abbrev RM_aps : Room := { frames := 3, cells := 0, slots := 0, locals := 47 }
theorem ef_aps (m : MethodId) (x0 : Addr) (x1 : Addr) : entryFrame m #[(.ref x0), (.ref x1)] 3 = mkF m 0 #[.val (.ref x0), .val (.ref x1), .unset] [] := by first | (simp [entryFrame, mkF, argsToLocals, Value.category]; done) | rfl
set_option maxRecDepth 65536 in
set_option maxHeartbeats 40000000 in
theorem rm_aps (l : Launch) (Z : State) (a0 : Array Value) (G1 : Int32) (G3 : Value) (d1 d2 us ss : Addr) (kd1 kd2 : ClassId) (w1 w2 : List Value) (hX : Ctx Z a0 G1 G3) (hY : More Z d1 d2 us ss kd1 kd2 w1 w2) (n0 : Nat) (bk : Addr → Prop) (h0 : Heap) (O0 : Old Z n0 h0) (a : Addr) (t : Addr) (kb : ClassId) (N : Nat) (n : Nat) (vs : List Value) (b : Addr) (t2 : Addr) (kb2 : ClassId) (ds : List Int32) (pf_0 : SbW Z h0 a t kb N n vs) (pf_1 : StrL Z h0 b t2 kb2 ds) (hl : n + ds.length ≤ N) (n1 : @Ne Nat b a) (n2 : @Ne Nat b t) (n3 : @Ne Nat t2 a) (n4 : @Ne Nat t2 t) (nba : ¬ bk a) (nbt : ¬ bk t) (ga : n0 ≤ a) (gt : n0 ≤ t) (ws : List Jvm.Cond) : Met l Z EL1 n0 bk (⟨"java/lang/AbstractStringBuilder", "append", "(Ljava/lang/String;)Ljava/lang/AbstractStringBuilder;"⟩ : MethodName) jdk_68_method_22_code 3 (Option.some (FieldType.object "java/lang/AbstractStringBuilder")) RM_aps #[(.ref a), (.ref b)] h0 (Q_aps Z G1 G3 d1 d2 us ss kd1 kd2 w1 w2 a t kb N n vs b t2 kb2 ds h0 n0 bk) ws := by
  have hX' := hX
  obtain ⟨hw, hE, S1, P1, S3, P3⟩ := hX'
  have hY' := hY
  obtain ⟨s_d1, a_d1, s_d2, a_d2, s_us, s_ss⟩ := hY'
  have hSA := sa_of hw
  have z0 : n0 ≤ h0.size := by rw [← O0.1]; exact O0.2.1
  refine Met.of (by decide +kernel) O0 hE ?_
  intro p e s m below meth c hx hby hml hret hlk hnm
  refine k_cast (ef_aps m a b) ?_
  show Run p l e _ s m _ below meth c Z EL1 _ n0 bk h0 0 0 (mkF m 0 #[.val (.ref a), .val (.ref b), .unset] []) _
  have ne_1 : @Ne Nat a t := pf_0.2.2.2.2.2.2.2
  have lt_2 : @LT.lt Nat _ a (Array.size h0) := pf_0.lt1
  have lt_3 : @LT.lt Nat _ t (Array.size h0) := pf_0.lt2
  have lt_4 : @LT.lt Nat _ b (Array.size h0) := pf_1.lt1
  have lt_5 : @LT.lt Nat _ t2 (Array.size h0) := pf_1.lt2
  have hNN := pf_0.2.2.2.2.2.2.1
  have hnN := pf_0.2.2.2.2.2.1
  refine k_pure (g' := (mkF m 1 #[.val (.ref a), .val (.ref b), .unset] [(.ref b)])) (fun TT HH tt kk => XS.aloadN HH hx rfl (hb hby d_jdk_68_m_22_0) rfl rfl kk) ?_
  refine k_pure (g' := (mkF m 9 #[.val (.ref a), .val (.ref b), .unset] [])) (fun TT HH tt kk => XS.ifnonnullYes HH hx rfl (pc0 := 1) (pc' := 9) rfl (hb hby d_jdk_68_m_22_1) rfl (by decide) (by decide) kk) ?_
  refine k_pure (g' := (mkF m 10 #[.val (.ref a), .val (.ref b), .unset] [(.ref b)])) (fun TT HH tt kk => XS.aloadN HH hx rfl (hb hby d_jdk_68_m_22_9) rfl rfl kk) ?_
  refine k_callV hx (y := (⟨"java/lang/String", "length", "()I"⟩ : MethodName)) (z := (⟨"java/lang/String", "length", "()I"⟩ : MethodName)) (hw _ (List.mem_of_getElem? (i := 44) rfl)) (hw _ (List.mem_of_getElem? (i := 45) rfl)) (fun s' hZ => notFace_of_selects (args := #[]) (mv hZ (hw _ (List.mem_of_getElem? (i := 47) rfl)))) (hw _ (List.mem_of_getElem? (i := 47) rfl)) (hw _ (List.mem_of_getElem? (i := 46) rfl)) (by decide) (W := 0) (a := b) (argsL := []) (rest := []) (Pays.of_met (rm_sle l Z a0 G1 G3 d1 d2 us ss kd1 kd2 w1 w2 hX hY n0 bk h0 O0 b t2 kb2 ds pf_1 []) (hw _ (List.mem_of_getElem? (i := 48) rfl)) (hw _ (List.mem_of_getElem? (i := 22) rfl)) (by decide) (by decide)) pf_1.1 rfl (by rw [hml]; rfl) (lenOf pd__28__29_I rfl) rfl (by show 2 * 0 + _ ≤ _; exact Nat.le_of_eq rfl) (hb hby d_jdk_68_m_22_10) (by decide) (by decide) ?_
  intro v_6 h_7 bk_8 O_9 z_10 Q_11
  obtain ⟨rfl, rfl, rfl⟩ := Q_11
  show Run p l e _ s m _ below meth c Z EL1 _ n0 bk h0 0 0 (mkF m 13 #[.val (.ref a), .val (.ref b), .unset] [(.int (Int32.ofNat (ds).length))]) _
  refine k_pure (g' := (mkF m 14 #[.val (.ref a), .val (.ref b), .val (.int (Int32.ofNat (ds).length))] [])) (fun TT HH tt kk => XS.istoreN HH hx rfl (hb hby d_jdk_68_m_22_13) rfl (l' := #[.val (.ref a), .val (.ref b), .val (.int (Int32.ofNat (ds).length))]) rfl kk) ?_
  refine k_pure (g' := (mkF m 15 #[.val (.ref a), .val (.ref b), .val (.int (Int32.ofNat (ds).length))] [(.ref a)])) (fun TT HH tt kk => XS.aloadN HH hx rfl (hb hby d_jdk_68_m_22_14) rfl rfl kk) ?_
  refine k_pure (g' := (mkF m 16 #[.val (.ref a), .val (.ref b), .val (.int (Int32.ofNat (ds).length))] [(.ref a), (.ref a)])) (fun TT HH tt kk => XS.aloadN HH hx rfl (hb hby d_jdk_68_m_22_15) rfl rfl kk) ?_
  refine k_getF hx (host := "") (Or.inl (hw _ (List.mem_of_getElem? (i := 57) rfl))) Via.refl pf_0.2.2.2.1 rfl rfl (hb hby d_jdk_68_m_22_16) ?_
  show Run p l e _ s m _ below meth c Z EL1 _ n0 bk h0 0 0 (mkF m 19 #[.val (.ref a), .val (.ref b), .val (.int (Int32.ofNat (ds).length))] [(.int (Int32.ofNat n)), (.ref a)]) _
  refine k_pure (g' := (mkF m 20 #[.val (.ref a), .val (.ref b), .val (.int (Int32.ofNat (ds).length))] [(.int (Int32.ofNat (ds).length)), (.int (Int32.ofNat n)), (.ref a)])) (fun TT HH tt kk => XS.iloadN HH hx rfl (hb hby d_jdk_68_m_22_19) rfl kk) ?_
  refine k_pure (g' := (mkF m 21 #[.val (.ref a), .val (.ref b), .val (.int (Int32.ofNat (ds).length))] [(.int ((Int32.ofNat n) + (Int32.ofNat (ds).length))), (.ref a)])) (fun TT HH tt kk => XS.iadd HH hx rfl (hb hby d_jdk_68_m_22_20) rfl kk) ?_
  rw [add_n]
  show Run p l e _ s m _ below meth c Z EL1 _ n0 bk h0 0 0 (mkF m 21 #[.val (.ref a), .val (.ref b), .val (.int (Int32.ofNat (ds).length))] [(.int (Int32.ofNat (n + (ds).length))), (.ref a)]) _
  refine k_callV hx (y := (⟨"java/lang/AbstractStringBuilder", "ensureCapacityInternal", "(I)V"⟩ : MethodName)) (z := (⟨"java/lang/AbstractStringBuilder", "ensureCapacityInternal", "(I)V"⟩ : MethodName)) (hw _ (List.mem_of_getElem? (i := 59) rfl)) (decl_of (hw _ (List.mem_of_getElem? (i := 60) rfl)) (hw _ (List.mem_of_getElem? (i := 63) rfl))) (fun s' hZ => notFace_of_selects (args := #[]) (mv hZ (hw _ (List.mem_of_getElem? (i := 62) rfl)))) (hw _ (List.mem_of_getElem? (i := 62) rfl)) (hw _ (List.mem_of_getElem? (i := 60) rfl)) (by decide) (W := 0) (a := a) (argsL := [(.int (Int32.ofNat (n + (ds).length)))]) (rest := []) (Pays.of_met (rm_eci l Z a0 G1 G3 d1 d2 us ss kd1 kd2 w1 w2 hX hY n0 bk h0 O0 a t kb N n vs (n + (ds).length) pf_0 hl []) (hw _ (List.mem_of_getElem? (i := 63) rfl)) (hw _ (List.mem_of_getElem? (i := 16) rfl)) (by decide) (by decide)) pf_0.1 rfl (by rw [hml]; rfl) (lenOf pd__28_I_29_V rfl) rfl (by show 2 * 0 + _ ≤ _; exact Nat.le_of_eq rfl) (hb hby d_jdk_68_m_22_21) (by decide) (by decide) ?_
  intro v_12 h_13 bk_14 O_15 z_16 Q_17
  obtain ⟨rfl, rfl, rfl⟩ := Q_17
  show Run p l e _ s m _ below meth c Z EL1 _ n0 bk h0 0 0 (mkF m 24 #[.val (.ref a), .val (.ref b), .val (.int (Int32.ofNat (ds).length))] []) _
  refine k_pure (g' := (mkF m 25 #[.val (.ref a), .val (.ref b), .val (.int (Int32.ofNat (ds).length))] [(.ref a)])) (fun TT HH tt kk => XS.aloadN HH hx rfl (hb hby d_jdk_68_m_22_24) rfl rfl kk) ?_
  refine k_pure (g' := (mkF m 26 #[.val (.ref a), .val (.ref b), .val (.int (Int32.ofNat (ds).length))] [(.ref a), (.ref a)])) (fun TT HH tt kk => XS.aloadN HH hx rfl (hb hby d_jdk_68_m_22_25) rfl rfl kk) ?_
  refine k_getF hx (host := "") (Or.inl (hw _ (List.mem_of_getElem? (i := 57) rfl))) Via.refl pf_0.2.2.2.1 rfl rfl (hb hby d_jdk_68_m_22_26) ?_
  show Run p l e _ s m _ below meth c Z EL1 _ n0 bk h0 0 0 (mkF m 29 #[.val (.ref a), .val (.ref b), .val (.int (Int32.ofNat (ds).length))] [(.int (Int32.ofNat n)), (.ref a)]) _
  refine k_pure (g' := (mkF m 30 #[.val (.ref a), .val (.ref b), .val (.int (Int32.ofNat (ds).length))] [(.ref b), (.int (Int32.ofNat n)), (.ref a)])) (fun TT HH tt kk => XS.aloadN HH hx rfl (hb hby d_jdk_68_m_22_29) rfl rfl kk) ?_
  refine k_callV hx (y := (⟨"java/lang/AbstractStringBuilder", "putStringAt", "(ILjava/lang/String;)V"⟩ : MethodName)) (z := (⟨"java/lang/AbstractStringBuilder", "putStringAt", "(ILjava/lang/String;)V"⟩ : MethodName)) (hw _ (List.mem_of_getElem? (i := 90) rfl)) (decl_of (hw _ (List.mem_of_getElem? (i := 91) rfl)) (hw _ (List.mem_of_getElem? (i := 94) rfl))) (fun s' hZ => notFace_of_selects (args := #[]) (mv hZ (hw _ (List.mem_of_getElem? (i := 93) rfl)))) (hw _ (List.mem_of_getElem? (i := 93) rfl)) (hw _ (List.mem_of_getElem? (i := 91) rfl)) (by decide) (W := 0) (a := a) (argsL := [(.int (Int32.ofNat n)), (.ref b)]) (rest := []) (Pays.of_met (rm_psa l Z a0 G1 G3 d1 d2 us ss kd1 kd2 w1 w2 hX hY n0 bk h0 O0 a t kb N n vs b t2 kb2 ds pf_0 pf_1 (by omega) nba nbt (by omega) (by omega) []) (hw _ (List.mem_of_getElem? (i := 94) rfl)) (hw _ (List.mem_of_getElem? (i := 16) rfl)) (by decide) (by decide)) pf_0.1 rfl (by rw [hml]; rfl) (lenOf pd__28_ILjava_2f_lang_2f_String_3b__29_V rfl) rfl (by show 2 * 0 + _ ≤ _; exact Nat.le_of_eq rfl) (hb hby d_jdk_68_m_22_30) (by decide) (by decide) ?_
  intro v_18 h_19 bk_20 O_21 z_22 Q_23
  obtain ⟨e_24, rfl, rfl, K_25, F_26⟩ := Q_23
  have lt_27 : @LT.lt Nat _ t (Array.size h_19) := F_26.lt
  show Run p l e _ s m _ below meth c Z EL1 _ n0 bk h_19 0 0 (mkF m 33 #[.val (.ref a), .val (.ref b), .val (.int (Int32.ofNat (ds).length))] []) _
  refine k_pure (g' := (mkF m 34 #[.val (.ref a), .val (.ref b), .val (.int (Int32.ofNat (ds).length))] [(.ref a)])) (fun TT HH tt kk => XS.aloadN HH hx rfl (hb hby d_jdk_68_m_22_33) rfl rfl kk) ?_
  refine k_pure (g' := (mkF m 35 #[.val (.ref a), .val (.ref b), .val (.int (Int32.ofNat (ds).length))] [(.ref a), (.ref a)])) (fun TT HH tt kk => XS.dup HH hx rfl (hb hby d_jdk_68_m_22_34) rfl rfl kk) ?_
  have F_28 : Fld Z h_19 a "java/lang/AbstractStringBuilder" "count" "I" (.int (Int32.ofNat n)) := (pf_0.2.2.2.1.keep K_25 (ninS (ne_ad (by omega)) nin0))
  refine k_getF hx (host := "") (Or.inl (hw _ (List.mem_of_getElem? (i := 57) rfl))) Via.refl F_28 rfl rfl (hb hby d_jdk_68_m_22_35) ?_
  show Run p l e _ s m _ below meth c Z EL1 _ n0 bk h_19 0 0 (mkF m 38 #[.val (.ref a), .val (.ref b), .val (.int (Int32.ofNat (ds).length))] [(.int (Int32.ofNat n)), (.ref a)]) _
  refine k_pure (g' := (mkF m 39 #[.val (.ref a), .val (.ref b), .val (.int (Int32.ofNat (ds).length))] [(.int (Int32.ofNat (ds).length)), (.int (Int32.ofNat n)), (.ref a)])) (fun TT HH tt kk => XS.iloadN HH hx rfl (hb hby d_jdk_68_m_22_38) rfl kk) ?_
  refine k_pure (g' := (mkF m 40 #[.val (.ref a), .val (.ref b), .val (.int (Int32.ofNat (ds).length))] [(.int ((Int32.ofNat n) + (Int32.ofNat (ds).length))), (.ref a)])) (fun TT HH tt kk => XS.iadd HH hx rfl (hb hby d_jdk_68_m_22_39) rfl kk) ?_
  rw [add_n]
  show Run p l e _ s m _ below meth c Z EL1 _ n0 bk h_19 0 0 (mkF m 40 #[.val (.ref a), .val (.ref b), .val (.int (Int32.ofNat (ds).length))] [(.int (Int32.ofNat (n + (ds).length))), (.ref a)]) _
  have F_29 : Exa Z h_19 a "java/lang/StringBuilder" := (pf_0.1.keep K_25)
  refine k_putF hx (host := "") (Or.inl (hw _ (List.mem_of_getElem? (i := 57) rfl))) Via.refl F_28 F_29 (Or.inl (hw _ (List.mem_of_getElem? (i := 58) rfl))) (hw _ (List.mem_of_getElem? (i := 7) rfl)) (ty := .int) (by decide) rfl rfl (by omega) nba rfl rfl (hb hby d_jdk_68_m_22_40) ?_
  intro h_30 O_32 W_31
  have z_33 := W_31.size
  show Run p l e _ s m _ below meth c Z EL1 _ n0 bk h_30 0 0 (mkF m 43 #[.val (.ref a), .val (.ref b), .val (.int (Int32.ofNat (ds).length))] []) _
  refine k_pure (g' := (mkF m 44 #[.val (.ref a), .val (.ref b), .val (.int (Int32.ofNat (ds).length))] [(.ref a)])) (fun TT HH tt kk => XS.aloadN HH hx rfl (hb hby d_jdk_68_m_22_43) rfl rfl kk) ?_
  have F_34 : Exa Z h_30 a "java/lang/StringBuilder" := (F_29.wr W_31)
  have F_35 : Fld Z h_30 a "java/lang/AbstractStringBuilder" "coder" "B" (.int (0 : Int32)) := ((pf_0.2.1.keep K_25 (ninS (ne_ad (by omega)) nin0)).other W_31 (Or.inr (RoadKit.slot_ne (C := "java/lang/StringBuilder") (Or.inl (hw _ (List.mem_of_getElem? (i := 27) rfl))) (Or.inl (hw _ (List.mem_of_getElem? (i := 58) rfl))) (by decide) (t := .byte) (t' := .int) (by decide) (by decide))))
  have F_36 : Fld Z h_30 a "java/lang/AbstractStringBuilder" "value" "[B" (.ref t) := ((pf_0.2.2.1.keep K_25 (ninS (ne_ad (by omega)) nin0)).other W_31 (Or.inr (RoadKit.slot_ne (C := "java/lang/StringBuilder") (Or.inl (hw _ (List.mem_of_getElem? (i := 25) rfl))) (Or.inl (hw _ (List.mem_of_getElem? (i := 58) rfl))) (by decide) (t := (.array .byte)) (t' := .int) (by decide) (by decide))))
  have F_37 : Arv Z h_30 t kb .byte (Int32.ofNat N) e_24 (.int 0) := (F_26.other W_31 (ne_ad (by omega)))
  exact k_retA hx hlk hret rfl rfl rfl (hb hby d_jdk_68_m_22_44) (by decide) (by decide) ⟨e_24, rfl, rfl, (((Keep.refl _ _).trans K_25 (kkS (Or.inl (by simp)) kk0)).wr W_31 (Or.inl (by simp))), ⟨F_34, F_35, F_36, (F_28.same W_31), F_37, (by omega), (by omega), (show @Ne Nat _ _ by omega)⟩⟩
def Q_apg (Z : State) (G1 : Int32) (G3 : Value) (d1 d2 us ss : Addr) (kd1 kd2 : ClassId) (w1 w2 : List Value) (a : Addr) (t : Addr) (kb : ClassId) (N : Nat) (n : Nat) (vs : List Value) (b : Addr) (t2 : Addr) (kb2 : ClassId) (ds : List Int32) (h0 : Heap) (n0 : Nat) (bk : Addr → Prop) (v : Option Value) (h : Heap) (bk' : Addr → Prop) : Prop := ∃ (u : Addr), ∃ (ku : ClassId), ∃ (M : Nat), ∃ (us : List Value), v = some (.ref a) ∧ bk = bk' ∧ Keep h0 h [a] ∧ (SbW Z h a u ku M (n + ds.length) us) ∧ (n + ds.length ≤ M ∧ 2 * N + 2 ≤ M ∧ M ≤ 130 ∧ (M = n + ds.length ∨ M = 2 * N + 2)) ∧ (@LE.le Nat _ (Array.size h0) u) ∧ (¬ bk' u)
abbrev RM_apg : Room := { frames := 4, cells := 1, slots := 130, locals := 62 }
theorem ef_apg (m : MethodId) (x0 : Addr) (x1 : Addr) : entryFrame m #[(.ref x0), (.ref x1)] 3 = mkF m 0 #[.val (.ref x0), .val (.ref x1), .unset] [] := by first | (simp [entryFrame, mkF, argsToLocals, Value.category]; done) | rfl
set_option maxRecDepth 65536 in
set_option maxHeartbeats 40000000 in
theorem rm_apg (l : Launch) (Z : State) (a0 : Array Value) (G1 : Int32) (G3 : Value) (d1 d2 us ss : Addr) (kd1 kd2 : ClassId) (w1 w2 : List Value) (hX : Ctx Z a0 G1 G3) (hY : More Z d1 d2 us ss kd1 kd2 w1 w2) (n0 : Nat) (bk : Addr → Prop) (h0 : Heap) (O0 : Old Z n0 h0) (a : Addr) (t : Addr) (kb : ClassId) (N : Nat) (n : Nat) (vs : List Value) (b : Addr) (t2 : Addr) (kb2 : ClassId) (ds : List Int32) (pf_0 : SbW Z h0 a t kb N n vs) (pf_1 : StrL Z h0 b t2 kb2 ds) (hl : N < n + ds.length) (h2 : n + ds.length + N + 2 ≤ 130) (hbl : ∀ y, bk y → @LT.lt Nat _ y (Array.size h0)) (n1 : @Ne Nat b a) (n2 : @Ne Nat b t) (n3 : @Ne Nat t2 a) (n4 : @Ne Nat t2 t) (nba : ¬ bk a) (nbt : ¬ bk t) (ga : n0 ≤ a) (gt : n0 ≤ t) (ws : List Jvm.Cond) : Met l Z EL1 n0 bk (⟨"java/lang/AbstractStringBuilder", "append", "(Ljava/lang/String;)Ljava/lang/AbstractStringBuilder;"⟩ : MethodName) jdk_68_method_22_code 3 (Option.some (FieldType.object "java/lang/AbstractStringBuilder")) RM_apg #[(.ref a), (.ref b)] h0 (Q_apg Z G1 G3 d1 d2 us ss kd1 kd2 w1 w2 a t kb N n vs b t2 kb2 ds h0 n0 bk) ws := by
  have hX' := hX
  obtain ⟨hw, hE, S1, P1, S3, P3⟩ := hX'
  have hY' := hY
  obtain ⟨s_d1, a_d1, s_d2, a_d2, s_us, s_ss⟩ := hY'
  have hSA := sa_of hw
  have z0 : n0 ≤ h0.size := by rw [← O0.1]; exact O0.2.1
  refine Met.of (by decide +kernel) O0 hE ?_
  intro p e s m below meth c hx hby hml hret hlk hnm
  refine k_cast (ef_apg m a b) ?_
  show Run p l e _ s m _ below meth c Z EL1 _ n0 bk h0 0 0 (mkF m 0 #[.val (.ref a), .val (.ref b), .unset] []) _
  have ne_1 : @Ne Nat a t := pf_0.2.2.2.2.2.2.2
  have lt_2 : @LT.lt Nat _ a (Array.size h0) := pf_0.lt1
  have lt_3 : @LT.lt Nat _ t (Array.size h0) := pf_0.lt2
  have lt_4 : @LT.lt Nat _ b (Array.size h0) := pf_1.lt1
  have lt_5 : @LT.lt Nat _ t2 (Array.size h0) := pf_1.lt2
  have hNN := pf_0.2.2.2.2.2.2.1
  have hnN := pf_0.2.2.2.2.2.1
  refine k_pure (g' := (mkF m 1 #[.val (.ref a), .val (.ref b), .unset] [(.ref b)])) (fun TT HH tt kk => XS.aloadN HH hx rfl (hb hby d_jdk_68_m_22_0) rfl rfl kk) ?_
  refine k_pure (g' := (mkF m 9 #[.val (.ref a), .val (.ref b), .unset] [])) (fun TT HH tt kk => XS.ifnonnullYes HH hx rfl (pc0 := 1) (pc' := 9) rfl (hb hby d_jdk_68_m_22_1) rfl (by decide) (by decide) kk) ?_
  refine k_pure (g' := (mkF m 10 #[.val (.ref a), .val (.ref b), .unset] [(.ref b)])) (fun TT HH tt kk => XS.aloadN HH hx rfl (hb hby d_jdk_68_m_22_9) rfl rfl kk) ?_
  refine k_callV hx (y := (⟨"java/lang/String", "length", "()I"⟩ : MethodName)) (z := (⟨"java/lang/String", "length", "()I"⟩ : MethodName)) (hw _ (List.mem_of_getElem? (i := 44) rfl)) (hw _ (List.mem_of_getElem? (i := 45) rfl)) (fun s' hZ => notFace_of_selects (args := #[]) (mv hZ (hw _ (List.mem_of_getElem? (i := 47) rfl)))) (hw _ (List.mem_of_getElem? (i := 47) rfl)) (hw _ (List.mem_of_getElem? (i := 46) rfl)) (by decide) (W := 0) (a := b) (argsL := []) (rest := []) (Pays.of_met (rm_sle l Z a0 G1 G3 d1 d2 us ss kd1 kd2 w1 w2 hX hY n0 bk h0 O0 b t2 kb2 ds pf_1 []) (hw _ (List.mem_of_getElem? (i := 48) rfl)) (hw _ (List.mem_of_getElem? (i := 22) rfl)) (by decide) (by decide)) pf_1.1 rfl (by rw [hml]; rfl) (lenOf pd__28__29_I rfl) rfl (by show 2 * 0 + _ ≤ _; exact Nat.le_of_eq rfl) (hb hby d_jdk_68_m_22_10) (by decide) (by decide) ?_
  intro v_6 h_7 bk_8 O_9 z_10 Q_11
  obtain ⟨rfl, rfl, rfl⟩ := Q_11
  show Run p l e _ s m _ below meth c Z EL1 _ n0 bk h0 0 0 (mkF m 13 #[.val (.ref a), .val (.ref b), .unset] [(.int (Int32.ofNat (ds).length))]) _
  refine k_pure (g' := (mkF m 14 #[.val (.ref a), .val (.ref b), .val (.int (Int32.ofNat (ds).length))] [])) (fun TT HH tt kk => XS.istoreN HH hx rfl (hb hby d_jdk_68_m_22_13) rfl (l' := #[.val (.ref a), .val (.ref b), .val (.int (Int32.ofNat (ds).length))]) rfl kk) ?_
  refine k_pure (g' := (mkF m 15 #[.val (.ref a), .val (.ref b), .val (.int (Int32.ofNat (ds).length))] [(.ref a)])) (fun TT HH tt kk => XS.aloadN HH hx rfl (hb hby d_jdk_68_m_22_14) rfl rfl kk) ?_
  refine k_pure (g' := (mkF m 16 #[.val (.ref a), .val (.ref b), .val (.int (Int32.ofNat (ds).length))] [(.ref a), (.ref a)])) (fun TT HH tt kk => XS.aloadN HH hx rfl (hb hby d_jdk_68_m_22_15) rfl rfl kk) ?_
  refine k_getF hx (host := "") (Or.inl (hw _ (List.mem_of_getElem? (i := 57) rfl))) Via.refl pf_0.2.2.2.1 rfl rfl (hb hby d_jdk_68_m_22_16) ?_
  show Run p l e _ s m _ below meth c Z EL1 _ n0 bk h0 0 0 (mkF m 19 #[.val (.ref a), .val (.ref b), .val (.int (Int32.ofNat (ds).length))] [(.int (Int32.ofNat n)), (.ref a)]) _
  refine k_pure (g' := (mkF m 20 #[.val (.ref a), .val (.ref b), .val (.int (Int32.ofNat (ds).length))] [(.int (Int32.ofNat (ds).length)), (.int (Int32.ofNat n)), (.ref a)])) (fun TT HH tt kk => XS.iloadN HH hx rfl (hb hby d_jdk_68_m_22_19) rfl kk) ?_
  refine k_pure (g' := (mkF m 21 #[.val (.ref a), .val (.ref b), .val (.int (Int32.ofNat (ds).length))] [(.int ((Int32.ofNat n) + (Int32.ofNat (ds).length))), (.ref a)])) (fun TT HH tt kk => XS.iadd HH hx rfl (hb hby d_jdk_68_m_22_20) rfl kk) ?_
  rw [add_n]
  show Run p l e _ s m _ below meth c Z EL1 _ n0 bk h0 0 0 (mkF m 21 #[.val (.ref a), .val (.ref b), .val (.int (Int32.ofNat (ds).length))] [(.int (Int32.ofNat (n + (ds).length))), (.ref a)]) _
  refine k_callV hx (y := (⟨"java/lang/AbstractStringBuilder", "ensureCapacityInternal", "(I)V"⟩ : MethodName)) (z := (⟨"java/lang/AbstractStringBuilder", "ensureCapacityInternal", "(I)V"⟩ : MethodName)) (hw _ (List.mem_of_getElem? (i := 59) rfl)) (decl_of (hw _ (List.mem_of_getElem? (i := 60) rfl)) (hw _ (List.mem_of_getElem? (i := 63) rfl))) (fun s' hZ => notFace_of_selects (args := #[]) (mv hZ (hw _ (List.mem_of_getElem? (i := 62) rfl)))) (hw _ (List.mem_of_getElem? (i := 62) rfl)) (hw _ (List.mem_of_getElem? (i := 60) rfl)) (by decide) (W := 0) (a := a) (argsL := [(.int (Int32.ofNat (n + (ds).length)))]) (rest := []) (Pays.of_met (rm_ecg l Z a0 G1 G3 d1 d2 us ss kd1 kd2 w1 w2 hX hY n0 bk h0 O0 a t kb N n vs (n + (ds).length) pf_0 hl h2 hbl nba (by omega) []) (hw _ (List.mem_of_getElem? (i := 63) rfl)) (hw _ (List.mem_of_getElem? (i := 16) rfl)) (by decide) (by decide)) pf_0.1 rfl (by rw [hml]; rfl) (lenOf pd__28_I_29_V rfl) rfl (by show 2 * 0 + _ ≤ _; exact Nat.le_of_eq rfl) (hb hby d_jdk_68_m_22_21) (by decide) (by decide) ?_
  intro v_12 h_13 bk_14 O_15 z_16 Q_17
  obtain ⟨a_18, k_19, e_20, e_21, rfl, rfl, K_22, F_23, P_24, P_25, P_26⟩ := Q_17
  have ne_27 : @Ne Nat a a_18 := F_23.2.2.2.2.2.2.2
  have lt_28 : @LT.lt Nat _ a (Array.size h_13) := F_23.lt1
  have lt_29 : @LT.lt Nat _ a_18 (Array.size h_13) := F_23.lt2
  show Run p l e _ s m _ below meth c Z EL1 _ n0 bk h_13 1 130 (mkF m 24 #[.val (.ref a), .val (.ref b), .val (.int (Int32.ofNat (ds).length))] []) _
  have hPG := P_24
  refine k_pure (g' := (mkF m 25 #[.val (.ref a), .val (.ref b), .val (.int (Int32.ofNat (ds).length))] [(.ref a)])) (fun TT HH tt kk => XS.aloadN HH hx rfl (hb hby d_jdk_68_m_22_24) rfl rfl kk) ?_
  refine k_pure (g' := (mkF m 26 #[.val (.ref a), .val (.ref b), .val (.int (Int32.ofNat (ds).length))] [(.ref a), (.ref a)])) (fun TT HH tt kk => XS.aloadN HH hx rfl (hb hby d_jdk_68_m_22_25) rfl rfl kk) ?_
  refine k_getF hx (host := "") (Or.inl (hw _ (List.mem_of_getElem? (i := 57) rfl))) Via.refl F_23.2.2.2.1 rfl rfl (hb hby d_jdk_68_m_22_26) ?_
  show Run p l e _ s m _ below meth c Z EL1 _ n0 bk h_13 1 130 (mkF m 29 #[.val (.ref a), .val (.ref b), .val (.int (Int32.ofNat (ds).length))] [(.int (Int32.ofNat n)), (.ref a)]) _
  refine k_pure (g' := (mkF m 30 #[.val (.ref a), .val (.ref b), .val (.int (Int32.ofNat (ds).length))] [(.ref b), (.int (Int32.ofNat n)), (.ref a)])) (fun TT HH tt kk => XS.aloadN HH hx rfl (hb hby d_jdk_68_m_22_29) rfl rfl kk) ?_
  have F_30 : StrL Z h_13 b t2 kb2 ds := (pf_1.keep K_22 (ninS (ne_ad (by omega)) nin0) (ninS (ne_ad (by omega)) nin0))
  refine k_callV hx (y := (⟨"java/lang/AbstractStringBuilder", "putStringAt", "(ILjava/lang/String;)V"⟩ : MethodName)) (z := (⟨"java/lang/AbstractStringBuilder", "putStringAt", "(ILjava/lang/String;)V"⟩ : MethodName)) (hw _ (List.mem_of_getElem? (i := 90) rfl)) (decl_of (hw _ (List.mem_of_getElem? (i := 91) rfl)) (hw _ (List.mem_of_getElem? (i := 94) rfl))) (fun s' hZ => notFace_of_selects (args := #[]) (mv hZ (hw _ (List.mem_of_getElem? (i := 93) rfl)))) (hw _ (List.mem_of_getElem? (i := 93) rfl)) (hw _ (List.mem_of_getElem? (i := 91) rfl)) (by decide) (W := 0) (a := a) (argsL := [(.int (Int32.ofNat n)), (.ref b)]) (rest := []) (Pays.of_met (rm_psa l Z a0 G1 G3 d1 d2 us ss kd1 kd2 w1 w2 hX hY n0 bk h_13 O_15 a a_18 k_19 e_20 n e_21 b t2 kb2 ds F_23 F_30 (by omega) nba P_26 (by omega) (by omega) []) (hw _ (List.mem_of_getElem? (i := 94) rfl)) (hw _ (List.mem_of_getElem? (i := 16) rfl)) (by decide) (by decide)) F_23.1 rfl (by rw [hml]; rfl) (lenOf pd__28_ILjava_2f_lang_2f_String_3b__29_V rfl) rfl (by show 2 * 0 + _ ≤ _; exact Nat.le_of_eq rfl) (hb hby d_jdk_68_m_22_30) (by decide) (by decide) ?_
  intro v_31 h_32 bk_33 O_34 z_35 Q_36
  obtain ⟨e_37, rfl, rfl, K_38, F_39⟩ := Q_36
  have lt_40 : @LT.lt Nat _ a_18 (Array.size h_32) := F_39.lt
  show Run p l e _ s m _ below meth c Z EL1 _ n0 bk h_32 1 130 (mkF m 33 #[.val (.ref a), .val (.ref b), .val (.int (Int32.ofNat (ds).length))] []) _
  refine k_pure (g' := (mkF m 34 #[.val (.ref a), .val (.ref b), .val (.int (Int32.ofNat (ds).length))] [(.ref a)])) (fun TT HH tt kk => XS.aloadN HH hx rfl (hb hby d_jdk_68_m_22_33) rfl rfl kk) ?_
  refine k_pure (g' := (mkF m 35 #[.val (.ref a), .val (.ref b), .val (.int (Int32.ofNat (ds).length))] [(.ref a), (.ref a)])) (fun TT HH tt kk => XS.dup HH hx rfl (hb hby d_jdk_68_m_22_34) rfl rfl kk) ?_
  have F_41 : Fld Z h_32 a "java/lang/AbstractStringBuilder" "count" "I" (.int (Int32.ofNat n)) := (F_23.2.2.2.1.keep K_38 (ninS (ne_ad (by omega)) nin0))
  refine k_getF hx (host := "") (Or.inl (hw _ (List.mem_of_getElem? (i := 57) rfl))) Via.refl F_41 rfl rfl (hb hby d_jdk_68_m_22_35) ?_
  show Run p l e _ s m _ below meth c Z EL1 _ n0 bk h_32 1 130 (mkF m 38 #[.val (.ref a), .val (.ref b), .val (.int (Int32.ofNat (ds).length))] [(.int (Int32.ofNat n)), (.ref a)]) _
  refine k_pure (g' := (mkF m 39 #[.val (.ref a), .val (.ref b), .val (.int (Int32.ofNat (ds).length))] [(.int (Int32.ofNat (ds).length)), (.int (Int32.ofNat n)), (.ref a)])) (fun TT HH tt kk => XS.iloadN HH hx rfl (hb hby d_jdk_68_m_22_38) rfl kk) ?_
  refine k_pure (g' := (mkF m 40 #[.val (.ref a), .val (.ref b), .val (.int (Int32.ofNat (ds).length))] [(.int ((Int32.ofNat n) + (Int32.ofNat (ds).length))), (.ref a)])) (fun TT HH tt kk => XS.iadd HH hx rfl (hb hby d_jdk_68_m_22_39) rfl kk) ?_
  rw [add_n]
  show Run p l e _ s m _ below meth c Z EL1 _ n0 bk h_32 1 130 (mkF m 40 #[.val (.ref a), .val (.ref b), .val (.int (Int32.ofNat (ds).length))] [(.int (Int32.ofNat (n + (ds).length))), (.ref a)]) _
  have F_42 : Exa Z h_32 a "java/lang/StringBuilder" := (F_23.1.keep K_38)
  refine k_putF hx (host := "") (Or.inl (hw _ (List.mem_of_getElem? (i := 57) rfl))) Via.refl F_41 F_42 (Or.inl (hw _ (List.mem_of_getElem? (i := 58) rfl))) (hw _ (List.mem_of_getElem? (i := 7) rfl)) (ty := .int) (by decide) rfl rfl (by omega) nba rfl rfl (hb hby d_jdk_68_m_22_40) ?_
  intro h_43 O_45 W_44
  have z_46 := W_44.size
  show Run p l e _ s m _ below meth c Z EL1 _ n0 bk h_43 1 130 (mkF m 43 #[.val (.ref a), .val (.ref b), .val (.int (Int32.ofNat (ds).length))] []) _
  refine k_pure (g' := (mkF m 44 #[.val (.ref a), .val (.ref b), .val (.int (Int32.ofNat (ds).length))] [(.ref a)])) (fun TT HH tt kk => XS.aloadN HH hx rfl (hb hby d_jdk_68_m_22_43) rfl rfl kk) ?_
  have F_47 : Exa Z h_43 a "java/lang/StringBuilder" := (F_42.wr W_44)
  have F_48 : Fld Z h_43 a "java/lang/AbstractStringBuilder" "coder" "B" (.int (0 : Int32)) := ((F_23.2.1.keep K_38 (ninS (ne_ad (by omega)) nin0)).other W_44 (Or.inr (RoadKit.slot_ne (C := "java/lang/StringBuilder") (Or.inl (hw _ (List.mem_of_getElem? (i := 27) rfl))) (Or.inl (hw _ (List.mem_of_getElem? (i := 58) rfl))) (by decide) (t := .byte) (t' := .int) (by decide) (by decide))))
  have F_49 : Fld Z h_43 a "java/lang/AbstractStringBuilder" "value" "[B" (.ref a_18) := ((F_23.2.2.1.keep K_38 (ninS (ne_ad (by omega)) nin0)).other W_44 (Or.inr (RoadKit.slot_ne (C := "java/lang/StringBuilder") (Or.inl (hw _ (List.mem_of_getElem? (i := 25) rfl))) (Or.inl (hw _ (List.mem_of_getElem? (i := 58) rfl))) (by decide) (t := (.array .byte)) (t' := .int) (by decide) (by decide))))
  have F_50 : Arv Z h_43 a_18 k_19 .byte (Int32.ofNat e_20) e_37 (.int 0) := (F_39.other W_44 (ne_ad (by omega)))
  exact k_retA hx hlk hret rfl rfl rfl (hb hby d_jdk_68_m_22_44) (by decide) (by decide) ⟨a_18, k_19, e_20, e_37, rfl, rfl, ((((Keep.refl _ _).trans K_22 (kkS (Or.inl (by simp)) kk0)).trans K_38 (kkS (Or.inr (by omega)) kk0)).wr W_44 (Or.inl (by simp))), ⟨F_47, F_48, F_49, (F_41.same W_44), F_50, (by omega), (by omega), (show @Ne Nat _ _ by omega)⟩, P_24, (by omega), P_26⟩
def Q_sbaps (Z : State) (G1 : Int32) (G3 : Value) (d1 d2 us ss : Addr) (kd1 kd2 : ClassId) (w1 w2 : List Value) (a : Addr) (t : Addr) (kb : ClassId) (N : Nat) (n : Nat) (vs : List Value) (b : Addr) (t2 : Addr) (kb2 : ClassId) (ds : List Int32) (h0 : Heap) (n0 : Nat) (bk : Addr → Prop) (v : Option Value) (h : Heap) (bk' : Addr → Prop) : Prop := ∃ (us : List Value), v = some (.ref a) ∧ bk = bk' ∧ Keep h0 h [a, t] ∧ (SbW Z h a t kb N (n + ds.length) us)
theorem d_jdk_67_m_7_0 : decode jdk_67_method_7_code 0 = .ok (.aload_n 0, 1) := by decide +kernel
theorem d_jdk_67_m_7_1 : decode jdk_67_method_7_code 1 = .ok (.aload_n 1, 1) := by decide +kernel
theorem d_jdk_67_m_7_2 : decode jdk_67_method_7_code 2 = .ok (.invokespecial 29, 3) := by decide +kernel
theorem pd__28_Ljava_2f_lang_2f_String_3b__29_Ljava_2f_lang_2f_AbstractStringBuilder_3b_ : parseMethodDescriptor "(Ljava/lang/String;)Ljava/lang/AbstractStringBuilder;" = some ⟨[(.object "java/lang/String")], some (.object "java/lang/AbstractStringBuilder")⟩ := by decide +kernel
theorem d_jdk_67_m_7_5 : decode jdk_67_method_7_code 5 = .ok (.pop, 1) := by decide +kernel
theorem d_jdk_67_m_7_6 : decode jdk_67_method_7_code 6 = .ok (.aload_n 0, 1) := by decide +kernel
theorem d_jdk_67_m_7_7 : decode jdk_67_method_7_code 7 = .ok (.areturn, 1) := by decide +kernel
abbrev RM_sbaps : Room := { frames := 4, cells := 0, slots := 0, locals := 61 }
theorem ef_sbaps (m : MethodId) (x0 : Addr) (x1 : Addr) : entryFrame m #[(.ref x0), (.ref x1)] 2 = mkF m 0 #[.val (.ref x0), .val (.ref x1)] [] := by first | (simp [entryFrame, mkF, argsToLocals, Value.category]; done) | rfl
set_option maxRecDepth 65536 in
set_option maxHeartbeats 40000000 in
theorem rm_sbaps (l : Launch) (Z : State) (a0 : Array Value) (G1 : Int32) (G3 : Value) (d1 d2 us ss : Addr) (kd1 kd2 : ClassId) (w1 w2 : List Value) (hX : Ctx Z a0 G1 G3) (hY : More Z d1 d2 us ss kd1 kd2 w1 w2) (n0 : Nat) (bk : Addr → Prop) (h0 : Heap) (O0 : Old Z n0 h0) (a : Addr) (t : Addr) (kb : ClassId) (N : Nat) (n : Nat) (vs : List Value) (b : Addr) (t2 : Addr) (kb2 : ClassId) (ds : List Int32) (pf_0 : SbW Z h0 a t kb N n vs) (pf_1 : StrL Z h0 b t2 kb2 ds) (hl : n + ds.length ≤ N) (n1 : @Ne Nat b a) (n2 : @Ne Nat b t) (n3 : @Ne Nat t2 a) (n4 : @Ne Nat t2 t) (nba : ¬ bk a) (nbt : ¬ bk t) (ga : n0 ≤ a) (gt : n0 ≤ t) (ws : List Jvm.Cond) : Met l Z EL1 n0 bk (⟨"java/lang/StringBuilder", "append", "(Ljava/lang/String;)Ljava/lang/StringBuilder;"⟩ : MethodName) jdk_67_method_7_code 2 (Option.some (FieldType.object "java/lang/StringBuilder")) RM_sbaps #[(.ref a), (.ref b)] h0 (Q_sbaps Z G1 G3 d1 d2 us ss kd1 kd2 w1 w2 a t kb N n vs b t2 kb2 ds h0 n0 bk) ws := by
  have hX' := hX
  obtain ⟨hw, hE, S1, P1, S3, P3⟩ := hX'
  have hY' := hY
  obtain ⟨s_d1, a_d1, s_d2, a_d2, s_us, s_ss⟩ := hY'
  have hSA := sa_of hw
  have z0 : n0 ≤ h0.size := by rw [← O0.1]; exact O0.2.1
  refine Met.of (by decide +kernel) O0 hE ?_
  intro p e s m below meth c hx hby hml hret hlk hnm
  refine k_cast (ef_sbaps m a b) ?_
  show Run p l e _ s m _ below meth c Z EL1 _ n0 bk h0 0 0 (mkF m 0 #[.val (.ref a), .val (.ref b)] []) _
  have ne_1 : @Ne Nat a t := pf_0.2.2.2.2.2.2.2
  have lt_2 : @LT.lt Nat _ a (Array.size h0) := pf_0.lt1
  have lt_3 : @LT.lt Nat _ t (Array.size h0) := pf_0.lt2
  have lt_4 : @LT.lt Nat _ b (Array.size h0) := pf_1.lt1
  have lt_5 : @LT.lt Nat _ t2 (Array.size h0) := pf_1.lt2
  refine k_pure (g' := (mkF m 1 #[.val (.ref a), .val (.ref b)] [(.ref a)])) (fun TT HH tt kk => XS.aloadN HH hx rfl (hb hby d_jdk_67_m_7_0) rfl rfl kk) ?_
  refine k_pure (g' := (mkF m 2 #[.val (.ref a), .val (.ref b)] [(.ref b), (.ref a)])) (fun TT HH tt kk => XS.aloadN HH hx rfl (hb hby d_jdk_67_m_7_1) rfl rfl kk) ?_
  refine k_callX hx (y := (⟨"java/lang/AbstractStringBuilder", "append", "(Ljava/lang/String;)Ljava/lang/AbstractStringBuilder;"⟩ : MethodName)) (K := "java/lang/StringBuilder") (hw _ (List.mem_of_getElem? (i := 39) rfl)) (same_of (by decide) (hw _ (List.mem_of_getElem? (i := 42) rfl)) (nf_of (y' := (⟨"java/lang/AbstractStringBuilder", "ensureCapacityInternal", "(I)V"⟩ : MethodName)) rfl (hw _ (List.mem_of_getElem? (i := 62) rfl)))) (hw _ (List.mem_of_getElem? (i := 40) rfl)) (hw _ (List.mem_of_getElem? (i := 41) rfl)) (by decide) (hw _ (List.mem_of_getElem? (i := 43) rfl)) (W := 0) (a := a) (argsL := [(.ref b)]) (rest := []) (Pays.of_met (rm_aps l Z a0 G1 G3 d1 d2 us ss kd1 kd2 w1 w2 hX hY n0 bk h0 O0 a t kb N n vs b t2 kb2 ds pf_0 pf_1 hl (by omega) (by omega) (by omega) (by omega) nba nbt (by omega) (by omega) []) (hw _ (List.mem_of_getElem? (i := 43) rfl)) (hw _ (List.mem_of_getElem? (i := 16) rfl)) (by decide) (by decide)) (Ins.self pf_0.1) rfl (by rw [hml]; rfl) (lenOf pd__28_Ljava_2f_lang_2f_String_3b__29_Ljava_2f_lang_2f_AbstractStringBuilder_3b_ rfl) rfl (by show 2 * 0 + _ ≤ _; exact Nat.le_of_eq rfl) (hb hby d_jdk_67_m_7_2) (by decide) (by decide) ?_
  intro v_6 h_7 bk_8 O_9 z_10 Q_11
  obtain ⟨e_12, rfl, rfl, K_13, F_14⟩ := Q_11
  have ne_15 : @Ne Nat a t := F_14.2.2.2.2.2.2.2
  have lt_16 : @LT.lt Nat _ a (Array.size h_7) := F_14.lt1
  have lt_17 : @LT.lt Nat _ t (Array.size h_7) := F_14.lt2
  show Run p l e _ s m _ below meth c Z EL1 _ n0 bk h_7 0 0 (mkF m 5 #[.val (.ref a), .val (.ref b)] [(.ref a)]) _
  refine k_pure (g' := (mkF m 6 #[.val (.ref a), .val (.ref b)] [])) (fun TT HH tt kk => XS.pop HH hx rfl (hb hby d_jdk_67_m_7_5) rfl rfl kk) ?_
  refine k_pure (g' := (mkF m 7 #[.val (.ref a), .val (.ref b)] [(.ref a)])) (fun TT HH tt kk => XS.aloadN HH hx rfl (hb hby d_jdk_67_m_7_6) rfl rfl kk) ?_
  exact k_retA hx hlk hret rfl rfl rfl (hb hby d_jdk_67_m_7_7) (by decide) (by decide) ⟨e_12, rfl, rfl, ((Keep.refl _ _).trans K_13 (kkS (Or.inl (by simp)) (kkS (Or.inl (by simp)) kk0))), F_14⟩
def Q_sbapg (Z : State) (G1 : Int32) (G3 : Value) (d1 d2 us ss : Addr) (kd1 kd2 : ClassId) (w1 w2 : List Value) (a : Addr) (t : Addr) (kb : ClassId) (N : Nat) (n : Nat) (vs : List Value) (b : Addr) (t2 : Addr) (kb2 : ClassId) (ds : List Int32) (h0 : Heap) (n0 : Nat) (bk : Addr → Prop) (v : Option Value) (h : Heap) (bk' : Addr → Prop) : Prop := ∃ (u : Addr), ∃ (ku : ClassId), ∃ (M : Nat), ∃ (us : List Value), v = some (.ref a) ∧ bk = bk' ∧ Keep h0 h [a] ∧ (SbW Z h a u ku M (n + ds.length) us) ∧ (n + ds.length ≤ M ∧ 2 * N + 2 ≤ M ∧ M ≤ 130 ∧ (M = n + ds.length ∨ M = 2 * N + 2)) ∧ (@LE.le Nat _ (Array.size h0) u) ∧ (¬ bk' u)
abbrev RM_sbapg : Room := { frames := 5, cells := 1, slots := 130, locals := 76 }
theorem ef_sbapg (m : MethodId) (x0 : Addr) (x1 : Addr) : entryFrame m #[(.ref x0), (.ref x1)] 2 = mkF m 0 #[.val (.ref x0), .val (.ref x1)] [] := by first | (simp [entryFrame, mkF, argsToLocals, Value.category]; done) | rfl
set_option maxRecDepth 65536 in
set_option maxHeartbeats 40000000 in
theorem rm_sbapg (l : Launch) (Z : State) (a0 : Array Value) (G1 : Int32) (G3 : Value) (d1 d2 us ss : Addr) (kd1 kd2 : ClassId) (w1 w2 : List Value) (hX : Ctx Z a0 G1 G3) (hY : More Z d1 d2 us ss kd1 kd2 w1 w2) (n0 : Nat) (bk : Addr → Prop) (h0 : Heap) (O0 : Old Z n0 h0) (a : Addr) (t : Addr) (kb : ClassId) (N : Nat) (n : Nat) (vs : List Value) (b : Addr) (t2 : Addr) (kb2 : ClassId) (ds : List Int32) (pf_0 : SbW Z h0 a t kb N n vs) (pf_1 : StrL Z h0 b t2 kb2 ds) (hl : N < n + ds.length) (h2 : n + ds.length + N + 2 ≤ 130) (hbl : ∀ y, bk y → @LT.lt Nat _ y (Array.size h0)) (n1 : @Ne Nat b a) (n2 : @Ne Nat b t) (n3 : @Ne Nat t2 a) (n4 : @Ne Nat t2 t) (nba : ¬ bk a) (nbt : ¬ bk t) (ga : n0 ≤ a) (gt : n0 ≤ t) (ws : List Jvm.Cond) : Met l Z EL1 n0 bk (⟨"java/lang/StringBuilder", "append", "(Ljava/lang/String;)Ljava/lang/StringBuilder;"⟩ : MethodName) jdk_67_method_7_code 2 (Option.some (FieldType.object "java/lang/StringBuilder")) RM_sbapg #[(.ref a), (.ref b)] h0 (Q_sbapg Z G1 G3 d1 d2 us ss kd1 kd2 w1 w2 a t kb N n vs b t2 kb2 ds h0 n0 bk) ws := by
  have hX' := hX
  obtain ⟨hw, hE, S1, P1, S3, P3⟩ := hX'
  have hY' := hY
  obtain ⟨s_d1, a_d1, s_d2, a_d2, s_us, s_ss⟩ := hY'
  have hSA := sa_of hw
  have z0 : n0 ≤ h0.size := by rw [← O0.1]; exact O0.2.1
  refine Met.of (by decide +kernel) O0 hE ?_
  intro p e s m below meth c hx hby hml hret hlk hnm
  refine k_cast (ef_sbapg m a b) ?_
  show Run p l e _ s m _ below meth c Z EL1 _ n0 bk h0 0 0 (mkF m 0 #[.val (.ref a), .val (.ref b)] []) _
  have ne_1 : @Ne Nat a t := pf_0.2.2.2.2.2.2.2
  have lt_2 : @LT.lt Nat _ a (Array.size h0) := pf_0.lt1
  have lt_3 : @LT.lt Nat _ t (Array.size h0) := pf_0.lt2
  have lt_4 : @LT.lt Nat _ b (Array.size h0) := pf_1.lt1
  have lt_5 : @LT.lt Nat _ t2 (Array.size h0) := pf_1.lt2
  refine k_pure (g' := (mkF m 1 #[.val (.ref a), .val (.ref b)] [(.ref a)])) (fun TT HH tt kk => XS.aloadN HH hx rfl (hb hby d_jdk_67_m_7_0) rfl rfl kk) ?_
  refine k_pure (g' := (mkF m 2 #[.val (.ref a), .val (.ref b)] [(.ref b), (.ref a)])) (fun TT HH tt kk => XS.aloadN HH hx rfl (hb hby d_jdk_67_m_7_1) rfl rfl kk) ?_
  refine k_callX hx (y := (⟨"java/lang/AbstractStringBuilder", "append", "(Ljava/lang/String;)Ljava/lang/AbstractStringBuilder;"⟩ : MethodName)) (K := "java/lang/StringBuilder") (hw _ (List.mem_of_getElem? (i := 39) rfl)) (same_of (by decide) (hw _ (List.mem_of_getElem? (i := 42) rfl)) (nf_of (y' := (⟨"java/lang/AbstractStringBuilder", "ensureCapacityInternal", "(I)V"⟩ : MethodName)) rfl (hw _ (List.mem_of_getElem? (i := 62) rfl)))) (hw _ (List.mem_of_getElem? (i := 40) rfl)) (hw _ (List.mem_of_getElem? (i := 41) rfl)) (by decide) (hw _ (List.mem_of_getElem? (i := 43) rfl)) (W := 0) (a := a) (argsL := [(.ref b)]) (rest := []) (Pays.of_met (rm_apg l Z a0 G1 G3 d1 d2 us ss kd1 kd2 w1 w2 hX hY n0 bk h0 O0 a t kb N n vs b t2 kb2 ds pf_0 pf_1 hl h2 hbl (by omega) (by omega) (by omega) (by omega) nba nbt (by omega) (by omega) []) (hw _ (List.mem_of_getElem? (i := 43) rfl)) (hw _ (List.mem_of_getElem? (i := 16) rfl)) (by decide) (by decide)) (Ins.self pf_0.1) rfl (by rw [hml]; rfl) (lenOf pd__28_Ljava_2f_lang_2f_String_3b__29_Ljava_2f_lang_2f_AbstractStringBuilder_3b_ rfl) rfl (by show 2 * 0 + _ ≤ _; exact Nat.le_of_eq rfl) (hb hby d_jdk_67_m_7_2) (by decide) (by decide) ?_
  intro v_6 h_7 bk_8 O_9 z_10 Q_11
  obtain ⟨a_12, k_13, e_14, e_15, rfl, rfl, K_16, F_17, P_18, P_19, P_20⟩ := Q_11
  have ne_21 : @Ne Nat a a_12 := F_17.2.2.2.2.2.2.2
  have lt_22 : @LT.lt Nat _ a (Array.size h_7) := F_17.lt1
  have lt_23 : @LT.lt Nat _ a_12 (Array.size h_7) := F_17.lt2
  show Run p l e _ s m _ below meth c Z EL1 _ n0 bk h_7 1 130 (mkF m 5 #[.val (.ref a), .val (.ref b)] [(.ref a)]) _
  refine k_pure (g' := (mkF m 6 #[.val (.ref a), .val (.ref b)] [])) (fun TT HH tt kk => XS.pop HH hx rfl (hb hby d_jdk_67_m_7_5) rfl rfl kk) ?_
  refine k_pure (g' := (mkF m 7 #[.val (.ref a), .val (.ref b)] [(.ref a)])) (fun TT HH tt kk => XS.aloadN HH hx rfl (hb hby d_jdk_67_m_7_6) rfl rfl kk) ?_
  exact k_retA hx hlk hret rfl rfl rfl (hb hby d_jdk_67_m_7_7) (by decide) (by decide) ⟨a_12, k_13, e_14, e_15, rfl, rfl, ((Keep.refl _ _).trans K_16 (kkS (Or.inl (by simp)) kk0)), F_17, P_18, (by omega), P_20⟩
def Q_gvl (Z : State) (G1 : Int32) (G3 : Value) (d1 d2 us ss : Addr) (kd1 kd2 : ClassId) (w1 w2 : List Value) (a : Addr) (t : Addr) (kb : ClassId) (N : Nat) (n : Nat) (vs : List Value) (h0 : Heap) (n0 : Nat) (bk : Addr → Prop) (v : Option Value) (h : Heap) (bk' : Addr → Prop) : Prop := v = some (.ref t) ∧ h0 = h ∧ bk = bk'
theorem d_jdk_68_m_64_0 : decode jdk_68_method_64_code 0 = .ok (.aload_n 0, 1) := by decide +kernel
theorem d_jdk_68_m_64_1 : decode jdk_68_method_64_code 1 = .ok (.getfield 15, 3) := by decide +kernel
theorem d_jdk_68_m_64_4 : decode jdk_68_method_64_code 4 = .ok (.areturn, 1) := by decide +kernel
abbrev RM_gvl : Room := { frames := 0, cells := 0, slots := 0, locals := 0 }
theorem ef_gvl (m : MethodId) (x0 : Addr) : entryFrame m #[(.ref x0)] 1 = mkF m 0 #[.val (.ref x0)] [] := by first | (simp [entryFrame, mkF, argsToLocals, Value.category]; done) | rfl
set_option maxRecDepth 65536 in
set_option maxHeartbeats 40000000 in
theorem rm_gvl (l : Launch) (Z : State) (a0 : Array Value) (G1 : Int32) (G3 : Value) (d1 d2 us ss : Addr) (kd1 kd2 : ClassId) (w1 w2 : List Value) (hX : Ctx Z a0 G1 G3) (hY : More Z d1 d2 us ss kd1 kd2 w1 w2) (n0 : Nat) (bk : Addr → Prop) (h0 : Heap) (O0 : Old Z n0 h0) (a : Addr) (t : Addr) (kb : ClassId) (N : Nat) (n : Nat) (vs : List Value) (pf_0 : SbW Z h0 a t kb N n vs) (ws : List Jvm.Cond) : Met l Z EL1 n0 bk (⟨"java/lang/AbstractStringBuilder", "getValue", "()[B"⟩ : MethodName) jdk_68_method_64_code 1 (Option.some (FieldType.array FieldType.byte)) RM_gvl #[(.ref a)] h0 (Q_gvl Z G1 G3 d1 d2 us ss kd1 kd2 w1 w2 a t kb N n vs h0 n0 bk) ws := by
  have hX' := hX
  obtain ⟨hw, hE, S1, P1, S3, P3⟩ := hX'
  have hY' := hY
  obtain ⟨s_d1, a_d1, s_d2, a_d2, s_us, s_ss⟩ := hY'
  have hSA := sa_of hw
  have z0 : n0 ≤ h0.size := by rw [← O0.1]; exact O0.2.1
  refine Met.of (by decide +kernel) O0 hE ?_
  intro p e s m below meth c hx hby hml hret hlk hnm
  refine k_cast (ef_gvl m a) ?_
  show Run p l e _ s m _ below meth c Z EL1 _ n0 bk h0 0 0 (mkF m 0 #[.val (.ref a)] []) _
  have ne_1 : @Ne Nat a t := pf_0.2.2.2.2.2.2.2
  have lt_2 : @LT.lt Nat _ a (Array.size h0) := pf_0.lt1
  have lt_3 : @LT.lt Nat _ t (Array.size h0) := pf_0.lt2
  refine k_pure (g' := (mkF m 1 #[.val (.ref a)] [(.ref a)])) (fun TT HH tt kk => XS.aloadN HH hx rfl (hb hby d_jdk_68_m_64_0) rfl rfl kk) ?_
  refine k_getF hx (host := "") (Or.inl (hw _ (List.mem_of_getElem? (i := 24) rfl))) Via.refl pf_0.2.2.1 rfl rfl (hb hby d_jdk_68_m_64_1) ?_
  show Run p l e _ s m _ below meth c Z EL1 _ n0 bk h0 0 0 (mkF m 4 #[.val (.ref a)] [(.ref t)]) _
  exact k_retA hx hlk hret rfl rfl rfl (hb hby d_jdk_68_m_64_4) (by decide) (by decide) ⟨rfl, rfl, rfl⟩
def Q_asl (Z : State) (G1 : Int32) (G3 : Value) (d1 d2 us ss : Addr) (kd1 kd2 : ClassId) (w1 w2 : List Value) (a : Addr) (t : Addr) (kb : ClassId) (N : Nat) (n : Nat) (vs : List Value) (h0 : Heap) (n0 : Nat) (bk : Addr → Prop) (v : Option Value) (h : Heap) (bk' : Addr → Prop) : Prop := v = some (.int (Int32.ofNat n)) ∧ h0 = h ∧ bk = bk'
theorem d_jdk_68_m_6_0 : decode jdk_68_method_6_code 0 = .ok (.aload_n 0, 1) := by decide +kernel
theorem d_jdk_68_m_6_1 : decode jdk_68_method_6_code 1 = .ok (.getfield 79, 3) := by decide +kernel
theorem d_jdk_68_m_6_4 : decode jdk_68_method_6_code 4 = .ok (.ireturn, 1) := by decide +kernel
abbrev RM_asl : Room := { frames := 0, cells := 0, slots := 0, locals := 0 }
theorem ef_asl (m : MethodId) (x0 : Addr) : entryFrame m #[(.ref x0)] 1 = mkF m 0 #[.val (.ref x0)] [] := by first | (simp [entryFrame, mkF, argsToLocals, Value.category]; done) | rfl
set_option maxRecDepth 65536 in
set_option maxHeartbeats 40000000 in
theorem rm_asl (l : Launch) (Z : State) (a0 : Array Value) (G1 : Int32) (G3 : Value) (d1 d2 us ss : Addr) (kd1 kd2 : ClassId) (w1 w2 : List Value) (hX : Ctx Z a0 G1 G3) (hY : More Z d1 d2 us ss kd1 kd2 w1 w2) (n0 : Nat) (bk : Addr → Prop) (h0 : Heap) (O0 : Old Z n0 h0) (a : Addr) (t : Addr) (kb : ClassId) (N : Nat) (n : Nat) (vs : List Value) (pf_0 : SbW Z h0 a t kb N n vs) (ws : List Jvm.Cond) : Met l Z EL1 n0 bk (⟨"java/lang/AbstractStringBuilder", "length", "()I"⟩ : MethodName) jdk_68_method_6_code 1 (Option.some FieldType.int) RM_asl #[(.ref a)] h0 (Q_asl Z G1 G3 d1 d2 us ss kd1 kd2 w1 w2 a t kb N n vs h0 n0 bk) ws := by
  have hX' := hX
  obtain ⟨hw, hE, S1, P1, S3, P3⟩ := hX'
  have hY' := hY
  obtain ⟨s_d1, a_d1, s_d2, a_d2, s_us, s_ss⟩ := hY'
  have hSA := sa_of hw
  have z0 : n0 ≤ h0.size := by rw [← O0.1]; exact O0.2.1
  refine Met.of (by decide +kernel) O0 hE ?_
  intro p e s m below meth c hx hby hml hret hlk hnm
  refine k_cast (ef_asl m a) ?_
  show Run p l e _ s m _ below meth c Z EL1 _ n0 bk h0 0 0 (mkF m 0 #[.val (.ref a)] []) _
  have ne_1 : @Ne Nat a t := pf_0.2.2.2.2.2.2.2
  have lt_2 : @LT.lt Nat _ a (Array.size h0) := pf_0.lt1
  have lt_3 : @LT.lt Nat _ t (Array.size h0) := pf_0.lt2
  refine k_pure (g' := (mkF m 1 #[.val (.ref a)] [(.ref a)])) (fun TT HH tt kk => XS.aloadN HH hx rfl (hb hby d_jdk_68_m_6_0) rfl rfl kk) ?_
  refine k_getF hx (host := "") (Or.inl (hw _ (List.mem_of_getElem? (i := 57) rfl))) Via.refl pf_0.2.2.2.1 rfl rfl (hb hby d_jdk_68_m_6_1) ?_
  show Run p l e _ s m _ below meth c Z EL1 _ n0 bk h0 0 0 (mkF m 4 #[.val (.ref a)] [(.int (Int32.ofNat n))]) _
  exact k_retI hx hlk hret (hb hby d_jdk_68_m_6_4) (by decide) (by decide) ⟨rfl, rfl, rfl⟩
def Q_sbl (Z : State) (G1 : Int32) (G3 : Value) (d1 d2 us ss : Addr) (kd1 kd2 : ClassId) (w1 w2 : List Value) (a : Addr) (t : Addr) (kb : ClassId) (N : Nat) (n : Nat) (vs : List Value) (h0 : Heap) (n0 : Nat) (bk : Addr → Prop) (v : Option Value) (h : Heap) (bk' : Addr → Prop) : Prop := v = some (.int (Int32.ofNat n)) ∧ h0 = h ∧ bk = bk'
theorem d_jdk_67_m_93_0 : decode jdk_67_method_93_code 0 = .ok (.aload_n 0, 1) := by decide +kernel
theorem d_jdk_67_m_93_1 : decode jdk_67_method_93_code 1 = .ok (.invokespecial 343, 3) := by decide +kernel
theorem d_jdk_67_m_93_4 : decode jdk_67_method_93_code 4 = .ok (.ireturn, 1) := by decide +kernel
abbrev RM_sbl : Room := { frames := 1, cells := 0, slots := 0, locals := 12 }
theorem ef_sbl (m : MethodId) (x0 : Addr) : entryFrame m #[(.ref x0)] 1 = mkF m 0 #[.val (.ref x0)] [] := by first | (simp [entryFrame, mkF, argsToLocals, Value.category]; done) | rfl
set_option maxRecDepth 65536 in
set_option maxHeartbeats 40000000 in
theorem rm_sbl (l : Launch) (Z : State) (a0 : Array Value) (G1 : Int32) (G3 : Value) (d1 d2 us ss : Addr) (kd1 kd2 : ClassId) (w1 w2 : List Value) (hX : Ctx Z a0 G1 G3) (hY : More Z d1 d2 us ss kd1 kd2 w1 w2) (n0 : Nat) (bk : Addr → Prop) (h0 : Heap) (O0 : Old Z n0 h0) (a : Addr) (t : Addr) (kb : ClassId) (N : Nat) (n : Nat) (vs : List Value) (pf_0 : SbW Z h0 a t kb N n vs) (ws : List Jvm.Cond) : Met l Z EL1 n0 bk (⟨"java/lang/StringBuilder", "length", "()I"⟩ : MethodName) jdk_67_method_93_code 1 (Option.some FieldType.int) RM_sbl #[(.ref a)] h0 (Q_sbl Z G1 G3 d1 d2 us ss kd1 kd2 w1 w2 a t kb N n vs h0 n0 bk) ws := by
  have hX' := hX
  obtain ⟨hw, hE, S1, P1, S3, P3⟩ := hX'
  have hY' := hY
  obtain ⟨s_d1, a_d1, s_d2, a_d2, s_us, s_ss⟩ := hY'
  have hSA := sa_of hw
  have z0 : n0 ≤ h0.size := by rw [← O0.1]; exact O0.2.1
  refine Met.of (by decide +kernel) O0 hE ?_
  intro p e s m below meth c hx hby hml hret hlk hnm
  refine k_cast (ef_sbl m a) ?_
  show Run p l e _ s m _ below meth c Z EL1 _ n0 bk h0 0 0 (mkF m 0 #[.val (.ref a)] []) _
  have ne_1 : @Ne Nat a t := pf_0.2.2.2.2.2.2.2
  have lt_2 : @LT.lt Nat _ a (Array.size h0) := pf_0.lt1
  have lt_3 : @LT.lt Nat _ t (Array.size h0) := pf_0.lt2
  refine k_pure (g' := (mkF m 1 #[.val (.ref a)] [(.ref a)])) (fun TT HH tt kk => XS.aloadN HH hx rfl (hb hby d_jdk_67_m_93_0) rfl rfl kk) ?_
  refine k_callX hx (y := (⟨"java/lang/AbstractStringBuilder", "length", "()I"⟩ : MethodName)) (K := "java/lang/StringBuilder") (hw _ (List.mem_of_getElem? (i := 155) rfl)) (same_of (by decide) (hw _ (List.mem_of_getElem? (i := 150) rfl)) (nf_of (y' := (⟨"java/lang/AbstractStringBuilder", "ensureCapacityInternal", "(I)V"⟩ : MethodName)) rfl (hw _ (List.mem_of_getElem? (i := 62) rfl)))) (hw _ (List.mem_of_getElem? (i := 151) rfl)) (hw _ (List.mem_of_getElem? (i := 41) rfl)) (by decide) (hw _ (List.mem_of_getElem? (i := 156) rfl)) (W := 0) (a := a) (argsL := []) (rest := []) (Pays.of_met (rm_asl l Z a0 G1 G3 d1 d2 us ss kd1 kd2 w1 w2 hX hY n0 bk h0 O0 a t kb N n vs pf_0 []) (hw _ (List.mem_of_getElem? (i := 156) rfl)) (hw _ (List.mem_of_getElem? (i := 16) rfl)) (by decide) (by decide)) (Ins.self pf_0.1) rfl (by rw [hml]; rfl) (lenOf pd__28__29_I rfl) rfl (by show 2 * 0 + _ ≤ _; exact Nat.le_of_eq rfl) (hb hby d_jdk_67_m_93_1) (by decide) (by decide) ?_
  intro v_4 h_5 bk_6 O_7 z_8 Q_9
  obtain ⟨rfl, rfl, rfl⟩ := Q_9
  show Run p l e _ s m _ below meth c Z EL1 _ n0 bk h0 0 0 (mkF m 4 #[.val (.ref a)] [(.int (Int32.ofNat n))]) _
  exact k_retI hx hlk hret (hb hby d_jdk_67_m_93_4) (by decide) (by decide) ⟨rfl, rfl, rfl⟩
def Q_ail (Z : State) (G1 : Int32) (G3 : Value) (d1 d2 us ss : Addr) (kd1 kd2 : ClassId) (w1 w2 : List Value) (a : Addr) (t : Addr) (kb : ClassId) (N : Nat) (n : Nat) (vs : List Value) (h0 : Heap) (n0 : Nat) (bk : Addr → Prop) (v : Option Value) (h : Heap) (bk' : Addr → Prop) : Prop := v = some (.int (1 : Int32)) ∧ h0 = h ∧ bk = bk'
theorem d_jdk_68_m_68_0 : decode jdk_68_method_68_code 0 = .ok (.getstatic 18, 3) := by decide +kernel
theorem d_jdk_68_m_68_3 : decode jdk_68_method_68_code 3 = .ok (.ifCond .eq 14, 3) := by decide +kernel
theorem d_jdk_68_m_68_6 : decode jdk_68_method_68_code 6 = .ok (.aload_n 0, 1) := by decide +kernel
theorem d_jdk_68_m_68_7 : decode jdk_68_method_68_code 7 = .ok (.getfield 22, 3) := by decide +kernel
theorem d_jdk_68_m_68_10 : decode jdk_68_method_68_code 10 = .ok (.ifCond .ne 7, 3) := by decide +kernel
theorem d_jdk_68_m_68_13 : decode jdk_68_method_68_code 13 = .ok (.iconst 1, 1) := by decide +kernel
theorem d_jdk_68_m_68_14 : decode jdk_68_method_68_code 14 = .ok (.goto 4, 3) := by decide +kernel
theorem d_jdk_68_m_68_18 : decode jdk_68_method_68_code 18 = .ok (.ireturn, 1) := by decide +kernel
abbrev RM_ail : Room := { frames := 0, cells := 0, slots := 0, locals := 0 }
theorem ef_ail (m : MethodId) (x0 : Addr) : entryFrame m #[(.ref x0)] 1 = mkF m 0 #[.val (.ref x0)] [] := by first | (simp [entryFrame, mkF, argsToLocals, Value.category]; done) | rfl
set_option maxRecDepth 65536 in
set_option maxHeartbeats 40000000 in
theorem rm_ail (l : Launch) (Z : State) (a0 : Array Value) (G1 : Int32) (G3 : Value) (d1 d2 us ss : Addr) (kd1 kd2 : ClassId) (w1 w2 : List Value) (hX : Ctx Z a0 G1 G3) (hY : More Z d1 d2 us ss kd1 kd2 w1 w2) (n0 : Nat) (bk : Addr → Prop) (h0 : Heap) (O0 : Old Z n0 h0) (a : Addr) (t : Addr) (kb : ClassId) (N : Nat) (n : Nat) (vs : List Value) (pf_0 : SbW Z h0 a t kb N n vs) (ws : List Jvm.Cond) : Met l Z EL1 n0 bk (⟨"java/lang/AbstractStringBuilder", "isLatin1", "()Z"⟩ : MethodName) jdk_68_method_68_code 1 (Option.some FieldType.boolean) RM_ail #[(.ref a)] h0 (Q_ail Z G1 G3 d1 d2 us ss kd1 kd2 w1 w2 a t kb N n vs h0 n0 bk) ws := by
  have hX' := hX
  obtain ⟨hw, hE, S1, P1, S3, P3⟩ := hX'
  have hY' := hY
  obtain ⟨s_d1, a_d1, s_d2, a_d2, s_us, s_ss⟩ := hY'
  have hSA := sa_of hw
  have z0 : n0 ≤ h0.size := by rw [← O0.1]; exact O0.2.1
  refine Met.of (by decide +kernel) O0 hE ?_
  intro p e s m below meth c hx hby hml hret hlk hnm
  refine k_cast (ef_ail m a) ?_
  show Run p l e _ s m _ below meth c Z EL1 _ n0 bk h0 0 0 (mkF m 0 #[.val (.ref a)] []) _
  have ne_1 : @Ne Nat a t := pf_0.2.2.2.2.2.2.2
  have lt_2 : @LT.lt Nat _ a (Array.size h0) := pf_0.lt1
  have lt_3 : @LT.lt Nat _ t (Array.size h0) := pf_0.lt2
  refine k_getS hx (host := "") (Or.inl (hw _ (List.mem_of_getElem? (i := 21) rfl))) Via.refl (S1.ext O0.2) rfl (hb hby d_jdk_68_m_68_0) ?_
  show Run p l e _ s m _ below meth c Z EL1 _ n0 bk h0 0 0 (mkF m 3 #[.val (.ref a)] [(.int G1)]) _
  refine k_pure (g' := (mkF m 6 #[.val (.ref a)] [])) (fun TT HH tt kk => XS.ifNo HH hx rfl (hb hby d_jdk_68_m_68_3) rfl ((if0 _ _).trans (feq P1).1) kk) ?_
  refine k_pure (g' := (mkF m 7 #[.val (.ref a)] [(.ref a)])) (fun TT HH tt kk => XS.aloadN HH hx rfl (hb hby d_jdk_68_m_68_6) rfl rfl kk) ?_
  refine k_getF hx (host := "") (Or.inl (hw _ (List.mem_of_getElem? (i := 26) rfl))) Via.refl pf_0.2.1 rfl rfl (hb hby d_jdk_68_m_68_7) ?_
  show Run p l e _ s m _ below meth c Z EL1 _ n0 bk h0 0 0 (mkF m 10 #[.val (.ref a)] [(.int (0 : Int32))]) _
  refine k_pure (g' := (mkF m 13 #[.val (.ref a)] [])) (fun TT HH tt kk => XS.ifNo HH hx rfl (hb hby d_jdk_68_m_68_10) rfl ((if0 _ _).trans (teq (by decide : ((0 : Int32) = (0 : Int32)))).2) kk) ?_
  refine k_pure (g' := (mkF m 14 #[.val (.ref a)] [(.int (1 : Int32))])) (fun TT HH tt kk => XS.iconst HH hx rfl (hb hby d_jdk_68_m_68_13) kk) ?_
  refine k_pure (g' := (mkF m 18 #[.val (.ref a)] [(.int (1 : Int32))])) (fun TT HH tt kk => XS.goto HH hx rfl (pc0 := 14) (pc' := 18) rfl (hb hby d_jdk_68_m_68_14) (by decide) (by decide) kk) ?_
  exact k_retN hx hlk hret (by simp) (hb hby d_jdk_68_m_68_18) (by decide) (by decide) ⟨rfl, rfl, rfl⟩
def Q_ckl (Z : State) (G1 : Int32) (G3 : Value) (d1 d2 us ss : Addr) (kd1 kd2 : ClassId) (w1 w2 : List Value) (n : Int32) (h0 : Heap) (n0 : Nat) (bk : Addr → Prop) (v : Option Value) (h : Heap) (bk' : Addr → Prop) : Prop := v = none ∧ h0 = h ∧ bk = bk'
theorem d_jdk_65_m_131_0 : decode jdk_65_method_131_code 0 = .ok (.iload_n 1, 1) := by decide +kernel
theorem d_jdk_65_m_131_1 : decode jdk_65_method_131_code 1 = .ok (.iload_n 0, 1) := by decide +kernel
theorem d_jdk_65_m_131_2 : decode jdk_65_method_131_code 2 = .ok (.if_icmp .ge 35, 3) := by decide +kernel
theorem d_jdk_65_m_131_37 : decode jdk_65_method_131_code 37 = .ok (.return_, 1) := by decide +kernel
abbrev RM_ckl : Room := { frames := 0, cells := 0, slots := 0, locals := 0 }
theorem ef_ckl (m : MethodId) (x0 : Int32) (x1 : Int32) : entryFrame m #[(.int x0), (.int x1)] 2 = mkF m 0 #[.val (.int x0), .val (.int x1)] [] := by first | (simp [entryFrame, mkF, argsToLocals, Value.category]; done) | rfl
set_option maxRecDepth 65536 in
set_option maxHeartbeats 40000000 in
theorem rm_ckl (l : Launch) (Z : State) (a0 : Array Value) (G1 : Int32) (G3 : Value) (d1 d2 us ss : Addr) (kd1 kd2 : ClassId) (w1 w2 : List Value) (hX : Ctx Z a0 G1 G3) (hY : More Z d1 d2 us ss kd1 kd2 w1 w2) (n0 : Nat) (bk : Addr → Prop) (h0 : Heap) (O0 : Old Z n0 h0) (n : Int32) (h : ¬ n < (0 : Int32)) (ws : List Jvm.Cond) : Met l Z EL1 n0 bk (⟨"java/util/Arrays", "checkLength", "(II)V"⟩ : MethodName) jdk_65_method_131_code 2 (Option.none : Option FieldType) RM_ckl #[(.int (0 : Int32)), (.int n)] h0 (Q_ckl Z G1 G3 d1 d2 us ss kd1 kd2 w1 w2 n h0 n0 bk) ws := by
  have hX' := hX
  obtain ⟨hw, hE, S1, P1, S3, P3⟩ := hX'
  have hY' := hY
  obtain ⟨s_d1, a_d1, s_d2, a_d2, s_us, s_ss⟩ := hY'
  have hSA := sa_of hw
  have z0 : n0 ≤ h0.size := by rw [← O0.1]; exact O0.2.1
  refine Met.of (by decide +kernel) O0 hE ?_
  intro p e s m below meth c hx hby hml hret hlk hnm
  refine k_cast (ef_ckl m (0 : Int32) n) ?_
  show Run p l e _ s m _ below meth c Z EL1 _ n0 bk h0 0 0 (mkF m 0 #[.val (.int (0 : Int32)), .val (.int n)] []) _
  refine k_pure (g' := (mkF m 1 #[.val (.int (0 : Int32)), .val (.int n)] [(.int n)])) (fun TT HH tt kk => XS.iloadN HH hx rfl (hb hby d_jdk_65_m_131_0) rfl kk) ?_
  refine k_pure (g' := (mkF m 2 #[.val (.int (0 : Int32)), .val (.int n)] [(.int (0 : Int32)), (.int n)])) (fun TT HH tt kk => XS.iloadN HH hx rfl (hb hby d_jdk_65_m_131_1) rfl kk) ?_
  refine k_pure (g' := (mkF m 37 #[.val (.int (0 : Int32)), .val (.int n)] [])) (fun TT HH tt kk => XS.icmpYes HH hx rfl (pc0 := 2) (pc' := 37) rfl (hb hby d_jdk_65_m_131_2) rfl (flt h).2.1 (by decide) (by decide) kk) ?_
  exact k_ret0 hx hlk hret (hb hby d_jdk_65_m_131_37) (by decide) (by decide) ⟨rfl, rfl, rfl⟩
def Q_crb (Z : State) (G1 : Int32) (G3 : Value) (d1 d2 us ss : Addr) (kd1 kd2 : ClassId) (w1 w2 : List Value) (t : Addr) (kb : ClassId) (N : Nat) (vs : List Value) (n : Nat) (h0 : Heap) (n0 : Nat) (bk : Addr → Prop) (v : Option Value) (h : Heap) (bk' : Addr → Prop) : Prop := ∃ (u : Addr), ∃ (ku : ClassId), ∃ (us : List Value), v = some (.ref u) ∧ bk = bk' ∧ Keep h0 h [] ∧ (Arv Z h u ku .byte (Int32.ofNat n) us (.int 0)) ∧ (@LE.le Nat _ (Array.size h0) u)
theorem d_jdk_65_m_133_0 : decode jdk_65_method_133_code 0 = .ok (.iload_n 1, 1) := by decide +kernel
theorem d_jdk_65_m_133_1 : decode jdk_65_method_133_code 1 = .ok (.iload_n 2, 1) := by decide +kernel
theorem d_jdk_65_m_133_2 : decode jdk_65_method_133_code 2 = .ok (.invokestatic 343, 3) := by decide +kernel
theorem pd__28_II_29_V : parseMethodDescriptor "(II)V" = some ⟨[.int, .int], none⟩ := by decide +kernel
theorem d_jdk_65_m_133_5 : decode jdk_65_method_133_code 5 = .ok (.iload_n 2, 1) := by decide +kernel
theorem d_jdk_65_m_133_6 : decode jdk_65_method_133_code 6 = .ok (.iload_n 1, 1) := by decide +kernel
theorem d_jdk_65_m_133_7 : decode jdk_65_method_133_code 7 = .ok (.isub, 1) := by decide +kernel
theorem d_jdk_65_m_133_8 : decode jdk_65_method_133_code 8 = .ok (.istore_n 3, 1) := by decide +kernel
theorem d_jdk_65_m_133_9 : decode jdk_65_method_133_code 9 = .ok (.iload_n 3, 1) := by decide +kernel
theorem d_jdk_65_m_133_10 : decode jdk_65_method_133_code 10 = .ok (.newarray .byte, 2) := by decide +kernel
theorem d_jdk_65_m_133_12 : decode jdk_65_method_133_code 12 = .ok (.astore 4, 2) := by decide +kernel
theorem d_jdk_65_m_133_14 : decode jdk_65_method_133_code 14 = .ok (.aload_n 0, 1) := by decide +kernel
theorem d_jdk_65_m_133_15 : decode jdk_65_method_133_code 15 = .ok (.iload_n 1, 1) := by decide +kernel
theorem d_jdk_65_m_133_16 : decode jdk_65_method_133_code 16 = .ok (.aload 4, 2) := by decide +kernel
theorem d_jdk_65_m_133_18 : decode jdk_65_method_133_code 18 = .ok (.iconst 0, 1) := by decide +kernel
theorem d_jdk_65_m_133_19 : decode jdk_65_method_133_code 19 = .ok (.aload_n 0, 1) := by decide +kernel
theorem d_jdk_65_m_133_20 : decode jdk_65_method_133_code 20 = .ok (.arraylength, 1) := by decide +kernel
theorem d_jdk_65_m_133_21 : decode jdk_65_method_133_code 21 = .ok (.iload_n 1, 1) := by decide +kernel
theorem d_jdk_65_m_133_22 : decode jdk_65_method_133_code 22 = .ok (.isub, 1) := by decide +kernel
theorem d_jdk_65_m_133_23 : decode jdk_65_method_133_code 23 = .ok (.iload_n 3, 1) := by decide +kernel
theorem d_jdk_65_m_133_24 : decode jdk_65_method_133_code 24 = .ok (.invokestatic 304, 3) := by decide +kernel
theorem d_jdk_65_m_133_27 : decode jdk_65_method_133_code 27 = .ok (.invokestatic 150, 3) := by decide +kernel
theorem d_jdk_65_m_133_30 : decode jdk_65_method_133_code 30 = .ok (.aload 4, 2) := by decide +kernel
theorem d_jdk_65_m_133_32 : decode jdk_65_method_133_code 32 = .ok (.areturn, 1) := by decide +kernel
abbrev RM_crb : Room := { frames := 1, cells := 1, slots := 80, locals := 18 }
theorem ef_crb (m : MethodId) (x0 : Addr) (x1 : Int32) (x2 : Int32) : entryFrame m #[(.ref x0), (.int x1), (.int x2)] 5 = mkF m 0 #[.val (.ref x0), .val (.int x1), .val (.int x2), .unset, .unset] [] := by first | (simp [entryFrame, mkF, argsToLocals, Value.category]; done) | rfl
set_option maxRecDepth 65536 in
set_option maxHeartbeats 40000000 in
theorem rm_crb (l : Launch) (Z : State) (a0 : Array Value) (G1 : Int32) (G3 : Value) (d1 d2 us ss : Addr) (kd1 kd2 : ClassId) (w1 w2 : List Value) (hX : Ctx Z a0 G1 G3) (hY : More Z d1 d2 us ss kd1 kd2 w1 w2) (n0 : Nat) (bk : Addr → Prop) (h0 : Heap) (O0 : Old Z n0 h0) (t : Addr) (kb : ClassId) (N : Nat) (vs : List Value) (n : Nat) (pf_0 : Arv Z h0 t kb .byte (Int32.ofNat N) vs (.int 0)) (l1 : n < N) (l2 : N ≤ 1000) (l3 : n ≤ 80) (hbl : ∀ y, bk y → @LT.lt Nat _ y (Array.size h0)) (ws : List Jvm.Cond) : Met l Z EL1 n0 bk (⟨"java/util/Arrays", "copyOfRangeByte", "([BII)[B"⟩ : MethodName) jdk_65_method_133_code 5 (Option.some (FieldType.array FieldType.byte)) RM_crb #[(.ref t), (.int (0 : Int32)), (.int (Int32.ofNat n))] h0 (Q_crb Z G1 G3 d1 d2 us ss kd1 kd2 w1 w2 t kb N vs n h0 n0 bk) ws := by
  have hX' := hX
  obtain ⟨hw, hE, S1, P1, S3, P3⟩ := hX'
  have hY' := hY
  obtain ⟨s_d1, a_d1, s_d2, a_d2, s_us, s_ss⟩ := hY'
  have hSA := sa_of hw
  have z0 : n0 ≤ h0.size := by rw [← O0.1]; exact O0.2.1
  refine Met.of (by decide +kernel) O0 hE ?_
  intro p e s m below meth c hx hby hml hret hlk hnm
  refine k_cast (ef_crb m t (0 : Int32) (Int32.ofNat n)) ?_
  show Run p l e _ s m _ below meth c Z EL1 _ n0 bk h0 0 0 (mkF m 0 #[.val (.ref t), .val (.int (0 : Int32)), .val (.int (Int32.ofNat n)), .unset, .unset] []) _
  have lt_1 : @LT.lt Nat _ t (Array.size h0) := pf_0.lt
  refine k_pure (g' := (mkF m 1 #[.val (.ref t), .val (.int (0 : Int32)), .val (.int (Int32.ofNat n)), .unset, .unset] [(.int (0 : Int32))])) (fun TT HH tt kk => XS.iloadN HH hx rfl (hb hby d_jdk_65_m_133_0) rfl kk) ?_
  refine k_pure (g' := (mkF m 2 #[.val (.ref t), .val (.int (0 : Int32)), .val (.int (Int32.ofNat n)), .unset, .unset] [(.int (Int32.ofNat n)), (.int (0 : Int32))])) (fun TT HH tt kk => XS.iloadN HH hx rfl (hb hby d_jdk_65_m_133_1) rfl kk) ?_
  refine k_callS hx (y := (⟨"java/util/Arrays", "checkLength", "(II)V"⟩ : MethodName)) (hw _ (List.mem_of_getElem? (i := 164) rfl)) (hw _ (List.mem_of_getElem? (i := 165) rfl)) (hw _ (List.mem_of_getElem? (i := 81) rfl)) (hw _ (List.mem_of_getElem? (i := 166) rfl)) (by decide) (W := 0) (argsL := [(.int (0 : Int32)), (.int (Int32.ofNat n))]) (rest := []) (Pays.of_met (rm_ckl l Z a0 G1 G3 d1 d2 us ss kd1 kd2 w1 w2 hX hY n0 bk h0 O0 (Int32.ofNat n) (not_lt_nat (n := 0) (Nat.zero_le _) (by omega)) []) (hw _ (List.mem_of_getElem? (i := 166) rfl)) (hw _ (List.mem_of_getElem? (i := 81) rfl)) (by decide) (by decide)) rfl (by rw [hml]; rfl) (lenOf pd__28_II_29_V rfl) rfl (by show 2 * 0 + _ ≤ _; exact Nat.le_of_eq rfl) (hb hby d_jdk_65_m_133_2) (by decide) (by decide) ?_
  intro v_2 h_3 bk_4 O_5 z_6 Q_7
  obtain ⟨rfl, rfl, rfl⟩ := Q_7
  show Run p l e _ s m _ below meth c Z EL1 _ n0 bk h0 0 0 (mkF m 5 #[.val (.ref t), .val (.int (0 : Int32)), .val (.int (Int32.ofNat n)), .unset, .unset] []) _
  refine k_pure (g' := (mkF m 6 #[.val (.ref t), .val (.int (0 : Int32)), .val (.int (Int32.ofNat n)), .unset, .unset] [(.int (Int32.ofNat n))])) (fun TT HH tt kk => XS.iloadN HH hx rfl (hb hby d_jdk_65_m_133_5) rfl kk) ?_
  refine k_pure (g' := (mkF m 7 #[.val (.ref t), .val (.int (0 : Int32)), .val (.int (Int32.ofNat n)), .unset, .unset] [(.int (0 : Int32)), (.int (Int32.ofNat n))])) (fun TT HH tt kk => XS.iloadN HH hx rfl (hb hby d_jdk_65_m_133_6) rfl kk) ?_
  refine k_pure (g' := (mkF m 8 #[.val (.ref t), .val (.int (0 : Int32)), .val (.int (Int32.ofNat n)), .unset, .unset] [(.int ((Int32.ofNat n) - (0 : Int32)))])) (fun TT HH tt kk => XS.isub HH hx rfl (hb hby d_jdk_65_m_133_7) rfl kk) ?_
  rw [sub0]
  show Run p l e _ s m _ below meth c Z EL1 _ n0 bk h0 0 0 (mkF m 8 #[.val (.ref t), .val (.int (0 : Int32)), .val (.int (Int32.ofNat n)), .unset, .unset] [(.int (Int32.ofNat n))]) _
  refine k_pure (g' := (mkF m 9 #[.val (.ref t), .val (.int (0 : Int32)), .val (.int (Int32.ofNat n)), .val (.int (Int32.ofNat n)), .unset] [])) (fun TT HH tt kk => XS.istoreN HH hx rfl (hb hby d_jdk_65_m_133_8) rfl (l' := #[.val (.ref t), .val (.int (0 : Int32)), .val (.int (Int32.ofNat n)), .val (.int (Int32.ofNat n)), .unset]) rfl kk) ?_
  refine k_pure (g' := (mkF m 10 #[.val (.ref t), .val (.int (0 : Int32)), .val (.int (Int32.ofNat n)), .val (.int (Int32.ofNat n)), .unset] [(.int (Int32.ofNat n))])) (fun TT HH tt kk => XS.iloadN HH hx rfl (hb hby d_jdk_65_m_133_9) rfl kk) ?_
  refine k_newP hx (hw _ (List.mem_of_getElem? (i := 23) rfl)) rfl (hb hby d_jdk_65_m_133_10) rfl (not_lt_nat (n := 0) (Nat.zero_le _) (by omega)) (cap := 80) (by rw [clampN (by omega)]; exact l3) (by decide) (by decide) (by decide) "[B" (by decide +kernel) ?_
  intro h_9 a_8 k_10 g_11 O_12 E_13 A_14 X_15
  have z_16 := E_13.1
  have lt_17 : @LT.lt Nat _ a_8 (Array.size h_9) := A_14.lt
  have nb_18 : ¬ bk a_8 := fun q => Nat.not_le_of_lt (hbl _ q) (show @LE.le Nat _ (Array.size h0) a_8 by omega)
  show Run p l e _ s m _ below meth c Z EL1 _ n0 bk h_9 1 80 (mkF m 12 #[.val (.ref t), .val (.int (0 : Int32)), .val (.int (Int32.ofNat n)), .val (.int (Int32.ofNat n)), .unset] [(.ref a_8)]) _
  refine k_pure (g' := (mkF m 14 #[.val (.ref t), .val (.int (0 : Int32)), .val (.int (Int32.ofNat n)), .val (.int (Int32.ofNat n)), .val (.ref a_8)] [])) (fun TT HH tt kk => XS.astore HH hx rfl (hb hby d_jdk_65_m_133_12) rfl rfl (l' := #[.val (.ref t), .val (.int (0 : Int32)), .val (.int (Int32.ofNat n)), .val (.int (Int32.ofNat n)), .val (.ref a_8)]) rfl kk) ?_
  refine k_pure (g' := (mkF m 15 #[.val (.ref t), .val (.int (0 : Int32)), .val (.int (Int32.ofNat n)), .val (.int (Int32.ofNat n)), .val (.ref a_8)] [(.ref t)])) (fun TT HH tt kk => XS.aloadN HH hx rfl (hb hby d_jdk_65_m_133_14) rfl rfl kk) ?_
  refine k_pure (g' := (mkF m 16 #[.val (.ref t), .val (.int (0 : Int32)), .val (.int (Int32.ofNat n)), .val (.int (Int32.ofNat n)), .val (.ref a_8)] [(.int (0 : Int32)), (.ref t)])) (fun TT HH tt kk => XS.iloadN HH hx rfl (hb hby d_jdk_65_m_133_15) rfl kk) ?_
  refine k_pure (g' := (mkF m 18 #[.val (.ref t), .val (.int (0 : Int32)), .val (.int (Int32.ofNat n)), .val (.int (Int32.ofNat n)), .val (.ref a_8)] [(.ref a_8), (.int (0 : Int32)), (.ref t)])) (fun TT HH tt kk => XS.aload HH hx rfl (hb hby d_jdk_65_m_133_16) rfl rfl kk) ?_
  refine k_pure (g' := (mkF m 19 #[.val (.ref t), .val (.int (0 : Int32)), .val (.int (Int32.ofNat n)), .val (.int (Int32.ofNat n)), .val (.ref a_8)] [(.int (0 : Int32)), (.ref a_8), (.int (0 : Int32)), (.ref t)])) (fun TT HH tt kk => XS.iconst HH hx rfl (hb hby d_jdk_65_m_133_18) kk) ?_
  refine k_pure (g' := (mkF m 20 #[.val (.ref t), .val (.int (0 : Int32)), .val (.int (Int32.ofNat n)), .val (.int (Int32.ofNat n)), .val (.ref a_8)] [(.ref t), (.int (0 : Int32)), (.ref a_8), (.int (0 : Int32)), (.ref t)])) (fun TT HH tt kk => XS.aloadN HH hx rfl (hb hby d_jdk_65_m_133_19) rfl rfl kk) ?_
  have F_19 : Arv Z h_9 t kb .byte (Int32.ofNat N) vs (.int 0) := (pf_0.ext E_13)
  refine k_alen hx F_19 rfl rfl (hb hby d_jdk_65_m_133_20) ?_
  show Run p l e _ s m _ below meth c Z EL1 _ n0 bk h_9 1 80 (mkF m 21 #[.val (.ref t), .val (.int (0 : Int32)), .val (.int (Int32.ofNat n)), .val (.int (Int32.ofNat n)), .val (.ref a_8)] [(.int (Int32.ofNat N)), (.int (0 : Int32)), (.ref a_8), (.int (0 : Int32)), (.ref t)]) _
  refine k_pure (g' := (mkF m 22 #[.val (.ref t), .val (.int (0 : Int32)), .val (.int (Int32.ofNat n)), .val (.int (Int32.ofNat n)), .val (.ref a_8)] [(.int (0 : Int32)), (.int (Int32.ofNat N)), (.int (0 : Int32)), (.ref a_8), (.int (0 : Int32)), (.ref t)])) (fun TT HH tt kk => XS.iloadN HH hx rfl (hb hby d_jdk_65_m_133_21) rfl kk) ?_
  refine k_pure (g' := (mkF m 23 #[.val (.ref t), .val (.int (0 : Int32)), .val (.int (Int32.ofNat n)), .val (.int (Int32.ofNat n)), .val (.ref a_8)] [(.int ((Int32.ofNat N) - (0 : Int32))), (.int (0 : Int32)), (.ref a_8), (.int (0 : Int32)), (.ref t)])) (fun TT HH tt kk => XS.isub HH hx rfl (hb hby d_jdk_65_m_133_22) rfl kk) ?_
  rw [sub0]
  show Run p l e _ s m _ below meth c Z EL1 _ n0 bk h_9 1 80 (mkF m 23 #[.val (.ref t), .val (.int (0 : Int32)), .val (.int (Int32.ofNat n)), .val (.int (Int32.ofNat n)), .val (.ref a_8)] [(.int (Int32.ofNat N)), (.int (0 : Int32)), (.ref a_8), (.int (0 : Int32)), (.ref t)]) _
  refine k_pure (g' := (mkF m 24 #[.val (.ref t), .val (.int (0 : Int32)), .val (.int (Int32.ofNat n)), .val (.int (Int32.ofNat n)), .val (.ref a_8)] [(.int (Int32.ofNat n)), (.int (Int32.ofNat N)), (.int (0 : Int32)), (.ref a_8), (.int (0 : Int32)), (.ref t)])) (fun TT HH tt kk => XS.iloadN HH hx rfl (hb hby d_jdk_65_m_133_23) rfl kk) ?_
  refine k_callS hx (y := (⟨"java/lang/Math", "min", "(II)I"⟩ : MethodName)) (hw _ (List.mem_of_getElem? (i := 83) rfl)) (hw _ (List.mem_of_getElem? (i := 84) rfl)) (hw _ (List.mem_of_getElem? (i := 75) rfl)) (hw _ (List.mem_of_getElem? (i := 85) rfl)) (by decide) (W := 4) (argsL := [(.int (Int32.ofNat N)), (.int (Int32.ofNat n))]) (rest := [(.int (0 : Int32)), (.ref a_8), (.int (0 : Int32)), (.ref t)]) (Pays.of_met (rm_min1 l Z a0 G1 G3 d1 d2 us ss kd1 kd2 w1 w2 hX hY n0 bk h_9 O_12 (Int32.ofNat N) (Int32.ofNat n) (lt_nat l1 (by omega)) []) (hw _ (List.mem_of_getElem? (i := 85) rfl)) (hw _ (List.mem_of_getElem? (i := 75) rfl)) (by decide) (by decide)) rfl (by rw [hml]; rfl) (lenOf pd__28_II_29_I rfl) rfl (by show 2 * 0 + _ ≤ _; exact Nat.le_of_eq rfl) (hb hby d_jdk_65_m_133_24) (by decide) (by decide) ?_
  intro v_20 h_21 bk_22 O_23 z_24 Q_25
  obtain ⟨rfl, rfl, rfl⟩ := Q_25
  show Run p l e _ s m _ below meth c Z EL1 _ n0 bk h_9 1 80 (mkF m 27 #[.val (.ref t), .val (.int (0 : Int32)), .val (.int (Int32.ofNat n)), .val (.int (Int32.ofNat n)), .val (.ref a_8)] [(.int (Int32.ofNat n)), (.int (0 : Int32)), (.ref a_8), (.int (0 : Int32)), (.ref t)]) _
  have B_26 : Arv Z h_9 a_8 k_10 .byte (Int32.ofNat n) (([] : List Value) ++ List.replicate n (Value.int 0)) (.int (0 : Int32)) := Arv.pad A_14 (pad_rep [] (.int 0) n)
  refine k_cpA hx (hw _ (List.mem_of_getElem? (i := 86) rfl)) (hw _ (List.mem_of_getElem? (i := 89) rfl)) (hw _ (List.mem_of_getElem? (i := 87) rfl)) (hw _ (List.mem_of_getElem? (i := 88) rfl)) F_19 B_26 (Or.inl ⟨rfl, rfl⟩) (by decide) (by decide) (not_lt_nat (n := 0) (Nat.zero_le _) (by omega)) (by first | (rw [clampN (by omega)]; show 0 + _ ≤ _; rw [clampN (by omega)]; omega) | (rw [clampN (by omega)]; show 0 + _ ≤ _; omega)) (by first | (rw [clampN (by omega)]; show 0 + _ ≤ _; rw [clampN (by omega)]; omega) | (rw [clampN (by omega)]; show 0 + _ ≤ _; omega)) rfl (by rw [clampN (by omega)]; first | (simp; done) | (simp; exact Nat.le_of_eq (Nat.zero_add _))) (by omega) nb_18 rfl (by rw [hml]; rfl) rfl (hb hby d_jdk_65_m_133_27) (by decide) (W := 0) (by show 2 * 0 + _ ≤ _; exact Nat.le_of_eq rfl) (by decide) ?_
  intro h_27 O_28 K_29 V_30
  have z_31 := K_29.1
  obtain ⟨vs_32, V_33⟩ : ∃ ws : List Value, Arv Z h_27 a_8 k_10 .byte (Int32.ofNat n) ws (.int (0 : Int32)) := ⟨_, V_30⟩
  show Run p l e _ s m _ below meth c Z EL1 _ n0 bk h_27 1 80 (mkF m 30 #[.val (.ref t), .val (.int (0 : Int32)), .val (.int (Int32.ofNat n)), .val (.int (Int32.ofNat n)), .val (.ref a_8)] []) _
  refine k_pure (g' := (mkF m 32 #[.val (.ref t), .val (.int (0 : Int32)), .val (.int (Int32.ofNat n)), .val (.int (Int32.ofNat n)), .val (.ref a_8)] [(.ref a_8)])) (fun TT HH tt kk => XS.aload HH hx rfl (hb hby d_jdk_65_m_133_30) rfl rfl kk) ?_
  exact k_retA hx hlk hret rfl rfl rfl (hb hby d_jdk_65_m_133_32) (by decide) (by decide) ⟨_, _, _, rfl, rfl, (((Keep.refl _ _).ext E_13).trans K_29 (kkS (Or.inr (by omega)) kk0)), V_33, (by omega)⟩
def Q_cor (Z : State) (G1 : Int32) (G3 : Value) (d1 d2 us ss : Addr) (kd1 kd2 : ClassId) (w1 w2 : List Value) (t : Addr) (kb : ClassId) (N : Nat) (vs : List Value) (n : Nat) (h0 : Heap) (n0 : Nat) (bk : Addr → Prop) (v : Option Value) (h : Heap) (bk' : Addr → Prop) : Prop := ∃ (u : Addr), ∃ (ku : ClassId), ∃ (us : List Value), v = some (.ref u) ∧ bk = bk' ∧ Keep h0 h [] ∧ (Arv Z h u ku .byte (Int32.ofNat n) us (.int 0)) ∧ (@LE.le Nat _ (Array.size h0) u)
theorem d_jdk_65_m_132_0 : decode jdk_65_method_132_code 0 = .ok (.iload_n 1, 1) := by decide +kernel
theorem d_jdk_65_m_132_1 : decode jdk_65_method_132_code 1 = .ok (.ifCond .ne 9, 3) := by decide +kernel
theorem d_jdk_65_m_132_4 : decode jdk_65_method_132_code 4 = .ok (.iload_n 2, 1) := by decide +kernel
theorem d_jdk_65_m_132_5 : decode jdk_65_method_132_code 5 = .ok (.aload_n 0, 1) := by decide +kernel
theorem d_jdk_65_m_132_6 : decode jdk_65_method_132_code 6 = .ok (.arraylength, 1) := by decide +kernel
theorem d_jdk_65_m_132_7 : decode jdk_65_method_132_code 7 = .ok (.if_icmp .eq 10, 3) := by decide +kernel
theorem d_jdk_65_m_132_10 : decode jdk_65_method_132_code 10 = .ok (.aload_n 0, 1) := by decide +kernel
theorem d_jdk_65_m_132_11 : decode jdk_65_method_132_code 11 = .ok (.iload_n 1, 1) := by decide +kernel
theorem d_jdk_65_m_132_12 : decode jdk_65_method_132_code 12 = .ok (.iload_n 2, 1) := by decide +kernel
theorem d_jdk_65_m_132_13 : decode jdk_65_method_132_code 13 = .ok (.invokestatic 339, 3) := by decide +kernel
theorem pd__28__5b_BII_29__5b_B : parseMethodDescriptor "([BII)[B" = some ⟨[(.array .byte), .int, .int], some (.array .byte)⟩ := by decide +kernel
theorem d_jdk_65_m_132_16 : decode jdk_65_method_132_code 16 = .ok (.areturn, 1) := by decide +kernel
abbrev RM_cor : Room := { frames := 2, cells := 1, slots := 80, locals := 34 }
theorem ef_cor (m : MethodId) (x0 : Addr) (x1 : Int32) (x2 : Int32) : entryFrame m #[(.ref x0), (.int x1), (.int x2)] 3 = mkF m 0 #[.val (.ref x0), .val (.int x1), .val (.int x2)] [] := by first | (simp [entryFrame, mkF, argsToLocals, Value.category]; done) | rfl
set_option maxRecDepth 65536 in
set_option maxHeartbeats 40000000 in
theorem rm_cor (l : Launch) (Z : State) (a0 : Array Value) (G1 : Int32) (G3 : Value) (d1 d2 us ss : Addr) (kd1 kd2 : ClassId) (w1 w2 : List Value) (hX : Ctx Z a0 G1 G3) (hY : More Z d1 d2 us ss kd1 kd2 w1 w2) (n0 : Nat) (bk : Addr → Prop) (h0 : Heap) (O0 : Old Z n0 h0) (t : Addr) (kb : ClassId) (N : Nat) (vs : List Value) (n : Nat) (pf_0 : Arv Z h0 t kb .byte (Int32.ofNat N) vs (.int 0)) (l1 : n < N) (l2 : N ≤ 1000) (l3 : n ≤ 80) (hbl : ∀ y, bk y → @LT.lt Nat _ y (Array.size h0)) (ws : List Jvm.Cond) : Met l Z EL1 n0 bk (⟨"java/util/Arrays", "copyOfRange", "([BII)[B"⟩ : MethodName) jdk_65_method_132_code 3 (Option.some (FieldType.array FieldType.byte)) RM_cor #[(.ref t), (.int (0 : Int32)), (.int (Int32.ofNat n))] h0 (Q_cor Z G1 G3 d1 d2 us ss kd1 kd2 w1 w2 t kb N vs n h0 n0 bk) ws := by
  have hX' := hX
  obtain ⟨hw, hE, S1, P1, S3, P3⟩ := hX'
  have hY' := hY
  obtain ⟨s_d1, a_d1, s_d2, a_d2, s_us, s_ss⟩ := hY'
  have hSA := sa_of hw
  have z0 : n0 ≤ h0.size := by rw [← O0.1]; exact O0.2.1
  refine Met.of (by decide +kernel) O0 hE ?_
  intro p e s m below meth c hx hby hml hret hlk hnm
  refine k_cast (ef_cor m t (0 : Int32) (Int32.ofNat n)) ?_
  show Run p l e _ s m _ below meth c Z EL1 _ n0 bk h0 0 0 (mkF m 0 #[.val (.ref t), .val (.int (0 : Int32)), .val (.int (Int32.ofNat n))] []) _
  have lt_1 : @LT.lt Nat _ t (Array.size h0) := pf_0.lt
  refine k_pure (g' := (mkF m 1 #[.val (.ref t), .val (.int (0 : Int32)), .val (.int (Int32.ofNat n))] [(.int (0 : Int32))])) (fun TT HH tt kk => XS.iloadN HH hx rfl (hb hby d_jdk_65_m_132_0) rfl kk) ?_
  refine k_pure (g' := (mkF m 4 #[.val (.ref t), .val (.int (0 : Int32)), .val (.int (Int32.ofNat n))] [])) (fun TT HH tt kk => XS.ifNo HH hx rfl (hb hby d_jdk_65_m_132_1) rfl ((if0 _ _).trans (teq (by decide : ((0 : Int32) = (0 : Int32)))).2) kk) ?_
  refine k_pure (g' := (mkF m 5 #[.val (.ref t), .val (.int (0 : Int32)), .val (.int (Int32.ofNat n))] [(.int (Int32.ofNat n))])) (fun TT HH tt kk => XS.iloadN HH hx rfl (hb hby d_jdk_65_m_132_4) rfl kk) ?_
  refine k_pure (g' := (mkF m 6 #[.val (.ref t), .val (.int (0 : Int32)), .val (.int (Int32.ofNat n))] [(.ref t), (.int (Int32.ofNat n))])) (fun TT HH tt kk => XS.aloadN HH hx rfl (hb hby d_jdk_65_m_132_5) rfl rfl kk) ?_
  refine k_alen hx pf_0 rfl rfl (hb hby d_jdk_65_m_132_6) ?_
  show Run p l e _ s m _ below meth c Z EL1 _ n0 bk h0 0 0 (mkF m 7 #[.val (.ref t), .val (.int (0 : Int32)), .val (.int (Int32.ofNat n))] [(.int (Int32.ofNat N)), (.int (Int32.ofNat n))]) _
  refine k_pure (g' := (mkF m 10 #[.val (.ref t), .val (.int (0 : Int32)), .val (.int (Int32.ofNat n))] [])) (fun TT HH tt kk => XS.icmpNo HH hx rfl (hb hby d_jdk_65_m_132_7) rfl (feq (ne_nat l1 (by omega))).1 kk) ?_
  refine k_pure (g' := (mkF m 11 #[.val (.ref t), .val (.int (0 : Int32)), .val (.int (Int32.ofNat n))] [(.ref t)])) (fun TT HH tt kk => XS.aloadN HH hx rfl (hb hby d_jdk_65_m_132_10) rfl rfl kk) ?_
  refine k_pure (g' := (mkF m 12 #[.val (.ref t), .val (.int (0 : Int32)), .val (.int (Int32.ofNat n))] [(.int (0 : Int32)), (.ref t)])) (fun TT HH tt kk => XS.iloadN HH hx rfl (hb hby d_jdk_65_m_132_11) rfl kk) ?_
  refine k_pure (g' := (mkF m 13 #[.val (.ref t), .val (.int (0 : Int32)), .val (.int (Int32.ofNat n))] [(.int (Int32.ofNat n)), (.int (0 : Int32)), (.ref t)])) (fun TT HH tt kk => XS.iloadN HH hx rfl (hb hby d_jdk_65_m_132_12) rfl kk) ?_
  refine k_callS hx (y := (⟨"java/util/Arrays", "copyOfRangeByte", "([BII)[B"⟩ : MethodName)) (hw _ (List.mem_of_getElem? (i := 161) rfl)) (hw _ (List.mem_of_getElem? (i := 162) rfl)) (hw _ (List.mem_of_getElem? (i := 81) rfl)) (hw _ (List.mem_of_getElem? (i := 163) rfl)) (by decide) (W := 0) (argsL := [(.ref t), (.int (0 : Int32)), (.int (Int32.ofNat n))]) (rest := []) (Pays.of_met (rm_crb l Z a0 G1 G3 d1 d2 us ss kd1 kd2 w1 w2 hX hY n0 bk h0 O0 t kb N vs n pf_0 l1 l2 l3 hbl []) (hw _ (List.mem_of_getElem? (i := 163) rfl)) (hw _ (List.mem_of_getElem? (i := 81) rfl)) (by decide) (by decide)) rfl (by rw [hml]; rfl) (lenOf pd__28__5b_BII_29__5b_B rfl) rfl (by show 2 * 0 + _ ≤ _; exact Nat.le_of_eq rfl) (hb hby d_jdk_65_m_132_13) (by decide) (by decide) ?_
  intro v_2 h_3 bk_4 O_5 z_6 Q_7
  obtain ⟨a_8, k_9, e_10, rfl, rfl, K_11, F_12, P_13⟩ := Q_7
  have lt_14 : @LT.lt Nat _ a_8 (Array.size h_3) := F_12.lt
  show Run p l e _ s m _ below meth c Z EL1 _ n0 bk h_3 1 80 (mkF m 16 #[.val (.ref t), .val (.int (0 : Int32)), .val (.int (Int32.ofNat n))] [(.ref a_8)]) _
  exact k_retA hx hlk hret rfl rfl rfl (hb hby d_jdk_65_m_132_16) (by decide) (by decide) ⟨_, _, _, rfl, rfl, ((Keep.refl _ _).trans K_11 kk0), F_12, (by omega)⟩
def Q_stb (Z : State) (G1 : Int32) (G3 : Value) (d1 d2 us ss : Addr) (kd1 kd2 : ClassId) (w1 w2 : List Value) (x : Addr) (a : Addr) (t : Addr) (kb : ClassId) (N : Nat) (n : Nat) (vs : List Value) (h0 : Heap) (n0 : Nat) (bk : Addr → Prop) (v : Option Value) (h : Heap) (bk' : Addr → Prop) : Prop := v = none ∧ bk = bk' ∧ Keep h0 h [x] ∧ (Exa Z h x "java/lang/String")
theorem d_jdk_42_m_150_0 : decode jdk_42_method_150_code 0 = .ok (.aload_n 0, 1) := by decide +kernel
theorem d_jdk_42_m_150_1 : decode jdk_42_method_150_code 1 = .ok (.invokespecial 1, 3) := by decide +kernel
theorem d_jdk_42_m_150_4 : decode jdk_42_method_150_code 4 = .ok (.aload_n 1, 1) := by decide +kernel
theorem d_jdk_42_m_150_5 : decode jdk_42_method_150_code 5 = .ok (.invokevirtual 552, 3) := by decide +kernel
theorem pd__28__29__5b_B : parseMethodDescriptor "()[B" = some ⟨[], some (.array .byte)⟩ := by decide +kernel
theorem d_jdk_42_m_150_8 : decode jdk_42_method_150_code 8 = .ok (.astore_n 3, 1) := by decide +kernel
theorem d_jdk_42_m_150_9 : decode jdk_42_method_150_code 9 = .ok (.aload_n 1, 1) := by decide +kernel
theorem d_jdk_42_m_150_10 : decode jdk_42_method_150_code 10 = .ok (.invokevirtual 549, 3) := by decide +kernel
theorem d_jdk_42_m_150_13 : decode jdk_42_method_150_code 13 = .ok (.istore 4, 2) := by decide +kernel
theorem d_jdk_42_m_150_15 : decode jdk_42_method_150_code 15 = .ok (.aload_n 1, 1) := by decide +kernel
theorem d_jdk_42_m_150_16 : decode jdk_42_method_150_code 16 = .ok (.invokevirtual 1047, 3) := by decide +kernel
theorem pd__28__29_Z : parseMethodDescriptor "()Z" = some ⟨[], some .boolean⟩ := by decide +kernel
theorem d_jdk_42_m_150_19 : decode jdk_42_method_150_code 19 = .ok (.ifCond .eq 22, 3) := by decide +kernel
theorem d_jdk_42_m_150_22 : decode jdk_42_method_150_code 22 = .ok (.aload_n 0, 1) := by decide +kernel
theorem d_jdk_42_m_150_23 : decode jdk_42_method_150_code 23 = .ok (.iconst 0, 1) := by decide +kernel
theorem d_jdk_42_m_150_24 : decode jdk_42_method_150_code 24 = .ok (.putfield 15, 3) := by decide +kernel
theorem d_jdk_42_m_150_27 : decode jdk_42_method_150_code 27 = .ok (.aload_n 0, 1) := by decide +kernel
theorem d_jdk_42_m_150_28 : decode jdk_42_method_150_code 28 = .ok (.aload_n 3, 1) := by decide +kernel
theorem d_jdk_42_m_150_29 : decode jdk_42_method_150_code 29 = .ok (.iconst 0, 1) := by decide +kernel
theorem d_jdk_42_m_150_30 : decode jdk_42_method_150_code 30 = .ok (.iload 4, 2) := by decide +kernel
theorem d_jdk_42_m_150_32 : decode jdk_42_method_150_code 32 = .ok (.invokestatic 54, 3) := by decide +kernel
theorem d_jdk_42_m_150_35 : decode jdk_42_method_150_code 35 = .ok (.putfield 9, 3) := by decide +kernel
theorem d_jdk_42_m_150_38 : decode jdk_42_method_150_code 38 = .ok (.goto 59, 3) := by decide +kernel
theorem d_jdk_42_m_150_97 : decode jdk_42_method_150_code 97 = .ok (.return_, 1) := by decide +kernel
abbrev RM_stb : Room := { frames := 3, cells := 1, slots := 80, locals := 49 }
theorem ef_stb (m : MethodId) (x0 : Addr) (x1 : Addr) : entryFrame m #[(.ref x0), (.ref x1), .null] 5 = mkF m 0 #[.val (.ref x0), .val (.ref x1), .val .null, .unset, .unset] [] := by first | (simp [entryFrame, mkF, argsToLocals, Value.category]; done) | rfl
set_option maxRecDepth 65536 in
set_option maxHeartbeats 40000000 in
theorem rm_stb (l : Launch) (Z : State) (a0 : Array Value) (G1 : Int32) (G3 : Value) (d1 d2 us ss : Addr) (kd1 kd2 : ClassId) (w1 w2 : List Value) (hX : Ctx Z a0 G1 G3) (hY : More Z d1 d2 us ss kd1 kd2 w1 w2) (n0 : Nat) (bk : Addr → Prop) (h0 : Heap) (O0 : Old Z n0 h0) (x : Addr) (a : Addr) (t : Addr) (kb : ClassId) (N : Nat) (n : Nat) (vs : List Value) (pf_0 : Exa Z h0 x "java/lang/String") (pf_1 : Fld Z h0 x "java/lang/String" "value" "[B" .null) (pf_2 : Fld Z h0 x "java/lang/String" "coder" "B" (.int (0 : Int32))) (pf_3 : SbW Z h0 a t kb N n vs) (l1 : n < N) (l3 : n ≤ 80) (hbl : ∀ y, bk y → @LT.lt Nat _ y (Array.size h0)) (nbx : ¬ bk x) (gx : n0 ≤ x) (m1 : @Ne Nat x a) (m2 : @Ne Nat x t) (ws : List Jvm.Cond) : Met l Z EL1 n0 bk (⟨"java/lang/String", "<init>", "(Ljava/lang/AbstractStringBuilder;Ljava/lang/Void;)V"⟩ : MethodName) jdk_42_method_150_code 5 (Option.none : Option FieldType) RM_stb #[(.ref x), (.ref a), .null] h0 (Q_stb Z G1 G3 d1 d2 us ss kd1 kd2 w1 w2 x a t kb N n vs h0 n0 bk) ws := by
  have hX' := hX
  obtain ⟨hw, hE, S1, P1, S3, P3⟩ := hX'
  have hY' := hY
  obtain ⟨s_d1, a_d1, s_d2, a_d2, s_us, s_ss⟩ := hY'
  have hSA := sa_of hw
  have z0 : n0 ≤ h0.size := by rw [← O0.1]; exact O0.2.1
  refine Met.of (by decide +kernel) O0 hE ?_
  intro p e s m below meth c hx hby hml hret hlk hnm
  refine k_cast (ef_stb m x a) ?_
  show Run p l e _ s m _ below meth c Z EL1 _ n0 bk h0 0 0 (mkF m 0 #[.val (.ref x), .val (.ref a), .val .null, .unset, .unset] []) _
  have ne_1 : @Ne Nat a t := pf_3.2.2.2.2.2.2.2
  have lt_2 : @LT.lt Nat _ x (Array.size h0) := pf_0.lt
  have lt_3 : @LT.lt Nat _ x (Array.size h0) := pf_1.lt
  have lt_4 : @LT.lt Nat _ x (Array.size h0) := pf_2.lt
  have lt_5 : @LT.lt Nat _ a (Array.size h0) := pf_3.lt1
  have lt_6 : @LT.lt Nat _ t (Array.size h0) := pf_3.lt2
  refine k_pure (g' := (mkF m 1 #[.val (.ref x), .val (.ref a), .val .null, .unset, .unset] [(.ref x)])) (fun TT HH tt kk => XS.aloadN HH hx rfl (hb hby d_jdk_42_m_150_0) rfl rfl kk) ?_
  refine k_initO hx (hw _ (List.mem_of_getElem? (i := 143) rfl)) (hw _ (List.mem_of_getElem? (i := 19) rfl)) (hw _ (List.mem_of_getElem? (i := 20) rfl)) rfl (by rw [hml]; rfl) rfl (hb hby d_jdk_42_m_150_1) (by decide) (W := 0) (by show 2 * 0 + _ ≤ _; exact Nat.le_of_eq rfl) (by decide) ?_
  show Run p l e _ s m _ below meth c Z EL1 _ n0 bk h0 0 0 (mkF m 4 #[.val (.ref x), .val (.ref a), .val .null, .unset, .unset] []) _
  refine k_pure (g' := (mkF m 5 #[.val (.ref x), .val (.ref a), .val .null, .unset, .unset] [(.ref a)])) (fun TT HH tt kk => XS.aloadN HH hx rfl (hb hby d_jdk_42_m_150_4) rfl rfl kk) ?_
  refine k_callV hx (y := (⟨"java/lang/AbstractStringBuilder", "getValue", "()[B"⟩ : MethodName)) (z := (⟨"java/lang/AbstractStringBuilder", "getValue", "()[B"⟩ : MethodName)) (hw _ (List.mem_of_getElem? (i := 144) rfl)) (hw _ (List.mem_of_getElem? (i := 145) rfl)) (fun s' hZ => notFace_of_selects (args := #[]) (mv hZ (hw _ (List.mem_of_getElem? (i := 147) rfl)))) (hw _ (List.mem_of_getElem? (i := 147) rfl)) (hw _ (List.mem_of_getElem? (i := 146) rfl)) (by decide) (W := 0) (a := a) (argsL := []) (rest := []) (Pays.of_met (rm_gvl l Z a0 G1 G3 d1 d2 us ss kd1 kd2 w1 w2 hX hY n0 bk h0 O0 a t kb N n vs pf_3 []) (hw _ (List.mem_of_getElem? (i := 148) rfl)) (hw _ (List.mem_of_getElem? (i := 16) rfl)) (by decide) (by decide)) pf_3.1 rfl (by rw [hml]; rfl) (lenOf pd__28__29__5b_B rfl) rfl (by show 2 * 0 + _ ≤ _; exact Nat.le_of_eq rfl) (hb hby d_jdk_42_m_150_5) (by decide) (by decide) ?_
  intro v_7 h_8 bk_9 O_10 z_11 Q_12
  obtain ⟨rfl, rfl, rfl⟩ := Q_12
  show Run p l e _ s m _ below meth c Z EL1 _ n0 bk h0 0 0 (mkF m 8 #[.val (.ref x), .val (.ref a), .val .null, .unset, .unset] [(.ref t)]) _
  refine k_pure (g' := (mkF m 9 #[.val (.ref x), .val (.ref a), .val .null, .val (.ref t), .unset] [])) (fun TT HH tt kk => XS.astoreN HH hx rfl (hb hby d_jdk_42_m_150_8) rfl rfl (l' := #[.val (.ref x), .val (.ref a), .val .null, .val (.ref t), .unset]) rfl kk) ?_
  refine k_pure (g' := (mkF m 10 #[.val (.ref x), .val (.ref a), .val .null, .val (.ref t), .unset] [(.ref a)])) (fun TT HH tt kk => XS.aloadN HH hx rfl (hb hby d_jdk_42_m_150_9) rfl rfl kk) ?_
  refine k_callV hx (y := (⟨"java/lang/AbstractStringBuilder", "length", "()I"⟩ : MethodName)) (z := (⟨"java/lang/StringBuilder", "length", "()I"⟩ : MethodName)) (hw _ (List.mem_of_getElem? (i := 149) rfl)) (hw _ (List.mem_of_getElem? (i := 150) rfl)) (fun s' hZ => nf_of' (y' := (⟨"java/lang/AbstractStringBuilder", "ensureCapacityInternal", "(I)V"⟩ : MethodName)) rfl hZ (hw _ (List.mem_of_getElem? (i := 62) rfl))) (hw _ (List.mem_of_getElem? (i := 152) rfl)) (hw _ (List.mem_of_getElem? (i := 153) rfl)) (by decide) (W := 0) (a := a) (argsL := []) (rest := []) (Pays.of_met (rm_sbl l Z a0 G1 G3 d1 d2 us ss kd1 kd2 w1 w2 hX hY n0 bk h0 O0 a t kb N n vs pf_3 []) (hw _ (List.mem_of_getElem? (i := 154) rfl)) (hw _ (List.mem_of_getElem? (i := 8) rfl)) (by decide) (by decide)) pf_3.1 rfl (by rw [hml]; rfl) (lenOf pd__28__29_I rfl) rfl (by show 2 * 0 + _ ≤ _; exact Nat.le_of_eq rfl) (hb hby d_jdk_42_m_150_10) (by decide) (by decide) ?_
  intro v_13 h_14 bk_15 O_16 z_17 Q_18
  obtain ⟨rfl, rfl, rfl⟩ := Q_18
  show Run p l e _ s m _ below meth c Z EL1 _ n0 bk h0 0 0 (mkF m 13 #[.val (.ref x), .val (.ref a), .val .null, .val (.ref t), .unset] [(.int (Int32.ofNat n))]) _
  refine k_pure (g' := (mkF m 15 #[.val (.ref x), .val (.ref a), .val .null, .val (.ref t), .val (.int (Int32.ofNat n))] [])) (fun TT HH tt kk => XS.istore HH hx rfl (hb hby d_jdk_42_m_150_13) rfl (l' := #[.val (.ref x), .val (.ref a), .val .null, .val (.ref t), .val (.int (Int32.ofNat n))]) rfl kk) ?_
  refine k_pure (g' := (mkF m 16 #[.val (.ref x), .val (.ref a), .val .null, .val (.ref t), .val (.int (Int32.ofNat n))] [(.ref a)])) (fun TT HH tt kk => XS.aloadN HH hx rfl (hb hby d_jdk_42_m_150_15) rfl rfl kk) ?_
  refine k_callV hx (y := (⟨"java/lang/AbstractStringBuilder", "isLatin1", "()Z"⟩ : MethodName)) (z := (⟨"java/lang/AbstractStringBuilder", "isLatin1", "()Z"⟩ : MethodName)) (hw _ (List.mem_of_getElem? (i := 157) rfl)) (hw _ (List.mem_of_getElem? (i := 121) rfl)) (fun s' hZ => notFace_of_selects (args := #[]) (mv hZ (hw _ (List.mem_of_getElem? (i := 123) rfl)))) (hw _ (List.mem_of_getElem? (i := 123) rfl)) (hw _ (List.mem_of_getElem? (i := 122) rfl)) (by decide) (W := 0) (a := a) (argsL := []) (rest := []) (Pays.of_met (rm_ail l Z a0 G1 G3 d1 d2 us ss kd1 kd2 w1 w2 hX hY n0 bk h0 O0 a t kb N n vs pf_3 []) (hw _ (List.mem_of_getElem? (i := 124) rfl)) (hw _ (List.mem_of_getElem? (i := 16) rfl)) (by decide) (by decide)) pf_3.1 rfl (by rw [hml]; rfl) (lenOf pd__28__29_Z rfl) rfl (by show 2 * 0 + _ ≤ _; exact Nat.le_of_eq rfl) (hb hby d_jdk_42_m_150_16) (by decide) (by decide) ?_
  intro v_19 h_20 bk_21 O_22 z_23 Q_24
  obtain ⟨rfl, rfl, rfl⟩ := Q_24
  show Run p l e _ s m _ below meth c Z EL1 _ n0 bk h0 0 0 (mkF m 19 #[.val (.ref x), .val (.ref a), .val .null, .val (.ref t), .val (.int (Int32.ofNat n))] [(.int (1 : Int32))]) _
  refine k_pure (g' := (mkF m 22 #[.val (.ref x), .val (.ref a), .val .null, .val (.ref t), .val (.int (Int32.ofNat n))] [])) (fun TT HH tt kk => XS.ifNo HH hx rfl (hb hby d_jdk_42_m_150_19) rfl ((if0 _ _).trans (feq (by decide : ¬ ((1 : Int32) = (0 : Int32)))).1) kk) ?_
  refine k_pure (g' := (mkF m 23 #[.val (.ref x), .val (.ref a), .val .null, .val (.ref t), .val (.int (Int32.ofNat n))] [(.ref x)])) (fun TT HH tt kk => XS.aloadN HH hx rfl (hb hby d_jdk_42_m_150_22) rfl rfl kk) ?_
  refine k_pure (g' := (mkF m 24 #[.val (.ref x), .val (.ref a), .val .null, .val (.ref t), .val (.int (Int32.ofNat n))] [(.int (0 : Int32)), (.ref x)])) (fun TT HH tt kk => XS.iconst HH hx rfl (hb hby d_jdk_42_m_150_23) kk) ?_
  refine k_putF hx (host := "") (Or.inl (hw _ (List.mem_of_getElem? (i := 56) rfl))) Via.refl pf_2 pf_0 (Or.inr ⟨(hw _ (List.mem_of_getElem? (i := 31) rfl)), rfl, hnm⟩) (hw _ (List.mem_of_getElem? (i := 29) rfl)) (ty := .byte) (by decide) rfl rfl (by omega) nbx rfl rfl (hb hby d_jdk_42_m_150_24) ?_
  intro h_25 O_27 W_26
  have z_28 := W_26.size
  show Run p l e _ s m _ below meth c Z EL1 _ n0 bk h_25 0 0 (mkF m 27 #[.val (.ref x), .val (.ref a), .val .null, .val (.ref t), .val (.int (Int32.ofNat n))] []) _
  refine k_pure (g' := (mkF m 28 #[.val (.ref x), .val (.ref a), .val .null, .val (.ref t), .val (.int (Int32.ofNat n))] [(.ref x)])) (fun TT HH tt kk => XS.aloadN HH hx rfl (hb hby d_jdk_42_m_150_27) rfl rfl kk) ?_
  refine k_pure (g' := (mkF m 29 #[.val (.ref x), .val (.ref a), .val .null, .val (.ref t), .val (.int (Int32.ofNat n))] [(.ref t), (.ref x)])) (fun TT HH tt kk => XS.aloadN HH hx rfl (hb hby d_jdk_42_m_150_28) rfl rfl kk) ?_
  refine k_pure (g' := (mkF m 30 #[.val (.ref x), .val (.ref a), .val .null, .val (.ref t), .val (.int (Int32.ofNat n))] [(.int (0 : Int32)), (.ref t), (.ref x)])) (fun TT HH tt kk => XS.iconst HH hx rfl (hb hby d_jdk_42_m_150_29) kk) ?_
  refine k_pure (g' := (mkF m 32 #[.val (.ref x), .val (.ref a), .val .null, .val (.ref t), .val (.int (Int32.ofNat n))] [(.int (Int32.ofNat n)), (.int (0 : Int32)), (.ref t), (.ref x)])) (fun TT HH tt kk => XS.iload HH hx rfl (hb hby d_jdk_42_m_150_30) rfl kk) ?_
  have F_29 : Arv Z h_25 t kb .byte (Int32.ofNat N) vs (.int 0) := (pf_3.2.2.2.2.1.other W_26 (ne_ad (by omega)))
  have hbl_30 : ∀ y, bk y → @LT.lt Nat _ y (Array.size h_25) := fun y q => Nat.lt_of_lt_of_le (hbl y q) (by omega)
  refine k_callS hx (y := (⟨"java/util/Arrays", "copyOfRange", "([BII)[B"⟩ : MethodName)) (hw _ (List.mem_of_getElem? (i := 158) rfl)) (hw _ (List.mem_of_getElem? (i := 159) rfl)) (hw _ (List.mem_of_getElem? (i := 81) rfl)) (hw _ (List.mem_of_getElem? (i := 160) rfl)) (by decide) (W := 1) (argsL := [(.ref t), (.int (0 : Int32)), (.int (Int32.ofNat n))]) (rest := [(.ref x)]) (Pays.of_met (rm_cor l Z a0 G1 G3 d1 d2 us ss kd1 kd2 w1 w2 hX hY n0 bk h_25 O_27 t kb N vs n F_29 l1 pf_3.2.2.2.2.2.2.1 l3 hbl_30 []) (hw _ (List.mem_of_getElem? (i := 160) rfl)) (hw _ (List.mem_of_getElem? (i := 81) rfl)) (by decide) (by decide)) rfl (by rw [hml]; rfl) (lenOf pd__28__5b_BII_29__5b_B rfl) rfl (by show 2 * 0 + _ ≤ _; exact Nat.le_of_eq rfl) (hb hby d_jdk_42_m_150_32) (by decide) (by decide) ?_
  intro v_31 h_32 bk_33 O_34 z_35 Q_36
  obtain ⟨a_37, k_38, e_39, rfl, rfl, K_40, F_41, P_42⟩ := Q_36
  have lt_43 : @LT.lt Nat _ a_37 (Array.size h_32) := F_41.lt
  show Run p l e _ s m _ below meth c Z EL1 _ n0 bk h_32 1 80 (mkF m 35 #[.val (.ref x), .val (.ref a), .val .null, .val (.ref t), .val (.int (Int32.ofNat n))] [(.ref a_37), (.ref x)]) _
  have F_44 : Fld Z h_32 x "java/lang/String" "value" "[B" .null := ((pf_1.other W_26 (Or.inr (RoadKit.slot_ne (C := "java/lang/String") (Or.inr (hw _ (List.mem_of_getElem? (i := 30) rfl))) (Or.inr (hw _ (List.mem_of_getElem? (i := 31) rfl))) (by decide) (t := (.array .byte)) (t' := .byte) (by decide) (by decide)))).keep K_40 nin0)
  have F_45 : Exa Z h_32 x "java/lang/String" := ((pf_0.wr W_26).keep K_40)
  refine k_putF hx (host := "") (Or.inl (hw _ (List.mem_of_getElem? (i := 49) rfl))) Via.refl F_44 F_45 (Or.inr ⟨(hw _ (List.mem_of_getElem? (i := 30) rfl)), rfl, hnm⟩) (hw _ (List.mem_of_getElem? (i := 29) rfl)) (ty := (.array .byte)) (by decide) rfl rfl (by omega) nbx rfl rfl (hb hby d_jdk_42_m_150_35) ?_
  intro h_46 O_48 W_47
  have z_49 := W_47.size
  show Run p l e _ s m _ below meth c Z EL1 _ n0 bk h_46 1 80 (mkF m 38 #[.val (.ref x), .val (.ref a), .val .null, .val (.ref t), .val (.int (Int32.ofNat n))] []) _
  refine k_pure (g' := (mkF m 97 #[.val (.ref x), .val (.ref a), .val .null, .val (.ref t), .val (.int (Int32.ofNat n))] [])) (fun TT HH tt kk => XS.goto HH hx rfl (pc0 := 38) (pc' := 97) rfl (hb hby d_jdk_42_m_150_38) (by decide) (by decide) kk) ?_
  have F_50 : Exa Z h_46 x "java/lang/String" := (F_45.wr W_47)
  exact k_ret0 hx hlk hret (hb hby d_jdk_42_m_150_97) (by decide) (by decide) ⟨rfl, rfl, ((((Keep.refl _ _).wr W_26 (Or.inl (by simp))).trans K_40 kk0).wr W_47 (Or.inl (by simp))), F_50⟩
def Q_stb1 (Z : State) (G1 : Int32) (G3 : Value) (d1 d2 us ss : Addr) (kd1 kd2 : ClassId) (w1 w2 : List Value) (x : Addr) (a : Addr) (t : Addr) (kb : ClassId) (N : Nat) (n : Nat) (vs : List Value) (h0 : Heap) (n0 : Nat) (bk : Addr → Prop) (v : Option Value) (h : Heap) (bk' : Addr → Prop) : Prop := v = none ∧ bk = bk' ∧ Keep h0 h [x] ∧ (Exa Z h x "java/lang/String")
theorem d_jdk_42_m_53_0 : decode jdk_42_method_53_code 0 = .ok (.aload_n 0, 1) := by decide +kernel
theorem d_jdk_42_m_53_1 : decode jdk_42_method_53_code 1 = .ok (.aload_n 1, 1) := by decide +kernel
theorem d_jdk_42_m_53_2 : decode jdk_42_method_53_code 2 = .ok (.aconst_null, 1) := by decide +kernel
theorem d_jdk_42_m_53_3 : decode jdk_42_method_53_code 3 = .ok (.invokespecial 489, 3) := by decide +kernel
theorem pd__28_Ljava_2f_lang_2f_AbstractStringBuilder_3b_Ljava_2f_lang_2f_Void_3b__29_V : parseMethodDescriptor "(Ljava/lang/AbstractStringBuilder;Ljava/lang/Void;)V" = some ⟨[(.object "java/lang/AbstractStringBuilder"), (.object "java/lang/Void")], none⟩ := by decide +kernel
theorem d_jdk_42_m_53_6 : decode jdk_42_method_53_code 6 = .ok (.return_, 1) := by decide +kernel
abbrev RM_stb1 : Room := { frames := 4, cells := 1, slots := 80, locals := 65 }
theorem ef_stb1 (m : MethodId) (x0 : Addr) (x1 : Addr) : entryFrame m #[(.ref x0), (.ref x1)] 2 = mkF m 0 #[.val (.ref x0), .val (.ref x1)] [] := by first | (simp [entryFrame, mkF, argsToLocals, Value.category]; done) | rfl
set_option maxRecDepth 65536 in
set_option maxHeartbeats 40000000 in
theorem rm_stb1 (l : Launch) (Z : State) (a0 : Array Value) (G1 : Int32) (G3 : Value) (d1 d2 us ss : Addr) (kd1 kd2 : ClassId) (w1 w2 : List Value) (hX : Ctx Z a0 G1 G3) (hY : More Z d1 d2 us ss kd1 kd2 w1 w2) (n0 : Nat) (bk : Addr → Prop) (h0 : Heap) (O0 : Old Z n0 h0) (x : Addr) (a : Addr) (t : Addr) (kb : ClassId) (N : Nat) (n : Nat) (vs : List Value) (pf_0 : Exa Z h0 x "java/lang/String") (pf_1 : Fld Z h0 x "java/lang/String" "value" "[B" .null) (pf_2 : Fld Z h0 x "java/lang/String" "coder" "B" (.int (0 : Int32))) (pf_3 : SbW Z h0 a t kb N n vs) (l1 : n < N) (l3 : n ≤ 80) (hbl : ∀ y, bk y → @LT.lt Nat _ y (Array.size h0)) (nbx : ¬ bk x) (gx : n0 ≤ x) (m1 : @Ne Nat x a) (m2 : @Ne Nat x t) (ws : List Jvm.Cond) : Met l Z EL1 n0 bk (⟨"java/lang/String", "<init>", "(Ljava/lang/StringBuilder;)V"⟩ : MethodName) jdk_42_method_53_code 2 (Option.none : Option FieldType) RM_stb1 #[(.ref x), (.ref a)] h0 (Q_stb1 Z G1 G3 d1 d2 us ss kd1 kd2 w1 w2 x a t kb N n vs h0 n0 bk) ws := by
  have hX' := hX
  obtain ⟨hw, hE, S1, P1, S3, P3⟩ := hX'
  have hY' := hY
  obtain ⟨s_d1, a_d1, s_d2, a_d2, s_us, s_ss⟩ := hY'
  have hSA := sa_of hw
  have z0 : n0 ≤ h0.size := by rw [← O0.1]; exact O0.2.1
  refine Met.of (by decide +kernel) O0 hE ?_
  intro p e s m below meth c hx hby hml hret hlk hnm
  refine k_cast (ef_stb1 m x a) ?_
  show Run p l e _ s m _ below meth c Z EL1 _ n0 bk h0 0 0 (mkF m 0 #[.val (.ref x), .val (.ref a)] []) _
  have ne_1 : @Ne Nat a t := pf_3.2.2.2.2.2.2.2
  have lt_2 : @LT.lt Nat _ x (Array.size h0) := pf_0.lt
  have lt_3 : @LT.lt Nat _ x (Array.size h0) := pf_1.lt
  have lt_4 : @LT.lt Nat _ x (Array.size h0) := pf_2.lt
  have lt_5 : @LT.lt Nat _ a (Array.size h0) := pf_3.lt1
  have lt_6 : @LT.lt Nat _ t (Array.size h0) := pf_3.lt2
  refine k_pure (g' := (mkF m 1 #[.val (.ref x), .val (.ref a)] [(.ref x)])) (fun TT HH tt kk => XS.aloadN HH hx rfl (hb hby d_jdk_42_m_53_0) rfl rfl kk) ?_
  refine k_pure (g' := (mkF m 2 #[.val (.ref x), .val (.ref a)] [(.ref a), (.ref x)])) (fun TT HH tt kk => XS.aloadN HH hx rfl (hb hby d_jdk_42_m_53_1) rfl rfl kk) ?_
  refine k_pure (g' := (mkF m 3 #[.val (.ref x), .val (.ref a)] [.null, (.ref a), (.ref x)])) (fun TT HH tt kk => XS.aconstNull HH hx rfl (hb hby d_jdk_42_m_53_2) kk) ?_
  refine k_callI hx (y := (⟨"java/lang/String", "<init>", "(Ljava/lang/AbstractStringBuilder;Ljava/lang/Void;)V"⟩ : MethodName)) rfl (hw _ (List.mem_of_getElem? (i := 140) rfl)) (hw _ (List.mem_of_getElem? (i := 141) rfl)) (hw _ (List.mem_of_getElem? (i := 142) rfl)) (by decide) (W := 0) (a := x) (argsL := [(.ref a), .null]) (rest := []) (Pays.of_met (rm_stb l Z a0 G1 G3 d1 d2 us ss kd1 kd2 w1 w2 hX hY n0 bk h0 O0 x a t kb N n vs pf_0 pf_1 pf_2 pf_3 l1 l3 hbl nbx (by omega) (by omega) (by omega) []) (hw _ (List.mem_of_getElem? (i := 142) rfl)) (hw _ (List.mem_of_getElem? (i := 22) rfl)) (by decide) (by decide)) rfl (by rw [hml]; rfl) (lenOf pd__28_Ljava_2f_lang_2f_AbstractStringBuilder_3b_Ljava_2f_lang_2f_Void_3b__29_V rfl) rfl (by show 2 * 0 + _ ≤ _; exact Nat.le_of_eq rfl) (hb hby d_jdk_42_m_53_3) (by decide) (by decide) ?_
  intro v_7 h_8 bk_9 O_10 z_11 Q_12
  obtain ⟨rfl, rfl, K_13, F_14⟩ := Q_12
  have lt_15 : @LT.lt Nat _ x (Array.size h_8) := F_14.lt
  show Run p l e _ s m _ below meth c Z EL1 _ n0 bk h_8 1 80 (mkF m 6 #[.val (.ref x), .val (.ref a)] []) _
  exact k_ret0 hx hlk hret (hb hby d_jdk_42_m_53_6) (by decide) (by decide) ⟨rfl, rfl, ((Keep.refl _ _).trans K_13 (kkS (Or.inl (by simp)) kk0)), F_14⟩
def Q_sts (Z : State) (G1 : Int32) (G3 : Value) (d1 d2 us ss : Addr) (kd1 kd2 : ClassId) (w1 w2 : List Value) (a : Addr) (t : Addr) (kb : ClassId) (N : Nat) (n : Nat) (vs : List Value) (h0 : Heap) (n0 : Nat) (bk : Addr → Prop) (v : Option Value) (h : Heap) (bk' : Addr → Prop) : Prop := ∃ (x : Addr), v = some (.ref x) ∧ bk = bk' ∧ Keep h0 h [] ∧ (Exa Z h x "java/lang/String")
theorem d_jdk_67_m_42_0 : decode jdk_67_method_42_code 0 = .ok (.new 18, 3) := by decide +kernel
theorem d_jdk_67_m_42_3 : decode jdk_67_method_42_code 3 = .ok (.dup, 1) := by decide +kernel
theorem d_jdk_67_m_42_4 : decode jdk_67_method_42_code 4 = .ok (.aload_n 0, 1) := by decide +kernel
theorem d_jdk_67_m_42_5 : decode jdk_67_method_42_code 5 = .ok (.invokespecial 137, 3) := by decide +kernel
theorem pd__28_Ljava_2f_lang_2f_StringBuilder_3b__29_V : parseMethodDescriptor "(Ljava/lang/StringBuilder;)V" = some ⟨[(.object "java/lang/StringBuilder")], none⟩ := by decide +kernel
theorem d_jdk_67_m_42_8 : decode jdk_67_method_42_code 8 = .ok (.areturn, 1) := by decide +kernel
abbrev RM_sts : Room := { frames := 5, cells := 2, slots := 84, locals := 79 }
theorem ef_sts (m : MethodId) (x0 : Addr) : entryFrame m #[(.ref x0)] 1 = mkF m 0 #[.val (.ref x0)] [] := by first | (simp [entryFrame, mkF, argsToLocals, Value.category]; done) | rfl
set_option maxRecDepth 65536 in
set_option maxHeartbeats 40000000 in
theorem rm_sts (l : Launch) (Z : State) (a0 : Array Value) (G1 : Int32) (G3 : Value) (d1 d2 us ss : Addr) (kd1 kd2 : ClassId) (w1 w2 : List Value) (hX : Ctx Z a0 G1 G3) (hY : More Z d1 d2 us ss kd1 kd2 w1 w2) (n0 : Nat) (bk : Addr → Prop) (h0 : Heap) (O0 : Old Z n0 h0) (a : Addr) (t : Addr) (kb : ClassId) (N : Nat) (n : Nat) (vs : List Value) (pf_0 : SbW Z h0 a t kb N n vs) (l1 : n < N) (l3 : n ≤ 80) (hbl : ∀ y, bk y → @LT.lt Nat _ y (Array.size h0)) (ws : List Jvm.Cond) : Met l Z EL1 n0 bk (⟨"java/lang/StringBuilder", "toString", "()Ljava/lang/String;"⟩ : MethodName) jdk_67_method_42_code 1 (Option.some (FieldType.object "java/lang/String")) RM_sts #[(.ref a)] h0 (Q_sts Z G1 G3 d1 d2 us ss kd1 kd2 w1 w2 a t kb N n vs h0 n0 bk) ws := by
  have hX' := hX
  obtain ⟨hw, hE, S1, P1, S3, P3⟩ := hX'
  have hY' := hY
  obtain ⟨s_d1, a_d1, s_d2, a_d2, s_us, s_ss⟩ := hY'
  have hSA := sa_of hw
  have z0 : n0 ≤ h0.size := by rw [← O0.1]; exact O0.2.1
  refine Met.of (by decide +kernel) O0 hE ?_
  intro p e s m below meth c hx hby hml hret hlk hnm
  refine k_cast (ef_sts m a) ?_
  show Run p l e _ s m _ below meth c Z EL1 _ n0 bk h0 0 0 (mkF m 0 #[.val (.ref a)] []) _
  have ne_1 : @Ne Nat a t := pf_0.2.2.2.2.2.2.2
  have lt_2 : @LT.lt Nat _ a (Array.size h0) := pf_0.lt1
  have lt_3 : @LT.lt Nat _ t (Array.size h0) := pf_0.lt2
  refine k_newO hx (hw _ (List.mem_of_getElem? (i := 135) rfl)) (hw _ (List.mem_of_getElem? (i := 29) rfl)) (hw _ (List.mem_of_getElem? (i := 22) rfl)) rfl (hb hby d_jdk_67_m_42_0) (by decide) (by decide) ?_
  intro h_5 a_4 g_11 O_6 E_7 A_8 D_9 U_10
  have z_12 := E_7.1
  have lt_13 : @LT.lt Nat _ a_4 (Array.size h_5) := A_8.lt
  have nb_14 : ¬ bk a_4 := fun q => Nat.not_le_of_lt (hbl _ q) (show @LE.le Nat _ (Array.size h0) a_4 by omega)
  show Run p l e _ s m _ below meth c Z EL1 _ n0 bk h_5 1 4 (mkF m 3 #[.val (.ref a)] [(.ref a_4)]) _
  refine k_pure (g' := (mkF m 4 #[.val (.ref a)] [(.ref a_4), (.ref a_4)])) (fun TT HH tt kk => XS.dup HH hx rfl (hb hby d_jdk_67_m_42_3) rfl rfl kk) ?_
  refine k_pure (g' := (mkF m 5 #[.val (.ref a)] [(.ref a), (.ref a_4), (.ref a_4)])) (fun TT HH tt kk => XS.aloadN HH hx rfl (hb hby d_jdk_67_m_42_4) rfl rfl kk) ?_
  have F_15 : SbW Z h_5 a t kb N n vs := (pf_0.ext E_7)
  have hbl_16 : ∀ y, bk y → @LT.lt Nat _ y (Array.size h_5) := fun y q => Nat.lt_of_lt_of_le (hbl y q) (by omega)
  refine k_callI hx (y := (⟨"java/lang/String", "<init>", "(Ljava/lang/StringBuilder;)V"⟩ : MethodName)) rfl (hw _ (List.mem_of_getElem? (i := 136) rfl)) (hw _ (List.mem_of_getElem? (i := 137) rfl)) (hw _ (List.mem_of_getElem? (i := 139) rfl)) (by decide) (W := 1) (a := a_4) (argsL := [(.ref a)]) (rest := [(.ref a_4)]) (Pays.of_met (rm_stb1 l Z a0 G1 G3 d1 d2 us ss kd1 kd2 w1 w2 hX hY n0 bk h_5 O_6 a_4 a t kb N n vs A_8 (D_9 (Or.inr (hw _ (List.mem_of_getElem? (i := 30) rfl))) (ty := (.array .byte)) (by decide)) (D_9 (Or.inr (hw _ (List.mem_of_getElem? (i := 31) rfl))) (ty := .byte) (by decide)) F_15 l1 l3 hbl_16 nb_14 (by omega) (by omega) (by omega) []) (hw _ (List.mem_of_getElem? (i := 139) rfl)) (hw _ (List.mem_of_getElem? (i := 22) rfl)) (by decide) (by decide)) rfl (by rw [hml]; rfl) (lenOf pd__28_Ljava_2f_lang_2f_StringBuilder_3b__29_V rfl) rfl (by show 2 * 0 + _ ≤ _; exact Nat.le_of_eq rfl) (hb hby d_jdk_67_m_42_5) (by decide) (by decide) ?_
  intro v_17 h_18 bk_19 O_20 z_21 Q_22
  obtain ⟨rfl, rfl, K_23, F_24⟩ := Q_22
  have lt_25 : @LT.lt Nat _ a_4 (Array.size h_18) := F_24.lt
  show Run p l e _ s m _ below meth c Z EL1 _ n0 bk h_18 2 84 (mkF m 8 #[.val (.ref a)] [(.ref a_4)]) _
  exact k_retA hx hlk hret rfl rfl rfl (hb hby d_jdk_67_m_42_8) (by decide) (by decide) ⟨a_4, rfl, rfl, (((Keep.refl _ _).ext E_7).trans K_23 (kkS (Or.inr (by omega)) kk0)), F_24⟩
def Q_ssz (Z : State) (G1 : Int32) (G3 : Value) (d1 d2 us ss : Addr) (kd1 kd2 : ClassId) (w1 w2 : List Value) (x : Int32) (h0 : Heap) (n0 : Nat) (bk : Addr → Prop) (v : Option Value) (h : Heap) (bk' : Addr → Prop) : Prop := ∃ (r : Nat), v = some (.int (Int32.ofNat r)) ∧ h0 = h ∧ bk = bk' ∧ (1 ≤ r ∧ r ≤ 11)
theorem d_jdk_33_m_13_0 : decode jdk_33_method_13_code 0 = .ok (.iconst 1, 1) := by decide +kernel
theorem d_jdk_33_m_13_1 : decode jdk_33_method_13_code 1 = .ok (.istore_n 1, 1) := by decide +kernel
theorem d_jdk_33_m_13_2 : decode jdk_33_method_13_code 2 = .ok (.iload_n 0, 1) := by decide +kernel
theorem d_jdk_33_m_13_3 : decode jdk_33_method_13_code 3 = .ok (.ifCond .lt 8, 3) := by decide +kernel
theorem d_jdk_33_m_13_11 : decode jdk_33_method_13_code 11 = .ok (.bipush (-10), 2) := by decide +kernel
theorem d_jdk_33_m_13_13 : decode jdk_33_method_13_code 13 = .ok (.istore_n 2, 1) := by decide +kernel
theorem d_jdk_33_m_13_14 : decode jdk_33_method_13_code 14 = .ok (.iconst 1, 1) := by decide +kernel
theorem d_jdk_33_m_13_15 : decode jdk_33_method_13_code 15 = .ok (.istore_n 3, 1) := by decide +kernel
theorem d_jdk_33_m_13_16 : decode jdk_33_method_13_code 16 = .ok (.iload_n 3, 1) := by decide +kernel
theorem d_jdk_33_m_13_17 : decode jdk_33_method_13_code 17 = .ok (.bipush 10, 2) := by decide +kernel
theorem d_jdk_33_m_13_19 : decode jdk_33_method_13_code 19 = .ok (.if_icmp .ge 23, 3) := by decide +kernel
theorem d_jdk_33_m_13_22 : decode jdk_33_method_13_code 22 = .ok (.iload_n 0, 1) := by decide +kernel
theorem d_jdk_33_m_13_23 : decode jdk_33_method_13_code 23 = .ok (.iload_n 2, 1) := by decide +kernel
theorem d_jdk_33_m_13_24 : decode jdk_33_method_13_code 24 = .ok (.if_icmp .le 7, 3) := by decide +kernel
theorem d_jdk_33_m_13_27 : decode jdk_33_method_13_code 27 = .ok (.iload_n 3, 1) := by decide +kernel
theorem d_jdk_33_m_13_28 : decode jdk_33_method_13_code 28 = .ok (.iload_n 1, 1) := by decide +kernel
theorem d_jdk_33_m_13_29 : decode jdk_33_method_13_code 29 = .ok (.iadd, 1) := by decide +kernel
theorem d_jdk_33_m_13_30 : decode jdk_33_method_13_code 30 = .ok (.ireturn, 1) := by decide +kernel
theorem d_jdk_33_m_13_31 : decode jdk_33_method_13_code 31 = .ok (.bipush 10, 2) := by decide +kernel
theorem d_jdk_33_m_13_33 : decode jdk_33_method_13_code 33 = .ok (.iload_n 2, 1) := by decide +kernel
theorem d_jdk_33_m_13_34 : decode jdk_33_method_13_code 34 = .ok (.imul, 1) := by decide +kernel
theorem d_jdk_33_m_13_35 : decode jdk_33_method_13_code 35 = .ok (.istore_n 2, 1) := by decide +kernel
theorem d_jdk_33_m_13_36 : decode jdk_33_method_13_code 36 = .ok (.iinc 3 1, 3) := by decide +kernel
theorem d_jdk_33_m_13_39 : decode jdk_33_method_13_code 39 = .ok (.goto (-23), 3) := by decide +kernel
theorem d_jdk_33_m_13_42 : decode jdk_33_method_13_code 42 = .ok (.bipush 10, 2) := by decide +kernel
theorem d_jdk_33_m_13_44 : decode jdk_33_method_13_code 44 = .ok (.iload_n 1, 1) := by decide +kernel
theorem d_jdk_33_m_13_45 : decode jdk_33_method_13_code 45 = .ok (.iadd, 1) := by decide +kernel
theorem d_jdk_33_m_13_46 : decode jdk_33_method_13_code 46 = .ok (.ireturn, 1) := by decide +kernel
theorem d_jdk_33_m_13_6 : decode jdk_33_method_13_code 6 = .ok (.iconst 0, 1) := by decide +kernel
theorem d_jdk_33_m_13_7 : decode jdk_33_method_13_code 7 = .ok (.istore_n 1, 1) := by decide +kernel
theorem d_jdk_33_m_13_8 : decode jdk_33_method_13_code 8 = .ok (.iload_n 0, 1) := by decide +kernel
theorem d_jdk_33_m_13_9 : decode jdk_33_method_13_code 9 = .ok (.ineg, 1) := by decide +kernel
theorem d_jdk_33_m_13_10 : decode jdk_33_method_13_code 10 = .ok (.istore_n 0, 1) := by decide +kernel
abbrev RM_ssz : Room := { frames := 0, cells := 0, slots := 0, locals := 0 }
theorem ef_ssz (m : MethodId) (x0 : Int32) : entryFrame m #[(.int x0)] 4 = mkF m 0 #[.val (.int x0), .unset, .unset, .unset] [] := by first | (simp [entryFrame, mkF, argsToLocals, Value.category]; done) | rfl
set_option maxRecDepth 65536 in
set_option maxHeartbeats 40000000 in
theorem rm_ssz (l : Launch) (Z : State) (a0 : Array Value) (G1 : Int32) (G3 : Value) (d1 d2 us ss : Addr) (kd1 kd2 : ClassId) (w1 w2 : List Value) (hX : Ctx Z a0 G1 G3) (hY : More Z d1 d2 us ss kd1 kd2 w1 w2) (n0 : Nat) (bk : Addr → Prop) (h0 : Heap) (O0 : Old Z n0 h0) (x : Int32)  (ws : List Jvm.Cond) : Met l Z EL1 n0 bk (⟨"java/lang/Integer", "stringSize", "(I)I"⟩ : MethodName) jdk_33_method_13_code 4 (Option.some FieldType.int) RM_ssz #[(.int x)] h0 (Q_ssz Z G1 G3 d1 d2 us ss kd1 kd2 w1 w2 x h0 n0 bk) ws := by
  have hX' := hX
  obtain ⟨hw, hE, S1, P1, S3, P3⟩ := hX'
  have hY' := hY
  obtain ⟨s_d1, a_d1, s_d2, a_d2, s_us, s_ss⟩ := hY'
  have hSA := sa_of hw
  have z0 : n0 ≤ h0.size := by rw [← O0.1]; exact O0.2.1
  refine Met.of (by decide +kernel) O0 hE ?_
  intro p e s m below meth c hx hby hml hret hlk hnm
  refine k_cast (ef_ssz m x) ?_
  show Run p l e _ s m _ below meth c Z EL1 _ n0 bk h0 0 0 (mkF m 0 #[.val (.int x), .unset, .unset, .unset] []) _
  refine k_pure (g' := (mkF m 1 #[.val (.int x), .unset, .unset, .unset] [(.int (1 : Int32))])) (fun TT HH tt kk => XS.iconst HH hx rfl (hb hby d_jdk_33_m_13_0) kk) ?_
  refine k_pure (g' := (mkF m 2 #[.val (.int x), .val (.int (1 : Int32)), .unset, .unset] [])) (fun TT HH tt kk => XS.istoreN HH hx rfl (hb hby d_jdk_33_m_13_1) rfl (l' := #[.val (.int x), .val (.int (1 : Int32)), .unset, .unset]) rfl kk) ?_
  refine k_pure (g' := (mkF m 3 #[.val (.int x), .val (.int (1 : Int32)), .unset, .unset] [(.int x)])) (fun TT HH tt kk => XS.iloadN HH hx rfl (hb hby d_jdk_33_m_13_2) rfl kk) ?_
  by_cases c_1 : x < (0 : Int32)
  · refine k_pure (g' := (mkF m 11 #[.val (.int x), .val (.int (1 : Int32)), .unset, .unset] [])) (fun TT HH tt kk => XS.ifYes HH hx rfl (pc0 := 3) (pc' := 11) rfl (hb hby d_jdk_33_m_13_3) rfl ((if0 _ _).trans (tlt c_1).1) (by decide) (by decide) kk) ?_
    refine k_pure (g' := (mkF m 13 #[.val (.int x), .val (.int (1 : Int32)), .unset, .unset] [(.int ((-10) : Int32))])) (fun TT HH tt kk => XS.bipush HH hx rfl (hb hby d_jdk_33_m_13_11) kk) ?_
    refine k_pure (g' := (mkF m 14 #[.val (.int x), .val (.int (1 : Int32)), .val (.int ((-10) : Int32)), .unset] [])) (fun TT HH tt kk => XS.istoreN HH hx rfl (hb hby d_jdk_33_m_13_13) rfl (l' := #[.val (.int x), .val (.int (1 : Int32)), .val (.int ((-10) : Int32)), .unset]) rfl kk) ?_
    refine k_pure (g' := (mkF m 15 #[.val (.int x), .val (.int (1 : Int32)), .val (.int ((-10) : Int32)), .unset] [(.int (1 : Int32))])) (fun TT HH tt kk => XS.iconst HH hx rfl (hb hby d_jdk_33_m_13_14) kk) ?_
    refine k_pure (g' := (mkF m 16 #[.val (.int x), .val (.int (1 : Int32)), .val (.int ((-10) : Int32)), .val (.int (1 : Int32))] [])) (fun TT HH tt kk => XS.istoreN HH hx rfl (hb hby d_jdk_33_m_13_15) rfl (l' := #[.val (.int x), .val (.int (1 : Int32)), .val (.int ((-10) : Int32)), .val (.int (1 : Int32))]) rfl kk) ?_
    refine k_pure (g' := (mkF m 17 #[.val (.int x), .val (.int (1 : Int32)), .val (.int ((-10) : Int32)), .val (.int (1 : Int32))] [(.int (1 : Int32))])) (fun TT HH tt kk => XS.iloadN HH hx rfl (hb hby d_jdk_33_m_13_16) rfl kk) ?_
    refine k_pure (g' := (mkF m 19 #[.val (.int x), .val (.int (1 : Int32)), .val (.int ((-10) : Int32)), .val (.int (1 : Int32))] [(.int (10 : Int32)), (.int (1 : Int32))])) (fun TT HH tt kk => XS.bipush HH hx rfl (hb hby d_jdk_33_m_13_17) kk) ?_
    refine k_pure (g' := (mkF m 22 #[.val (.int x), .val (.int (1 : Int32)), .val (.int ((-10) : Int32)), .val (.int (1 : Int32))] [])) (fun TT HH tt kk => XS.icmpNo HH hx rfl (hb hby d_jdk_33_m_13_19) rfl (tlt (by decide : ((1 : Int32) < (10 : Int32)))).2.1 kk) ?_
    refine k_pure (g' := (mkF m 23 #[.val (.int x), .val (.int (1 : Int32)), .val (.int ((-10) : Int32)), .val (.int (1 : Int32))] [(.int x)])) (fun TT HH tt kk => XS.iloadN HH hx rfl (hb hby d_jdk_33_m_13_22) rfl kk) ?_
    refine k_pure (g' := (mkF m 24 #[.val (.int x), .val (.int (1 : Int32)), .val (.int ((-10) : Int32)), .val (.int (1 : Int32))] [(.int ((-10) : Int32)), (.int x)])) (fun TT HH tt kk => XS.iloadN HH hx rfl (hb hby d_jdk_33_m_13_23) rfl kk) ?_
    by_cases c_2 : ((-10) : Int32) < x
    · refine k_pure (g' := (mkF m 27 #[.val (.int x), .val (.int (1 : Int32)), .val (.int ((-10) : Int32)), .val (.int (1 : Int32))] [])) (fun TT HH tt kk => XS.icmpNo HH hx rfl (hb hby d_jdk_33_m_13_24) rfl (tlt c_2).2.2.2 kk) ?_
      refine k_pure (g' := (mkF m 28 #[.val (.int x), .val (.int (1 : Int32)), .val (.int ((-10) : Int32)), .val (.int (1 : Int32))] [(.int (1 : Int32))])) (fun TT HH tt kk => XS.iloadN HH hx rfl (hb hby d_jdk_33_m_13_27) rfl kk) ?_
      refine k_pure (g' := (mkF m 29 #[.val (.int x), .val (.int (1 : Int32)), .val (.int ((-10) : Int32)), .val (.int (1 : Int32))] [(.int (1 : Int32)), (.int (1 : Int32))])) (fun TT HH tt kk => XS.iloadN HH hx rfl (hb hby d_jdk_33_m_13_28) rfl kk) ?_
      refine k_pure (g' := (mkF m 30 #[.val (.int x), .val (.int (1 : Int32)), .val (.int ((-10) : Int32)), .val (.int (1 : Int32))] [(.int (2 : Int32))])) (fun TT HH tt kk => XS.iadd HH hx rfl (hb hby d_jdk_33_m_13_29) rfl kk) ?_
      exact k_retI hx hlk hret (hb hby d_jdk_33_m_13_30) (by decide) (by decide) ⟨2, rfl, rfl, rfl, by decide⟩
    · refine k_pure (g' := (mkF m 31 #[.val (.int x), .val (.int (1 : Int32)), .val (.int ((-10) : Int32)), .val (.int (1 : Int32))] [])) (fun TT HH tt kk => XS.icmpYes HH hx rfl (pc0 := 24) (pc' := 31) rfl (hb hby d_jdk_33_m_13_24) rfl (flt c_2).2.2.2 (by decide) (by decide) kk) ?_
      refine k_pure (g' := (mkF m 33 #[.val (.int x), .val (.int (1 : Int32)), .val (.int ((-10) : Int32)), .val (.int (1 : Int32))] [(.int (10 : Int32))])) (fun TT HH tt kk => XS.bipush HH hx rfl (hb hby d_jdk_33_m_13_31) kk) ?_
      refine k_pure (g' := (mkF m 34 #[.val (.int x), .val (.int (1 : Int32)), .val (.int ((-10) : Int32)), .val (.int (1 : Int32))] [(.int ((-10) : Int32)), (.int (10 : Int32))])) (fun TT HH tt kk => XS.iloadN HH hx rfl (hb hby d_jdk_33_m_13_33) rfl kk) ?_
      refine k_pure (g' := (mkF m 35 #[.val (.int x), .val (.int (1 : Int32)), .val (.int ((-10) : Int32)), .val (.int (1 : Int32))] [(.int ((10 : Int32) * ((-10) : Int32)))])) (fun TT HH tt kk => XS.imul HH hx rfl (hb hby d_jdk_33_m_13_34) rfl kk) ?_
      rw [show ((10 : Int32) * ((-10) : Int32)) = ((-100) : Int32) from by decide]
      show Run p l e _ s m _ below meth c Z EL1 _ n0 bk h0 0 0 (mkF m 35 #[.val (.int x), .val (.int (1 : Int32)), .val (.int ((-10) : Int32)), .val (.int (1 : Int32))] [(.int ((-100) : Int32))]) _
      refine k_pure (g' := (mkF m 36 #[.val (.int x), .val (.int (1 : Int32)), .val (.int ((-100) : Int32)), .val (.int (1 : Int32))] [])) (fun TT HH tt kk => XS.istoreN HH hx rfl (hb hby d_jdk_33_m_13_35) rfl (l' := #[.val (.int x), .val (.int (1 : Int32)), .val (.int ((-100) : Int32)), .val (.int (1 : Int32))]) rfl kk) ?_
      refine k_pure (g' := (mkF m 39 #[.val (.int x), .val (.int (1 : Int32)), .val (.int ((-100) : Int32)), .val (.int (2 : Int32))] [])) (fun TT HH tt kk => XS.iinc HH hx rfl (hb hby d_jdk_33_m_13_36) rfl (l' := #[.val (.int x), .val (.int (1 : Int32)), .val (.int ((-100) : Int32)), .val (.int (2 : Int32))]) rfl kk) ?_
      refine k_pure (g' := (mkF m 16 #[.val (.int x), .val (.int (1 : Int32)), .val (.int ((-100) : Int32)), .val (.int (2 : Int32))] [])) (fun TT HH tt kk => XS.goto HH hx rfl (pc0 := 39) (pc' := 16) rfl (hb hby d_jdk_33_m_13_39) (by decide) (by decide) kk) ?_
      refine k_pure (g' := (mkF m 17 #[.val (.int x), .val (.int (1 : Int32)), .val (.int ((-100) : Int32)), .val (.int (2 : Int32))] [(.int (2 : Int32))])) (fun TT HH tt kk => XS.iloadN HH hx rfl (hb hby d_jdk_33_m_13_16) rfl kk) ?_
      refine k_pure (g' := (mkF m 19 #[.val (.int x), .val (.int (1 : Int32)), .val (.int ((-100) : Int32)), .val (.int (2 : Int32))] [(.int (10 : Int32)), (.int (2 : Int32))])) (fun TT HH tt kk => XS.bipush HH hx rfl (hb hby d_jdk_33_m_13_17) kk) ?_
      refine k_pure (g' := (mkF m 22 #[.val (.int x), .val (.int (1 : Int32)), .val (.int ((-100) : Int32)), .val (.int (2 : Int32))] [])) (fun TT HH tt kk => XS.icmpNo HH hx rfl (hb hby d_jdk_33_m_13_19) rfl (tlt (by decide : ((2 : Int32) < (10 : Int32)))).2.1 kk) ?_
      refine k_pure (g' := (mkF m 23 #[.val (.int x), .val (.int (1 : Int32)), .val (.int ((-100) : Int32)), .val (.int (2 : Int32))] [(.int x)])) (fun TT HH tt kk => XS.iloadN HH hx rfl (hb hby d_jdk_33_m_13_22) rfl kk) ?_
      refine k_pure (g' := (mkF m 24 #[.val (.int x), .val (.int (1 : Int32)), .val (.int ((-100) : Int32)), .val (.int (2 : Int32))] [(.int ((-100) : Int32)), (.int x)])) (fun TT HH tt kk => XS.iloadN HH hx rfl (hb hby d_jdk_33_m_13_23) rfl kk) ?_
      by_cases c_3 : ((-100) : Int32) < x
      · refine k_pure (g' := (mkF m 27 #[.val (.int x), .val (.int (1 : Int32)), .val (.int ((-100) : Int32)), .val (.int (2 : Int32))] [])) (fun TT HH tt kk => XS.icmpNo HH hx rfl (hb hby d_jdk_33_m_13_24) rfl (tlt c_3).2.2.2 kk) ?_
        refine k_pure (g' := (mkF m 28 #[.val (.int x), .val (.int (1 : Int32)), .val (.int ((-100) : Int32)), .val (.int (2 : Int32))] [(.int (2 : Int32))])) (fun TT HH tt kk => XS.iloadN HH hx rfl (hb hby d_jdk_33_m_13_27) rfl kk) ?_
        refine k_pure (g' := (mkF m 29 #[.val (.int x), .val (.int (1 : Int32)), .val (.int ((-100) : Int32)), .val (.int (2 : Int32))] [(.int (1 : Int32)), (.int (2 : Int32))])) (fun TT HH tt kk => XS.iloadN HH hx rfl (hb hby d_jdk_33_m_13_28) rfl kk) ?_
        refine k_pure (g' := (mkF m 30 #[.val (.int x), .val (.int (1 : Int32)), .val (.int ((-100) : Int32)), .val (.int (2 : Int32))] [(.int (3 : Int32))])) (fun TT HH tt kk => XS.iadd HH hx rfl (hb hby d_jdk_33_m_13_29) rfl kk) ?_
        exact k_retI hx hlk hret (hb hby d_jdk_33_m_13_30) (by decide) (by decide) ⟨3, rfl, rfl, rfl, by decide⟩
      · refine k_pure (g' := (mkF m 31 #[.val (.int x), .val (.int (1 : Int32)), .val (.int ((-100) : Int32)), .val (.int (2 : Int32))] [])) (fun TT HH tt kk => XS.icmpYes HH hx rfl (pc0 := 24) (pc' := 31) rfl (hb hby d_jdk_33_m_13_24) rfl (flt c_3).2.2.2 (by decide) (by decide) kk) ?_
        refine k_pure (g' := (mkF m 33 #[.val (.int x), .val (.int (1 : Int32)), .val (.int ((-100) : Int32)), .val (.int (2 : Int32))] [(.int (10 : Int32))])) (fun TT HH tt kk => XS.bipush HH hx rfl (hb hby d_jdk_33_m_13_31) kk) ?_
        refine k_pure (g' := (mkF m 34 #[.val (.int x), .val (.int (1 : Int32)), .val (.int ((-100) : Int32)), .val (.int (2 : Int32))] [(.int ((-100) : Int32)), (.int (10 : Int32))])) (fun TT HH tt kk => XS.iloadN HH hx rfl (hb hby d_jdk_33_m_13_33) rfl kk) ?_
        refine k_pure (g' := (mkF m 35 #[.val (.int x), .val (.int (1 : Int32)), .val (.int ((-100) : Int32)), .val (.int (2 : Int32))] [(.int ((10 : Int32) * ((-100) : Int32)))])) (fun TT HH tt kk => XS.imul HH hx rfl (hb hby d_jdk_33_m_13_34) rfl kk) ?_
        rw [show ((10 : Int32) * ((-100) : Int32)) = ((-1000) : Int32) from by decide]
        show Run p l e _ s m _ below meth c Z EL1 _ n0 bk h0 0 0 (mkF m 35 #[.val (.int x), .val (.int (1 : Int32)), .val (.int ((-100) : Int32)), .val (.int (2 : Int32))] [(.int ((-1000) : Int32))]) _
        refine k_pure (g' := (mkF m 36 #[.val (.int x), .val (.int (1 : Int32)), .val (.int ((-1000) : Int32)), .val (.int (2 : Int32))] [])) (fun TT HH tt kk => XS.istoreN HH hx rfl (hb hby d_jdk_33_m_13_35) rfl (l' := #[.val (.int x), .val (.int (1 : Int32)), .val (.int ((-1000) : Int32)), .val (.int (2 : Int32))]) rfl kk) ?_
        refine k_pure (g' := (mkF m 39 #[.val (.int x), .val (.int (1 : Int32)), .val (.int ((-1000) : Int32)), .val (.int (3 : Int32))] [])) (fun TT HH tt kk => XS.iinc HH hx rfl (hb hby d_jdk_33_m_13_36) rfl (l' := #[.val (.int x), .val (.int (1 : Int32)), .val (.int ((-1000) : Int32)), .val (.int (3 : Int32))]) rfl kk) ?_
        refine k_pure (g' := (mkF m 16 #[.val (.int x), .val (.int (1 : Int32)), .val (.int ((-1000) : Int32)), .val (.int (3 : Int32))] [])) (fun TT HH tt kk => XS.goto HH hx rfl (pc0 := 39) (pc' := 16) rfl (hb hby d_jdk_33_m_13_39) (by decide) (by decide) kk) ?_
        refine k_pure (g' := (mkF m 17 #[.val (.int x), .val (.int (1 : Int32)), .val (.int ((-1000) : Int32)), .val (.int (3 : Int32))] [(.int (3 : Int32))])) (fun TT HH tt kk => XS.iloadN HH hx rfl (hb hby d_jdk_33_m_13_16) rfl kk) ?_
        refine k_pure (g' := (mkF m 19 #[.val (.int x), .val (.int (1 : Int32)), .val (.int ((-1000) : Int32)), .val (.int (3 : Int32))] [(.int (10 : Int32)), (.int (3 : Int32))])) (fun TT HH tt kk => XS.bipush HH hx rfl (hb hby d_jdk_33_m_13_17) kk) ?_
        refine k_pure (g' := (mkF m 22 #[.val (.int x), .val (.int (1 : Int32)), .val (.int ((-1000) : Int32)), .val (.int (3 : Int32))] [])) (fun TT HH tt kk => XS.icmpNo HH hx rfl (hb hby d_jdk_33_m_13_19) rfl (tlt (by decide : ((3 : Int32) < (10 : Int32)))).2.1 kk) ?_
        refine k_pure (g' := (mkF m 23 #[.val (.int x), .val (.int (1 : Int32)), .val (.int ((-1000) : Int32)), .val (.int (3 : Int32))] [(.int x)])) (fun TT HH tt kk => XS.iloadN HH hx rfl (hb hby d_jdk_33_m_13_22) rfl kk) ?_
        refine k_pure (g' := (mkF m 24 #[.val (.int x), .val (.int (1 : Int32)), .val (.int ((-1000) : Int32)), .val (.int (3 : Int32))] [(.int ((-1000) : Int32)), (.int x)])) (fun TT HH tt kk => XS.iloadN HH hx rfl (hb hby d_jdk_33_m_13_23) rfl kk) ?_
        by_cases c_4 : ((-1000) : Int32) < x
        · refine k_pure (g' := (mkF m 27 #[.val (.int x), .val (.int (1 : Int32)), .val (.int ((-1000) : Int32)), .val (.int (3 : Int32))] [])) (fun TT HH tt kk => XS.icmpNo HH hx rfl (hb hby d_jdk_33_m_13_24) rfl (tlt c_4).2.2.2 kk) ?_
          refine k_pure (g' := (mkF m 28 #[.val (.int x), .val (.int (1 : Int32)), .val (.int ((-1000) : Int32)), .val (.int (3 : Int32))] [(.int (3 : Int32))])) (fun TT HH tt kk => XS.iloadN HH hx rfl (hb hby d_jdk_33_m_13_27) rfl kk) ?_
          refine k_pure (g' := (mkF m 29 #[.val (.int x), .val (.int (1 : Int32)), .val (.int ((-1000) : Int32)), .val (.int (3 : Int32))] [(.int (1 : Int32)), (.int (3 : Int32))])) (fun TT HH tt kk => XS.iloadN HH hx rfl (hb hby d_jdk_33_m_13_28) rfl kk) ?_
          refine k_pure (g' := (mkF m 30 #[.val (.int x), .val (.int (1 : Int32)), .val (.int ((-1000) : Int32)), .val (.int (3 : Int32))] [(.int (4 : Int32))])) (fun TT HH tt kk => XS.iadd HH hx rfl (hb hby d_jdk_33_m_13_29) rfl kk) ?_
          exact k_retI hx hlk hret (hb hby d_jdk_33_m_13_30) (by decide) (by decide) ⟨4, rfl, rfl, rfl, by decide⟩
        · refine k_pure (g' := (mkF m 31 #[.val (.int x), .val (.int (1 : Int32)), .val (.int ((-1000) : Int32)), .val (.int (3 : Int32))] [])) (fun TT HH tt kk => XS.icmpYes HH hx rfl (pc0 := 24) (pc' := 31) rfl (hb hby d_jdk_33_m_13_24) rfl (flt c_4).2.2.2 (by decide) (by decide) kk) ?_
          refine k_pure (g' := (mkF m 33 #[.val (.int x), .val (.int (1 : Int32)), .val (.int ((-1000) : Int32)), .val (.int (3 : Int32))] [(.int (10 : Int32))])) (fun TT HH tt kk => XS.bipush HH hx rfl (hb hby d_jdk_33_m_13_31) kk) ?_
          refine k_pure (g' := (mkF m 34 #[.val (.int x), .val (.int (1 : Int32)), .val (.int ((-1000) : Int32)), .val (.int (3 : Int32))] [(.int ((-1000) : Int32)), (.int (10 : Int32))])) (fun TT HH tt kk => XS.iloadN HH hx rfl (hb hby d_jdk_33_m_13_33) rfl kk) ?_
          refine k_pure (g' := (mkF m 35 #[.val (.int x), .val (.int (1 : Int32)), .val (.int ((-1000) : Int32)), .val (.int (3 : Int32))] [(.int ((10 : Int32) * ((-1000) : Int32)))])) (fun TT HH tt kk => XS.imul HH hx rfl (hb hby d_jdk_33_m_13_34) rfl kk) ?_
          rw [show ((10 : Int32) * ((-1000) : Int32)) = ((-10000) : Int32) from by decide]
          show Run p l e _ s m _ below meth c Z EL1 _ n0 bk h0 0 0 (mkF m 35 #[.val (.int x), .val (.int (1 : Int32)), .val (.int ((-1000) : Int32)), .val (.int (3 : Int32))] [(.int ((-10000) : Int32))]) _
          refine k_pure (g' := (mkF m 36 #[.val (.int x), .val (.int (1 : Int32)), .val (.int ((-10000) : Int32)), .val (.int (3 : Int32))] [])) (fun TT HH tt kk => XS.istoreN HH hx rfl (hb hby d_jdk_33_m_13_35) rfl (l' := #[.val (.int x), .val (.int (1 : Int32)), .val (.int ((-10000) : Int32)), .val (.int (3 : Int32))]) rfl kk) ?_
          refine k_pure (g' := (mkF m 39 #[.val (.int x), .val (.int (1 : Int32)), .val (.int ((-10000) : Int32)), .val (.int (4 : Int32))] [])) (fun TT HH tt kk => XS.iinc HH hx rfl (hb hby d_jdk_33_m_13_36) rfl (l' := #[.val (.int x), .val (.int (1 : Int32)), .val (.int ((-10000) : Int32)), .val (.int (4 : Int32))]) rfl kk) ?_
          refine k_pure (g' := (mkF m 16 #[.val (.int x), .val (.int (1 : Int32)), .val (.int ((-10000) : Int32)), .val (.int (4 : Int32))] [])) (fun TT HH tt kk => XS.goto HH hx rfl (pc0 := 39) (pc' := 16) rfl (hb hby d_jdk_33_m_13_39) (by decide) (by decide) kk) ?_
          refine k_pure (g' := (mkF m 17 #[.val (.int x), .val (.int (1 : Int32)), .val (.int ((-10000) : Int32)), .val (.int (4 : Int32))] [(.int (4 : Int32))])) (fun TT HH tt kk => XS.iloadN HH hx rfl (hb hby d_jdk_33_m_13_16) rfl kk) ?_
          refine k_pure (g' := (mkF m 19 #[.val (.int x), .val (.int (1 : Int32)), .val (.int ((-10000) : Int32)), .val (.int (4 : Int32))] [(.int (10 : Int32)), (.int (4 : Int32))])) (fun TT HH tt kk => XS.bipush HH hx rfl (hb hby d_jdk_33_m_13_17) kk) ?_
          refine k_pure (g' := (mkF m 22 #[.val (.int x), .val (.int (1 : Int32)), .val (.int ((-10000) : Int32)), .val (.int (4 : Int32))] [])) (fun TT HH tt kk => XS.icmpNo HH hx rfl (hb hby d_jdk_33_m_13_19) rfl (tlt (by decide : ((4 : Int32) < (10 : Int32)))).2.1 kk) ?_
          refine k_pure (g' := (mkF m 23 #[.val (.int x), .val (.int (1 : Int32)), .val (.int ((-10000) : Int32)), .val (.int (4 : Int32))] [(.int x)])) (fun TT HH tt kk => XS.iloadN HH hx rfl (hb hby d_jdk_33_m_13_22) rfl kk) ?_
          refine k_pure (g' := (mkF m 24 #[.val (.int x), .val (.int (1 : Int32)), .val (.int ((-10000) : Int32)), .val (.int (4 : Int32))] [(.int ((-10000) : Int32)), (.int x)])) (fun TT HH tt kk => XS.iloadN HH hx rfl (hb hby d_jdk_33_m_13_23) rfl kk) ?_
          by_cases c_5 : ((-10000) : Int32) < x
          · refine k_pure (g' := (mkF m 27 #[.val (.int x), .val (.int (1 : Int32)), .val (.int ((-10000) : Int32)), .val (.int (4 : Int32))] [])) (fun TT HH tt kk => XS.icmpNo HH hx rfl (hb hby d_jdk_33_m_13_24) rfl (tlt c_5).2.2.2 kk) ?_
            refine k_pure (g' := (mkF m 28 #[.val (.int x), .val (.int (1 : Int32)), .val (.int ((-10000) : Int32)), .val (.int (4 : Int32))] [(.int (4 : Int32))])) (fun TT HH tt kk => XS.iloadN HH hx rfl (hb hby d_jdk_33_m_13_27) rfl kk) ?_
            refine k_pure (g' := (mkF m 29 #[.val (.int x), .val (.int (1 : Int32)), .val (.int ((-10000) : Int32)), .val (.int (4 : Int32))] [(.int (1 : Int32)), (.int (4 : Int32))])) (fun TT HH tt kk => XS.iloadN HH hx rfl (hb hby d_jdk_33_m_13_28) rfl kk) ?_
            refine k_pure (g' := (mkF m 30 #[.val (.int x), .val (.int (1 : Int32)), .val (.int ((-10000) : Int32)), .val (.int (4 : Int32))] [(.int (5 : Int32))])) (fun TT HH tt kk => XS.iadd HH hx rfl (hb hby d_jdk_33_m_13_29) rfl kk) ?_
            exact k_retI hx hlk hret (hb hby d_jdk_33_m_13_30) (by decide) (by decide) ⟨5, rfl, rfl, rfl, by decide⟩
          · refine k_pure (g' := (mkF m 31 #[.val (.int x), .val (.int (1 : Int32)), .val (.int ((-10000) : Int32)), .val (.int (4 : Int32))] [])) (fun TT HH tt kk => XS.icmpYes HH hx rfl (pc0 := 24) (pc' := 31) rfl (hb hby d_jdk_33_m_13_24) rfl (flt c_5).2.2.2 (by decide) (by decide) kk) ?_
            refine k_pure (g' := (mkF m 33 #[.val (.int x), .val (.int (1 : Int32)), .val (.int ((-10000) : Int32)), .val (.int (4 : Int32))] [(.int (10 : Int32))])) (fun TT HH tt kk => XS.bipush HH hx rfl (hb hby d_jdk_33_m_13_31) kk) ?_
            refine k_pure (g' := (mkF m 34 #[.val (.int x), .val (.int (1 : Int32)), .val (.int ((-10000) : Int32)), .val (.int (4 : Int32))] [(.int ((-10000) : Int32)), (.int (10 : Int32))])) (fun TT HH tt kk => XS.iloadN HH hx rfl (hb hby d_jdk_33_m_13_33) rfl kk) ?_
            refine k_pure (g' := (mkF m 35 #[.val (.int x), .val (.int (1 : Int32)), .val (.int ((-10000) : Int32)), .val (.int (4 : Int32))] [(.int ((10 : Int32) * ((-10000) : Int32)))])) (fun TT HH tt kk => XS.imul HH hx rfl (hb hby d_jdk_33_m_13_34) rfl kk) ?_
            rw [show ((10 : Int32) * ((-10000) : Int32)) = ((-100000) : Int32) from by decide]
            show Run p l e _ s m _ below meth c Z EL1 _ n0 bk h0 0 0 (mkF m 35 #[.val (.int x), .val (.int (1 : Int32)), .val (.int ((-10000) : Int32)), .val (.int (4 : Int32))] [(.int ((-100000) : Int32))]) _
            refine k_pure (g' := (mkF m 36 #[.val (.int x), .val (.int (1 : Int32)), .val (.int ((-100000) : Int32)), .val (.int (4 : Int32))] [])) (fun TT HH tt kk => XS.istoreN HH hx rfl (hb hby d_jdk_33_m_13_35) rfl (l' := #[.val (.int x), .val (.int (1 : Int32)), .val (.int ((-100000) : Int32)), .val (.int (4 : Int32))]) rfl kk) ?_
            refine k_pure (g' := (mkF m 39 #[.val (.int x), .val (.int (1 : Int32)), .val (.int ((-100000) : Int32)), .val (.int (5 : Int32))] [])) (fun TT HH tt kk => XS.iinc HH hx rfl (hb hby d_jdk_33_m_13_36) rfl (l' := #[.val (.int x), .val (.int (1 : Int32)), .val (.int ((-100000) : Int32)), .val (.int (5 : Int32))]) rfl kk) ?_
            refine k_pure (g' := (mkF m 16 #[.val (.int x), .val (.int (1 : Int32)), .val (.int ((-100000) : Int32)), .val (.int (5 : Int32))] [])) (fun TT HH tt kk => XS.goto HH hx rfl (pc0 := 39) (pc' := 16) rfl (hb hby d_jdk_33_m_13_39) (by decide) (by decide) kk) ?_
            refine k_pure (g' := (mkF m 17 #[.val (.int x), .val (.int (1 : Int32)), .val (.int ((-100000) : Int32)), .val (.int (5 : Int32))] [(.int (5 : Int32))])) (fun TT HH tt kk => XS.iloadN HH hx rfl (hb hby d_jdk_33_m_13_16) rfl kk) ?_
            refine k_pure (g' := (mkF m 19 #[.val (.int x), .val (.int (1 : Int32)), .val (.int ((-100000) : Int32)), .val (.int (5 : Int32))] [(.int (10 : Int32)), (.int (5 : Int32))])) (fun TT HH tt kk => XS.bipush HH hx rfl (hb hby d_jdk_33_m_13_17) kk) ?_
            refine k_pure (g' := (mkF m 22 #[.val (.int x), .val (.int (1 : Int32)), .val (.int ((-100000) : Int32)), .val (.int (5 : Int32))] [])) (fun TT HH tt kk => XS.icmpNo HH hx rfl (hb hby d_jdk_33_m_13_19) rfl (tlt (by decide : ((5 : Int32) < (10 : Int32)))).2.1 kk) ?_
            refine k_pure (g' := (mkF m 23 #[.val (.int x), .val (.int (1 : Int32)), .val (.int ((-100000) : Int32)), .val (.int (5 : Int32))] [(.int x)])) (fun TT HH tt kk => XS.iloadN HH hx rfl (hb hby d_jdk_33_m_13_22) rfl kk) ?_
            refine k_pure (g' := (mkF m 24 #[.val (.int x), .val (.int (1 : Int32)), .val (.int ((-100000) : Int32)), .val (.int (5 : Int32))] [(.int ((-100000) : Int32)), (.int x)])) (fun TT HH tt kk => XS.iloadN HH hx rfl (hb hby d_jdk_33_m_13_23) rfl kk) ?_
            by_cases c_6 : ((-100000) : Int32) < x
            · refine k_pure (g' := (mkF m 27 #[.val (.int x), .val (.int (1 : Int32)), .val (.int ((-100000) : Int32)), .val (.int (5 : Int32))] [])) (fun TT HH tt kk => XS.icmpNo HH hx rfl (hb hby d_jdk_33_m_13_24) rfl (tlt c_6).2.2.2 kk) ?_
              refine k_pure (g' := (mkF m 28 #[.val (.int x), .val (.int (1 : Int32)), .val (.int ((-100000) : Int32)), .val (.int (5 : Int32))] [(.int (5 : Int32))])) (fun TT HH tt kk => XS.iloadN HH hx rfl (hb hby d_jdk_33_m_13_27) rfl kk) ?_
              refine k_pure (g' := (mkF m 29 #[.val (.int x), .val (.int (1 : Int32)), .val (.int ((-100000) : Int32)), .val (.int (5 : Int32))] [(.int (1 : Int32)), (.int (5 : Int32))])) (fun TT HH tt kk => XS.iloadN HH hx rfl (hb hby d_jdk_33_m_13_28) rfl kk) ?_
              refine k_pure (g' := (mkF m 30 #[.val (.int x), .val (.int (1 : Int32)), .val (.int ((-100000) : Int32)), .val (.int (5 : Int32))] [(.int (6 : Int32))])) (fun TT HH tt kk => XS.iadd HH hx rfl (hb hby d_jdk_33_m_13_29) rfl kk) ?_
              exact k_retI hx hlk hret (hb hby d_jdk_33_m_13_30) (by decide) (by decide) ⟨6, rfl, rfl, rfl, by decide⟩
            · refine k_pure (g' := (mkF m 31 #[.val (.int x), .val (.int (1 : Int32)), .val (.int ((-100000) : Int32)), .val (.int (5 : Int32))] [])) (fun TT HH tt kk => XS.icmpYes HH hx rfl (pc0 := 24) (pc' := 31) rfl (hb hby d_jdk_33_m_13_24) rfl (flt c_6).2.2.2 (by decide) (by decide) kk) ?_
              refine k_pure (g' := (mkF m 33 #[.val (.int x), .val (.int (1 : Int32)), .val (.int ((-100000) : Int32)), .val (.int (5 : Int32))] [(.int (10 : Int32))])) (fun TT HH tt kk => XS.bipush HH hx rfl (hb hby d_jdk_33_m_13_31) kk) ?_
              refine k_pure (g' := (mkF m 34 #[.val (.int x), .val (.int (1 : Int32)), .val (.int ((-100000) : Int32)), .val (.int (5 : Int32))] [(.int ((-100000) : Int32)), (.int (10 : Int32))])) (fun TT HH tt kk => XS.iloadN HH hx rfl (hb hby d_jdk_33_m_13_33) rfl kk) ?_
              refine k_pure (g' := (mkF m 35 #[.val (.int x), .val (.int (1 : Int32)), .val (.int ((-100000) : Int32)), .val (.int (5 : Int32))] [(.int ((10 : Int32) * ((-100000) : Int32)))])) (fun TT HH tt kk => XS.imul HH hx rfl (hb hby d_jdk_33_m_13_34) rfl kk) ?_
              rw [show ((10 : Int32) * ((-100000) : Int32)) = ((-1000000) : Int32) from by decide]
              show Run p l e _ s m _ below meth c Z EL1 _ n0 bk h0 0 0 (mkF m 35 #[.val (.int x), .val (.int (1 : Int32)), .val (.int ((-100000) : Int32)), .val (.int (5 : Int32))] [(.int ((-1000000) : Int32))]) _
              refine k_pure (g' := (mkF m 36 #[.val (.int x), .val (.int (1 : Int32)), .val (.int ((-1000000) : Int32)), .val (.int (5 : Int32))] [])) (fun TT HH tt kk => XS.istoreN HH hx rfl (hb hby d_jdk_33_m_13_35) rfl (l' := #[.val (.int x), .val (.int (1 : Int32)), .val (.int ((-1000000) : Int32)), .val (.int (5 : Int32))]) rfl kk) ?_
              refine k_pure (g' := (mkF m 39 #[.val (.int x), .val (.int (1 : Int32)), .val (.int ((-1000000) : Int32)), .val (.int (6 : Int32))] [])) (fun TT HH tt kk => XS.iinc HH hx rfl (hb hby d_jdk_33_m_13_36) rfl (l' := #[.val (.int x), .val (.int (1 : Int32)), .val (.int ((-1000000) : Int32)), .val (.int (6 : Int32))]) rfl kk) ?_
              refine k_pure (g' := (mkF m 16 #[.val (.int x), .val (.int (1 : Int32)), .val (.int ((-1000000) : Int32)), .val (.int (6 : Int32))] [])) (fun TT HH tt kk => XS.goto HH hx rfl (pc0 := 39) (pc' := 16) rfl (hb hby d_jdk_33_m_13_39) (by decide) (by decide) kk) ?_
              refine k_pure (g' := (mkF m 17 #[.val (.int x), .val (.int (1 : Int32)), .val (.int ((-1000000) : Int32)), .val (.int (6 : Int32))] [(.int (6 : Int32))])) (fun TT HH tt kk => XS.iloadN HH hx rfl (hb hby d_jdk_33_m_13_16) rfl kk) ?_
              refine k_pure (g' := (mkF m 19 #[.val (.int x), .val (.int (1 : Int32)), .val (.int ((-1000000) : Int32)), .val (.int (6 : Int32))] [(.int (10 : Int32)), (.int (6 : Int32))])) (fun TT HH tt kk => XS.bipush HH hx rfl (hb hby d_jdk_33_m_13_17) kk) ?_
              refine k_pure (g' := (mkF m 22 #[.val (.int x), .val (.int (1 : Int32)), .val (.int ((-1000000) : Int32)), .val (.int (6 : Int32))] [])) (fun TT HH tt kk => XS.icmpNo HH hx rfl (hb hby d_jdk_33_m_13_19) rfl (tlt (by decide : ((6 : Int32) < (10 : Int32)))).2.1 kk) ?_
              refine k_pure (g' := (mkF m 23 #[.val (.int x), .val (.int (1 : Int32)), .val (.int ((-1000000) : Int32)), .val (.int (6 : Int32))] [(.int x)])) (fun TT HH tt kk => XS.iloadN HH hx rfl (hb hby d_jdk_33_m_13_22) rfl kk) ?_
              refine k_pure (g' := (mkF m 24 #[.val (.int x), .val (.int (1 : Int32)), .val (.int ((-1000000) : Int32)), .val (.int (6 : Int32))] [(.int ((-1000000) : Int32)), (.int x)])) (fun TT HH tt kk => XS.iloadN HH hx rfl (hb hby d_jdk_33_m_13_23) rfl kk) ?_
              by_cases c_7 : ((-1000000) : Int32) < x
              · refine k_pure (g' := (mkF m 27 #[.val (.int x), .val (.int (1 : Int32)), .val (.int ((-1000000) : Int32)), .val (.int (6 : Int32))] [])) (fun TT HH tt kk => XS.icmpNo HH hx rfl (hb hby d_jdk_33_m_13_24) rfl (tlt c_7).2.2.2 kk) ?_
                refine k_pure (g' := (mkF m 28 #[.val (.int x), .val (.int (1 : Int32)), .val (.int ((-1000000) : Int32)), .val (.int (6 : Int32))] [(.int (6 : Int32))])) (fun TT HH tt kk => XS.iloadN HH hx rfl (hb hby d_jdk_33_m_13_27) rfl kk) ?_
                refine k_pure (g' := (mkF m 29 #[.val (.int x), .val (.int (1 : Int32)), .val (.int ((-1000000) : Int32)), .val (.int (6 : Int32))] [(.int (1 : Int32)), (.int (6 : Int32))])) (fun TT HH tt kk => XS.iloadN HH hx rfl (hb hby d_jdk_33_m_13_28) rfl kk) ?_
                refine k_pure (g' := (mkF m 30 #[.val (.int x), .val (.int (1 : Int32)), .val (.int ((-1000000) : Int32)), .val (.int (6 : Int32))] [(.int (7 : Int32))])) (fun TT HH tt kk => XS.iadd HH hx rfl (hb hby d_jdk_33_m_13_29) rfl kk) ?_
                exact k_retI hx hlk hret (hb hby d_jdk_33_m_13_30) (by decide) (by decide) ⟨7, rfl, rfl, rfl, by decide⟩
              · refine k_pure (g' := (mkF m 31 #[.val (.int x), .val (.int (1 : Int32)), .val (.int ((-1000000) : Int32)), .val (.int (6 : Int32))] [])) (fun TT HH tt kk => XS.icmpYes HH hx rfl (pc0 := 24) (pc' := 31) rfl (hb hby d_jdk_33_m_13_24) rfl (flt c_7).2.2.2 (by decide) (by decide) kk) ?_
                refine k_pure (g' := (mkF m 33 #[.val (.int x), .val (.int (1 : Int32)), .val (.int ((-1000000) : Int32)), .val (.int (6 : Int32))] [(.int (10 : Int32))])) (fun TT HH tt kk => XS.bipush HH hx rfl (hb hby d_jdk_33_m_13_31) kk) ?_
                refine k_pure (g' := (mkF m 34 #[.val (.int x), .val (.int (1 : Int32)), .val (.int ((-1000000) : Int32)), .val (.int (6 : Int32))] [(.int ((-1000000) : Int32)), (.int (10 : Int32))])) (fun TT HH tt kk => XS.iloadN HH hx rfl (hb hby d_jdk_33_m_13_33) rfl kk) ?_
                refine k_pure (g' := (mkF m 35 #[.val (.int x), .val (.int (1 : Int32)), .val (.int ((-1000000) : Int32)), .val (.int (6 : Int32))] [(.int ((10 : Int32) * ((-1000000) : Int32)))])) (fun TT HH tt kk => XS.imul HH hx rfl (hb hby d_jdk_33_m_13_34) rfl kk) ?_
                rw [show ((10 : Int32) * ((-1000000) : Int32)) = ((-10000000) : Int32) from by decide]
                show Run p l e _ s m _ below meth c Z EL1 _ n0 bk h0 0 0 (mkF m 35 #[.val (.int x), .val (.int (1 : Int32)), .val (.int ((-1000000) : Int32)), .val (.int (6 : Int32))] [(.int ((-10000000) : Int32))]) _
                refine k_pure (g' := (mkF m 36 #[.val (.int x), .val (.int (1 : Int32)), .val (.int ((-10000000) : Int32)), .val (.int (6 : Int32))] [])) (fun TT HH tt kk => XS.istoreN HH hx rfl (hb hby d_jdk_33_m_13_35) rfl (l' := #[.val (.int x), .val (.int (1 : Int32)), .val (.int ((-10000000) : Int32)), .val (.int (6 : Int32))]) rfl kk) ?_
                refine k_pure (g' := (mkF m 39 #[.val (.int x), .val (.int (1 : Int32)), .val (.int ((-10000000) : Int32)), .val (.int (7 : Int32))] [])) (fun TT HH tt kk => XS.iinc HH hx rfl (hb hby d_jdk_33_m_13_36) rfl (l' := #[.val (.int x), .val (.int (1 : Int32)), .val (.int ((-10000000) : Int32)), .val (.int (7 : Int32))]) rfl kk) ?_
                refine k_pure (g' := (mkF m 16 #[.val (.int x), .val (.int (1 : Int32)), .val (.int ((-10000000) : Int32)), .val (.int (7 : Int32))] [])) (fun TT HH tt kk => XS.goto HH hx rfl (pc0 := 39) (pc' := 16) rfl (hb hby d_jdk_33_m_13_39) (by decide) (by decide) kk) ?_
                refine k_pure (g' := (mkF m 17 #[.val (.int x), .val (.int (1 : Int32)), .val (.int ((-10000000) : Int32)), .val (.int (7 : Int32))] [(.int (7 : Int32))])) (fun TT HH tt kk => XS.iloadN HH hx rfl (hb hby d_jdk_33_m_13_16) rfl kk) ?_
                refine k_pure (g' := (mkF m 19 #[.val (.int x), .val (.int (1 : Int32)), .val (.int ((-10000000) : Int32)), .val (.int (7 : Int32))] [(.int (10 : Int32)), (.int (7 : Int32))])) (fun TT HH tt kk => XS.bipush HH hx rfl (hb hby d_jdk_33_m_13_17) kk) ?_
                refine k_pure (g' := (mkF m 22 #[.val (.int x), .val (.int (1 : Int32)), .val (.int ((-10000000) : Int32)), .val (.int (7 : Int32))] [])) (fun TT HH tt kk => XS.icmpNo HH hx rfl (hb hby d_jdk_33_m_13_19) rfl (tlt (by decide : ((7 : Int32) < (10 : Int32)))).2.1 kk) ?_
                refine k_pure (g' := (mkF m 23 #[.val (.int x), .val (.int (1 : Int32)), .val (.int ((-10000000) : Int32)), .val (.int (7 : Int32))] [(.int x)])) (fun TT HH tt kk => XS.iloadN HH hx rfl (hb hby d_jdk_33_m_13_22) rfl kk) ?_
                refine k_pure (g' := (mkF m 24 #[.val (.int x), .val (.int (1 : Int32)), .val (.int ((-10000000) : Int32)), .val (.int (7 : Int32))] [(.int ((-10000000) : Int32)), (.int x)])) (fun TT HH tt kk => XS.iloadN HH hx rfl (hb hby d_jdk_33_m_13_23) rfl kk) ?_
                by_cases c_8 : ((-10000000) : Int32) < x
                · refine k_pure (g' := (mkF m 27 #[.val (.int x), .val (.int (1 : Int32)), .val (.int ((-10000000) : Int32)), .val (.int (7 : Int32))] [])) (fun TT HH tt kk => XS.icmpNo HH hx rfl (hb hby d_jdk_33_m_13_24) rfl (tlt c_8).2.2.2 kk) ?_
                  refine k_pure (g' := (mkF m 28 #[.val (.int x), .val (.int (1 : Int32)), .val (.int ((-10000000) : Int32)), .val (.int (7 : Int32))] [(.int (7 : Int32))])) (fun TT HH tt kk => XS.iloadN HH hx rfl (hb hby d_jdk_33_m_13_27) rfl kk) ?_
                  refine k_pure (g' := (mkF m 29 #[.val (.int x), .val (.int (1 : Int32)), .val (.int ((-10000000) : Int32)), .val (.int (7 : Int32))] [(.int (1 : Int32)), (.int (7 : Int32))])) (fun TT HH tt kk => XS.iloadN HH hx rfl (hb hby d_jdk_33_m_13_28) rfl kk) ?_
                  refine k_pure (g' := (mkF m 30 #[.val (.int x), .val (.int (1 : Int32)), .val (.int ((-10000000) : Int32)), .val (.int (7 : Int32))] [(.int (8 : Int32))])) (fun TT HH tt kk => XS.iadd HH hx rfl (hb hby d_jdk_33_m_13_29) rfl kk) ?_
                  exact k_retI hx hlk hret (hb hby d_jdk_33_m_13_30) (by decide) (by decide) ⟨8, rfl, rfl, rfl, by decide⟩
                · refine k_pure (g' := (mkF m 31 #[.val (.int x), .val (.int (1 : Int32)), .val (.int ((-10000000) : Int32)), .val (.int (7 : Int32))] [])) (fun TT HH tt kk => XS.icmpYes HH hx rfl (pc0 := 24) (pc' := 31) rfl (hb hby d_jdk_33_m_13_24) rfl (flt c_8).2.2.2 (by decide) (by decide) kk) ?_
                  refine k_pure (g' := (mkF m 33 #[.val (.int x), .val (.int (1 : Int32)), .val (.int ((-10000000) : Int32)), .val (.int (7 : Int32))] [(.int (10 : Int32))])) (fun TT HH tt kk => XS.bipush HH hx rfl (hb hby d_jdk_33_m_13_31) kk) ?_
                  refine k_pure (g' := (mkF m 34 #[.val (.int x), .val (.int (1 : Int32)), .val (.int ((-10000000) : Int32)), .val (.int (7 : Int32))] [(.int ((-10000000) : Int32)), (.int (10 : Int32))])) (fun TT HH tt kk => XS.iloadN HH hx rfl (hb hby d_jdk_33_m_13_33) rfl kk) ?_
                  refine k_pure (g' := (mkF m 35 #[.val (.int x), .val (.int (1 : Int32)), .val (.int ((-10000000) : Int32)), .val (.int (7 : Int32))] [(.int ((10 : Int32) * ((-10000000) : Int32)))])) (fun TT HH tt kk => XS.imul HH hx rfl (hb hby d_jdk_33_m_13_34) rfl kk) ?_
                  rw [show ((10 : Int32) * ((-10000000) : Int32)) = ((-100000000) : Int32) from by decide]
                  show Run p l e _ s m _ below meth c Z EL1 _ n0 bk h0 0 0 (mkF m 35 #[.val (.int x), .val (.int (1 : Int32)), .val (.int ((-10000000) : Int32)), .val (.int (7 : Int32))] [(.int ((-100000000) : Int32))]) _
                  refine k_pure (g' := (mkF m 36 #[.val (.int x), .val (.int (1 : Int32)), .val (.int ((-100000000) : Int32)), .val (.int (7 : Int32))] [])) (fun TT HH tt kk => XS.istoreN HH hx rfl (hb hby d_jdk_33_m_13_35) rfl (l' := #[.val (.int x), .val (.int (1 : Int32)), .val (.int ((-100000000) : Int32)), .val (.int (7 : Int32))]) rfl kk) ?_
                  refine k_pure (g' := (mkF m 39 #[.val (.int x), .val (.int (1 : Int32)), .val (.int ((-100000000) : Int32)), .val (.int (8 : Int32))] [])) (fun TT HH tt kk => XS.iinc HH hx rfl (hb hby d_jdk_33_m_13_36) rfl (l' := #[.val (.int x), .val (.int (1 : Int32)), .val (.int ((-100000000) : Int32)), .val (.int (8 : Int32))]) rfl kk) ?_
                  refine k_pure (g' := (mkF m 16 #[.val (.int x), .val (.int (1 : Int32)), .val (.int ((-100000000) : Int32)), .val (.int (8 : Int32))] [])) (fun TT HH tt kk => XS.goto HH hx rfl (pc0 := 39) (pc' := 16) rfl (hb hby d_jdk_33_m_13_39) (by decide) (by decide) kk) ?_
                  refine k_pure (g' := (mkF m 17 #[.val (.int x), .val (.int (1 : Int32)), .val (.int ((-100000000) : Int32)), .val (.int (8 : Int32))] [(.int (8 : Int32))])) (fun TT HH tt kk => XS.iloadN HH hx rfl (hb hby d_jdk_33_m_13_16) rfl kk) ?_
                  refine k_pure (g' := (mkF m 19 #[.val (.int x), .val (.int (1 : Int32)), .val (.int ((-100000000) : Int32)), .val (.int (8 : Int32))] [(.int (10 : Int32)), (.int (8 : Int32))])) (fun TT HH tt kk => XS.bipush HH hx rfl (hb hby d_jdk_33_m_13_17) kk) ?_
                  refine k_pure (g' := (mkF m 22 #[.val (.int x), .val (.int (1 : Int32)), .val (.int ((-100000000) : Int32)), .val (.int (8 : Int32))] [])) (fun TT HH tt kk => XS.icmpNo HH hx rfl (hb hby d_jdk_33_m_13_19) rfl (tlt (by decide : ((8 : Int32) < (10 : Int32)))).2.1 kk) ?_
                  refine k_pure (g' := (mkF m 23 #[.val (.int x), .val (.int (1 : Int32)), .val (.int ((-100000000) : Int32)), .val (.int (8 : Int32))] [(.int x)])) (fun TT HH tt kk => XS.iloadN HH hx rfl (hb hby d_jdk_33_m_13_22) rfl kk) ?_
                  refine k_pure (g' := (mkF m 24 #[.val (.int x), .val (.int (1 : Int32)), .val (.int ((-100000000) : Int32)), .val (.int (8 : Int32))] [(.int ((-100000000) : Int32)), (.int x)])) (fun TT HH tt kk => XS.iloadN HH hx rfl (hb hby d_jdk_33_m_13_23) rfl kk) ?_
                  by_cases c_9 : ((-100000000) : Int32) < x
                  · refine k_pure (g' := (mkF m 27 #[.val (.int x), .val (.int (1 : Int32)), .val (.int ((-100000000) : Int32)), .val (.int (8 : Int32))] [])) (fun TT HH tt kk => XS.icmpNo HH hx rfl (hb hby d_jdk_33_m_13_24) rfl (tlt c_9).2.2.2 kk) ?_
                    refine k_pure (g' := (mkF m 28 #[.val (.int x), .val (.int (1 : Int32)), .val (.int ((-100000000) : Int32)), .val (.int (8 : Int32))] [(.int (8 : Int32))])) (fun TT HH tt kk => XS.iloadN HH hx rfl (hb hby d_jdk_33_m_13_27) rfl kk) ?_
                    refine k_pure (g' := (mkF m 29 #[.val (.int x), .val (.int (1 : Int32)), .val (.int ((-100000000) : Int32)), .val (.int (8 : Int32))] [(.int (1 : Int32)), (.int (8 : Int32))])) (fun TT HH tt kk => XS.iloadN HH hx rfl (hb hby d_jdk_33_m_13_28) rfl kk) ?_
                    refine k_pure (g' := (mkF m 30 #[.val (.int x), .val (.int (1 : Int32)), .val (.int ((-100000000) : Int32)), .val (.int (8 : Int32))] [(.int (9 : Int32))])) (fun TT HH tt kk => XS.iadd HH hx rfl (hb hby d_jdk_33_m_13_29) rfl kk) ?_
                    exact k_retI hx hlk hret (hb hby d_jdk_33_m_13_30) (by decide) (by decide) ⟨9, rfl, rfl, rfl, by decide⟩
                  · refine k_pure (g' := (mkF m 31 #[.val (.int x), .val (.int (1 : Int32)), .val (.int ((-100000000) : Int32)), .val (.int (8 : Int32))] [])) (fun TT HH tt kk => XS.icmpYes HH hx rfl (pc0 := 24) (pc' := 31) rfl (hb hby d_jdk_33_m_13_24) rfl (flt c_9).2.2.2 (by decide) (by decide) kk) ?_
                    refine k_pure (g' := (mkF m 33 #[.val (.int x), .val (.int (1 : Int32)), .val (.int ((-100000000) : Int32)), .val (.int (8 : Int32))] [(.int (10 : Int32))])) (fun TT HH tt kk => XS.bipush HH hx rfl (hb hby d_jdk_33_m_13_31) kk) ?_
                    refine k_pure (g' := (mkF m 34 #[.val (.int x), .val (.int (1 : Int32)), .val (.int ((-100000000) : Int32)), .val (.int (8 : Int32))] [(.int ((-100000000) : Int32)), (.int (10 : Int32))])) (fun TT HH tt kk => XS.iloadN HH hx rfl (hb hby d_jdk_33_m_13_33) rfl kk) ?_
                    refine k_pure (g' := (mkF m 35 #[.val (.int x), .val (.int (1 : Int32)), .val (.int ((-100000000) : Int32)), .val (.int (8 : Int32))] [(.int ((10 : Int32) * ((-100000000) : Int32)))])) (fun TT HH tt kk => XS.imul HH hx rfl (hb hby d_jdk_33_m_13_34) rfl kk) ?_
                    rw [show ((10 : Int32) * ((-100000000) : Int32)) = ((-1000000000) : Int32) from by decide]
                    show Run p l e _ s m _ below meth c Z EL1 _ n0 bk h0 0 0 (mkF m 35 #[.val (.int x), .val (.int (1 : Int32)), .val (.int ((-100000000) : Int32)), .val (.int (8 : Int32))] [(.int ((-1000000000) : Int32))]) _
                    refine k_pure (g' := (mkF m 36 #[.val (.int x), .val (.int (1 : Int32)), .val (.int ((-1000000000) : Int32)), .val (.int (8 : Int32))] [])) (fun TT HH tt kk => XS.istoreN HH hx rfl (hb hby d_jdk_33_m_13_35) rfl (l' := #[.val (.int x), .val (.int (1 : Int32)), .val (.int ((-1000000000) : Int32)), .val (.int (8 : Int32))]) rfl kk) ?_
                    refine k_pure (g' := (mkF m 39 #[.val (.int x), .val (.int (1 : Int32)), .val (.int ((-1000000000) : Int32)), .val (.int (9 : Int32))] [])) (fun TT HH tt kk => XS.iinc HH hx rfl (hb hby d_jdk_33_m_13_36) rfl (l' := #[.val (.int x), .val (.int (1 : Int32)), .val (.int ((-1000000000) : Int32)), .val (.int (9 : Int32))]) rfl kk) ?_
                    refine k_pure (g' := (mkF m 16 #[.val (.int x), .val (.int (1 : Int32)), .val (.int ((-1000000000) : Int32)), .val (.int (9 : Int32))] [])) (fun TT HH tt kk => XS.goto HH hx rfl (pc0 := 39) (pc' := 16) rfl (hb hby d_jdk_33_m_13_39) (by decide) (by decide) kk) ?_
                    refine k_pure (g' := (mkF m 17 #[.val (.int x), .val (.int (1 : Int32)), .val (.int ((-1000000000) : Int32)), .val (.int (9 : Int32))] [(.int (9 : Int32))])) (fun TT HH tt kk => XS.iloadN HH hx rfl (hb hby d_jdk_33_m_13_16) rfl kk) ?_
                    refine k_pure (g' := (mkF m 19 #[.val (.int x), .val (.int (1 : Int32)), .val (.int ((-1000000000) : Int32)), .val (.int (9 : Int32))] [(.int (10 : Int32)), (.int (9 : Int32))])) (fun TT HH tt kk => XS.bipush HH hx rfl (hb hby d_jdk_33_m_13_17) kk) ?_
                    refine k_pure (g' := (mkF m 22 #[.val (.int x), .val (.int (1 : Int32)), .val (.int ((-1000000000) : Int32)), .val (.int (9 : Int32))] [])) (fun TT HH tt kk => XS.icmpNo HH hx rfl (hb hby d_jdk_33_m_13_19) rfl (tlt (by decide : ((9 : Int32) < (10 : Int32)))).2.1 kk) ?_
                    refine k_pure (g' := (mkF m 23 #[.val (.int x), .val (.int (1 : Int32)), .val (.int ((-1000000000) : Int32)), .val (.int (9 : Int32))] [(.int x)])) (fun TT HH tt kk => XS.iloadN HH hx rfl (hb hby d_jdk_33_m_13_22) rfl kk) ?_
                    refine k_pure (g' := (mkF m 24 #[.val (.int x), .val (.int (1 : Int32)), .val (.int ((-1000000000) : Int32)), .val (.int (9 : Int32))] [(.int ((-1000000000) : Int32)), (.int x)])) (fun TT HH tt kk => XS.iloadN HH hx rfl (hb hby d_jdk_33_m_13_23) rfl kk) ?_
                    by_cases c_10 : ((-1000000000) : Int32) < x
                    · refine k_pure (g' := (mkF m 27 #[.val (.int x), .val (.int (1 : Int32)), .val (.int ((-1000000000) : Int32)), .val (.int (9 : Int32))] [])) (fun TT HH tt kk => XS.icmpNo HH hx rfl (hb hby d_jdk_33_m_13_24) rfl (tlt c_10).2.2.2 kk) ?_
                      refine k_pure (g' := (mkF m 28 #[.val (.int x), .val (.int (1 : Int32)), .val (.int ((-1000000000) : Int32)), .val (.int (9 : Int32))] [(.int (9 : Int32))])) (fun TT HH tt kk => XS.iloadN HH hx rfl (hb hby d_jdk_33_m_13_27) rfl kk) ?_
                      refine k_pure (g' := (mkF m 29 #[.val (.int x), .val (.int (1 : Int32)), .val (.int ((-1000000000) : Int32)), .val (.int (9 : Int32))] [(.int (1 : Int32)), (.int (9 : Int32))])) (fun TT HH tt kk => XS.iloadN HH hx rfl (hb hby d_jdk_33_m_13_28) rfl kk) ?_
                      refine k_pure (g' := (mkF m 30 #[.val (.int x), .val (.int (1 : Int32)), .val (.int ((-1000000000) : Int32)), .val (.int (9 : Int32))] [(.int (10 : Int32))])) (fun TT HH tt kk => XS.iadd HH hx rfl (hb hby d_jdk_33_m_13_29) rfl kk) ?_
                      exact k_retI hx hlk hret (hb hby d_jdk_33_m_13_30) (by decide) (by decide) ⟨10, rfl, rfl, rfl, by decide⟩
                    · refine k_pure (g' := (mkF m 31 #[.val (.int x), .val (.int (1 : Int32)), .val (.int ((-1000000000) : Int32)), .val (.int (9 : Int32))] [])) (fun TT HH tt kk => XS.icmpYes HH hx rfl (pc0 := 24) (pc' := 31) rfl (hb hby d_jdk_33_m_13_24) rfl (flt c_10).2.2.2 (by decide) (by decide) kk) ?_
                      refine k_pure (g' := (mkF m 33 #[.val (.int x), .val (.int (1 : Int32)), .val (.int ((-1000000000) : Int32)), .val (.int (9 : Int32))] [(.int (10 : Int32))])) (fun TT HH tt kk => XS.bipush HH hx rfl (hb hby d_jdk_33_m_13_31) kk) ?_
                      refine k_pure (g' := (mkF m 34 #[.val (.int x), .val (.int (1 : Int32)), .val (.int ((-1000000000) : Int32)), .val (.int (9 : Int32))] [(.int ((-1000000000) : Int32)), (.int (10 : Int32))])) (fun TT HH tt kk => XS.iloadN HH hx rfl (hb hby d_jdk_33_m_13_33) rfl kk) ?_
                      refine k_pure (g' := (mkF m 35 #[.val (.int x), .val (.int (1 : Int32)), .val (.int ((-1000000000) : Int32)), .val (.int (9 : Int32))] [(.int ((10 : Int32) * ((-1000000000) : Int32)))])) (fun TT HH tt kk => XS.imul HH hx rfl (hb hby d_jdk_33_m_13_34) rfl kk) ?_
                      rw [show ((10 : Int32) * ((-1000000000) : Int32)) = ((-1410065408) : Int32) from by decide]
                      show Run p l e _ s m _ below meth c Z EL1 _ n0 bk h0 0 0 (mkF m 35 #[.val (.int x), .val (.int (1 : Int32)), .val (.int ((-1000000000) : Int32)), .val (.int (9 : Int32))] [(.int ((-1410065408) : Int32))]) _
                      refine k_pure (g' := (mkF m 36 #[.val (.int x), .val (.int (1 : Int32)), .val (.int ((-1410065408) : Int32)), .val (.int (9 : Int32))] [])) (fun TT HH tt kk => XS.istoreN HH hx rfl (hb hby d_jdk_33_m_13_35) rfl (l' := #[.val (.int x), .val (.int (1 : Int32)), .val (.int ((-1410065408) : Int32)), .val (.int (9 : Int32))]) rfl kk) ?_
                      refine k_pure (g' := (mkF m 39 #[.val (.int x), .val (.int (1 : Int32)), .val (.int ((-1410065408) : Int32)), .val (.int (10 : Int32))] [])) (fun TT HH tt kk => XS.iinc HH hx rfl (hb hby d_jdk_33_m_13_36) rfl (l' := #[.val (.int x), .val (.int (1 : Int32)), .val (.int ((-1410065408) : Int32)), .val (.int (10 : Int32))]) rfl kk) ?_
                      refine k_pure (g' := (mkF m 16 #[.val (.int x), .val (.int (1 : Int32)), .val (.int ((-1410065408) : Int32)), .val (.int (10 : Int32))] [])) (fun TT HH tt kk => XS.goto HH hx rfl (pc0 := 39) (pc' := 16) rfl (hb hby d_jdk_33_m_13_39) (by decide) (by decide) kk) ?_
                      refine k_pure (g' := (mkF m 17 #[.val (.int x), .val (.int (1 : Int32)), .val (.int ((-1410065408) : Int32)), .val (.int (10 : Int32))] [(.int (10 : Int32))])) (fun TT HH tt kk => XS.iloadN HH hx rfl (hb hby d_jdk_33_m_13_16) rfl kk) ?_
                      refine k_pure (g' := (mkF m 19 #[.val (.int x), .val (.int (1 : Int32)), .val (.int ((-1410065408) : Int32)), .val (.int (10 : Int32))] [(.int (10 : Int32)), (.int (10 : Int32))])) (fun TT HH tt kk => XS.bipush HH hx rfl (hb hby d_jdk_33_m_13_17) kk) ?_
                      refine k_pure (g' := (mkF m 42 #[.val (.int x), .val (.int (1 : Int32)), .val (.int ((-1410065408) : Int32)), .val (.int (10 : Int32))] [])) (fun TT HH tt kk => XS.icmpYes HH hx rfl (pc0 := 19) (pc' := 42) rfl (hb hby d_jdk_33_m_13_19) rfl (flt (by decide : ¬ ((10 : Int32) < (10 : Int32)))).2.1 (by decide) (by decide) kk) ?_
                      refine k_pure (g' := (mkF m 44 #[.val (.int x), .val (.int (1 : Int32)), .val (.int ((-1410065408) : Int32)), .val (.int (10 : Int32))] [(.int (10 : Int32))])) (fun TT HH tt kk => XS.bipush HH hx rfl (hb hby d_jdk_33_m_13_42) kk) ?_
                      refine k_pure (g' := (mkF m 45 #[.val (.int x), .val (.int (1 : Int32)), .val (.int ((-1410065408) : Int32)), .val (.int (10 : Int32))] [(.int (1 : Int32)), (.int (10 : Int32))])) (fun TT HH tt kk => XS.iloadN HH hx rfl (hb hby d_jdk_33_m_13_44) rfl kk) ?_
                      refine k_pure (g' := (mkF m 46 #[.val (.int x), .val (.int (1 : Int32)), .val (.int ((-1410065408) : Int32)), .val (.int (10 : Int32))] [(.int (11 : Int32))])) (fun TT HH tt kk => XS.iadd HH hx rfl (hb hby d_jdk_33_m_13_45) rfl kk) ?_
                      exact k_retI hx hlk hret (hb hby d_jdk_33_m_13_46) (by decide) (by decide) ⟨11, rfl, rfl, rfl, by decide⟩
  · refine k_pure (g' := (mkF m 6 #[.val (.int x), .val (.int (1 : Int32)), .unset, .unset] [])) (fun TT HH tt kk => XS.ifNo HH hx rfl (hb hby d_jdk_33_m_13_3) rfl ((if0 _ _).trans (flt c_1).1) kk) ?_
    refine k_pure (g' := (mkF m 7 #[.val (.int x), .val (.int (1 : Int32)), .unset, .unset] [(.int (0 : Int32))])) (fun TT HH tt kk => XS.iconst HH hx rfl (hb hby d_jdk_33_m_13_6) kk) ?_
    refine k_pure (g' := (mkF m 8 #[.val (.int x), .val (.int (0 : Int32)), .unset, .unset] [])) (fun TT HH tt kk => XS.istoreN HH hx rfl (hb hby d_jdk_33_m_13_7) rfl (l' := #[.val (.int x), .val (.int (0 : Int32)), .unset, .unset]) rfl kk) ?_
    refine k_pure (g' := (mkF m 9 #[.val (.int x), .val (.int (0 : Int32)), .unset, .unset] [(.int x)])) (fun TT HH tt kk => XS.iloadN HH hx rfl (hb hby d_jdk_33_m_13_8) rfl kk) ?_
    refine k_pure (g' := (mkF m 10 #[.val (.int x), .val (.int (0 : Int32)), .unset, .unset] [(.int (-x))])) (fun TT HH tt kk => XS.ineg HH hx rfl (hb hby d_jdk_33_m_13_9) rfl kk) ?_
    refine k_pure (g' := (mkF m 11 #[.val (.int (-x)), .val (.int (0 : Int32)), .unset, .unset] [])) (fun TT HH tt kk => XS.istoreN HH hx rfl (hb hby d_jdk_33_m_13_10) rfl (l' := #[.val (.int (-x)), .val (.int (0 : Int32)), .unset, .unset]) rfl kk) ?_
    refine k_pure (g' := (mkF m 13 #[.val (.int (-x)), .val (.int (0 : Int32)), .unset, .unset] [(.int ((-10) : Int32))])) (fun TT HH tt kk => XS.bipush HH hx rfl (hb hby d_jdk_33_m_13_11) kk) ?_
    refine k_pure (g' := (mkF m 14 #[.val (.int (-x)), .val (.int (0 : Int32)), .val (.int ((-10) : Int32)), .unset] [])) (fun TT HH tt kk => XS.istoreN HH hx rfl (hb hby d_jdk_33_m_13_13) rfl (l' := #[.val (.int (-x)), .val (.int (0 : Int32)), .val (.int ((-10) : Int32)), .unset]) rfl kk) ?_
    refine k_pure (g' := (mkF m 15 #[.val (.int (-x)), .val (.int (0 : Int32)), .val (.int ((-10) : Int32)), .unset] [(.int (1 : Int32))])) (fun TT HH tt kk => XS.iconst HH hx rfl (hb hby d_jdk_33_m_13_14) kk) ?_
    refine k_pure (g' := (mkF m 16 #[.val (.int (-x)), .val (.int (0 : Int32)), .val (.int ((-10) : Int32)), .val (.int (1 : Int32))] [])) (fun TT HH tt kk => XS.istoreN HH hx rfl (hb hby d_jdk_33_m_13_15) rfl (l' := #[.val (.int (-x)), .val (.int (0 : Int32)), .val (.int ((-10) : Int32)), .val (.int (1 : Int32))]) rfl kk) ?_
    refine k_pure (g' := (mkF m 17 #[.val (.int (-x)), .val (.int (0 : Int32)), .val (.int ((-10) : Int32)), .val (.int (1 : Int32))] [(.int (1 : Int32))])) (fun TT HH tt kk => XS.iloadN HH hx rfl (hb hby d_jdk_33_m_13_16) rfl kk) ?_
    refine k_pure (g' := (mkF m 19 #[.val (.int (-x)), .val (.int (0 : Int32)), .val (.int ((-10) : Int32)), .val (.int (1 : Int32))] [(.int (10 : Int32)), (.int (1 : Int32))])) (fun TT HH tt kk => XS.bipush HH hx rfl (hb hby d_jdk_33_m_13_17) kk) ?_
    refine k_pure (g' := (mkF m 22 #[.val (.int (-x)), .val (.int (0 : Int32)), .val (.int ((-10) : Int32)), .val (.int (1 : Int32))] [])) (fun TT HH tt kk => XS.icmpNo HH hx rfl (hb hby d_jdk_33_m_13_19) rfl (tlt (by decide : ((1 : Int32) < (10 : Int32)))).2.1 kk) ?_
    refine k_pure (g' := (mkF m 23 #[.val (.int (-x)), .val (.int (0 : Int32)), .val (.int ((-10) : Int32)), .val (.int (1 : Int32))] [(.int (-x))])) (fun TT HH tt kk => XS.iloadN HH hx rfl (hb hby d_jdk_33_m_13_22) rfl kk) ?_
    refine k_pure (g' := (mkF m 24 #[.val (.int (-x)), .val (.int (0 : Int32)), .val (.int ((-10) : Int32)), .val (.int (1 : Int32))] [(.int ((-10) : Int32)), (.int (-x))])) (fun TT HH tt kk => XS.iloadN HH hx rfl (hb hby d_jdk_33_m_13_23) rfl kk) ?_
    by_cases c_11 : ((-10) : Int32) < (-x)
    · refine k_pure (g' := (mkF m 27 #[.val (.int (-x)), .val (.int (0 : Int32)), .val (.int ((-10) : Int32)), .val (.int (1 : Int32))] [])) (fun TT HH tt kk => XS.icmpNo HH hx rfl (hb hby d_jdk_33_m_13_24) rfl (tlt c_11).2.2.2 kk) ?_
      refine k_pure (g' := (mkF m 28 #[.val (.int (-x)), .val (.int (0 : Int32)), .val (.int ((-10) : Int32)), .val (.int (1 : Int32))] [(.int (1 : Int32))])) (fun TT HH tt kk => XS.iloadN HH hx rfl (hb hby d_jdk_33_m_13_27) rfl kk) ?_
      refine k_pure (g' := (mkF m 29 #[.val (.int (-x)), .val (.int (0 : Int32)), .val (.int ((-10) : Int32)), .val (.int (1 : Int32))] [(.int (0 : Int32)), (.int (1 : Int32))])) (fun TT HH tt kk => XS.iloadN HH hx rfl (hb hby d_jdk_33_m_13_28) rfl kk) ?_
      refine k_pure (g' := (mkF m 30 #[.val (.int (-x)), .val (.int (0 : Int32)), .val (.int ((-10) : Int32)), .val (.int (1 : Int32))] [(.int (1 : Int32))])) (fun TT HH tt kk => XS.iadd HH hx rfl (hb hby d_jdk_33_m_13_29) rfl kk) ?_
      exact k_retI hx hlk hret (hb hby d_jdk_33_m_13_30) (by decide) (by decide) ⟨1, rfl, rfl, rfl, by decide⟩
    · refine k_pure (g' := (mkF m 31 #[.val (.int (-x)), .val (.int (0 : Int32)), .val (.int ((-10) : Int32)), .val (.int (1 : Int32))] [])) (fun TT HH tt kk => XS.icmpYes HH hx rfl (pc0 := 24) (pc' := 31) rfl (hb hby d_jdk_33_m_13_24) rfl (flt c_11).2.2.2 (by decide) (by decide) kk) ?_
      refine k_pure (g' := (mkF m 33 #[.val (.int (-x)), .val (.int (0 : Int32)), .val (.int ((-10) : Int32)), .val (.int (1 : Int32))] [(.int (10 : Int32))])) (fun TT HH tt kk => XS.bipush HH hx rfl (hb hby d_jdk_33_m_13_31) kk) ?_
      refine k_pure (g' := (mkF m 34 #[.val (.int (-x)), .val (.int (0 : Int32)), .val (.int ((-10) : Int32)), .val (.int (1 : Int32))] [(.int ((-10) : Int32)), (.int (10 : Int32))])) (fun TT HH tt kk => XS.iloadN HH hx rfl (hb hby d_jdk_33_m_13_33) rfl kk) ?_
      refine k_pure (g' := (mkF m 35 #[.val (.int (-x)), .val (.int (0 : Int32)), .val (.int ((-10) : Int32)), .val (.int (1 : Int32))] [(.int ((10 : Int32) * ((-10) : Int32)))])) (fun TT HH tt kk => XS.imul HH hx rfl (hb hby d_jdk_33_m_13_34) rfl kk) ?_
      rw [show ((10 : Int32) * ((-10) : Int32)) = ((-100) : Int32) from by decide]
      show Run p l e _ s m _ below meth c Z EL1 _ n0 bk h0 0 0 (mkF m 35 #[.val (.int (-x)), .val (.int (0 : Int32)), .val (.int ((-10) : Int32)), .val (.int (1 : Int32))] [(.int ((-100) : Int32))]) _
      refine k_pure (g' := (mkF m 36 #[.val (.int (-x)), .val (.int (0 : Int32)), .val (.int ((-100) : Int32)), .val (.int (1 : Int32))] [])) (fun TT HH tt kk => XS.istoreN HH hx rfl (hb hby d_jdk_33_m_13_35) rfl (l' := #[.val (.int (-x)), .val (.int (0 : Int32)), .val (.int ((-100) : Int32)), .val (.int (1 : Int32))]) rfl kk) ?_
      refine k_pure (g' := (mkF m 39 #[.val (.int (-x)), .val (.int (0 : Int32)), .val (.int ((-100) : Int32)), .val (.int (2 : Int32))] [])) (fun TT HH tt kk => XS.iinc HH hx rfl (hb hby d_jdk_33_m_13_36) rfl (l' := #[.val (.int (-x)), .val (.int (0 : Int32)), .val (.int ((-100) : Int32)), .val (.int (2 : Int32))]) rfl kk) ?_
      refine k_pure (g' := (mkF m 16 #[.val (.int (-x)), .val (.int (0 : Int32)), .val (.int ((-100) : Int32)), .val (.int (2 : Int32))] [])) (fun TT HH tt kk => XS.goto HH hx rfl (pc0 := 39) (pc' := 16) rfl (hb hby d_jdk_33_m_13_39) (by decide) (by decide) kk) ?_
      refine k_pure (g' := (mkF m 17 #[.val (.int (-x)), .val (.int (0 : Int32)), .val (.int ((-100) : Int32)), .val (.int (2 : Int32))] [(.int (2 : Int32))])) (fun TT HH tt kk => XS.iloadN HH hx rfl (hb hby d_jdk_33_m_13_16) rfl kk) ?_
      refine k_pure (g' := (mkF m 19 #[.val (.int (-x)), .val (.int (0 : Int32)), .val (.int ((-100) : Int32)), .val (.int (2 : Int32))] [(.int (10 : Int32)), (.int (2 : Int32))])) (fun TT HH tt kk => XS.bipush HH hx rfl (hb hby d_jdk_33_m_13_17) kk) ?_
      refine k_pure (g' := (mkF m 22 #[.val (.int (-x)), .val (.int (0 : Int32)), .val (.int ((-100) : Int32)), .val (.int (2 : Int32))] [])) (fun TT HH tt kk => XS.icmpNo HH hx rfl (hb hby d_jdk_33_m_13_19) rfl (tlt (by decide : ((2 : Int32) < (10 : Int32)))).2.1 kk) ?_
      refine k_pure (g' := (mkF m 23 #[.val (.int (-x)), .val (.int (0 : Int32)), .val (.int ((-100) : Int32)), .val (.int (2 : Int32))] [(.int (-x))])) (fun TT HH tt kk => XS.iloadN HH hx rfl (hb hby d_jdk_33_m_13_22) rfl kk) ?_
      refine k_pure (g' := (mkF m 24 #[.val (.int (-x)), .val (.int (0 : Int32)), .val (.int ((-100) : Int32)), .val (.int (2 : Int32))] [(.int ((-100) : Int32)), (.int (-x))])) (fun TT HH tt kk => XS.iloadN HH hx rfl (hb hby d_jdk_33_m_13_23) rfl kk) ?_
      by_cases c_12 : ((-100) : Int32) < (-x)
      · refine k_pure (g' := (mkF m 27 #[.val (.int (-x)), .val (.int (0 : Int32)), .val (.int ((-100) : Int32)), .val (.int (2 : Int32))] [])) (fun TT HH tt kk => XS.icmpNo HH hx rfl (hb hby d_jdk_33_m_13_24) rfl (tlt c_12).2.2.2 kk) ?_
        refine k_pure (g' := (mkF m 28 #[.val (.int (-x)), .val (.int (0 : Int32)), .val (.int ((-100) : Int32)), .val (.int (2 : Int32))] [(.int (2 : Int32))])) (fun TT HH tt kk => XS.iloadN HH hx rfl (hb hby d_jdk_33_m_13_27) rfl kk) ?_
        refine k_pure (g' := (mkF m 29 #[.val (.int (-x)), .val (.int (0 : Int32)), .val (.int ((-100) : Int32)), .val (.int (2 : Int32))] [(.int (0 : Int32)), (.int (2 : Int32))])) (fun TT HH tt kk => XS.iloadN HH hx rfl (hb hby d_jdk_33_m_13_28) rfl kk) ?_
        refine k_pure (g' := (mkF m 30 #[.val (.int (-x)), .val (.int (0 : Int32)), .val (.int ((-100) : Int32)), .val (.int (2 : Int32))] [(.int (2 : Int32))])) (fun TT HH tt kk => XS.iadd HH hx rfl (hb hby d_jdk_33_m_13_29) rfl kk) ?_
        exact k_retI hx hlk hret (hb hby d_jdk_33_m_13_30) (by decide) (by decide) ⟨2, rfl, rfl, rfl, by decide⟩
      · refine k_pure (g' := (mkF m 31 #[.val (.int (-x)), .val (.int (0 : Int32)), .val (.int ((-100) : Int32)), .val (.int (2 : Int32))] [])) (fun TT HH tt kk => XS.icmpYes HH hx rfl (pc0 := 24) (pc' := 31) rfl (hb hby d_jdk_33_m_13_24) rfl (flt c_12).2.2.2 (by decide) (by decide) kk) ?_
        refine k_pure (g' := (mkF m 33 #[.val (.int (-x)), .val (.int (0 : Int32)), .val (.int ((-100) : Int32)), .val (.int (2 : Int32))] [(.int (10 : Int32))])) (fun TT HH tt kk => XS.bipush HH hx rfl (hb hby d_jdk_33_m_13_31) kk) ?_
        refine k_pure (g' := (mkF m 34 #[.val (.int (-x)), .val (.int (0 : Int32)), .val (.int ((-100) : Int32)), .val (.int (2 : Int32))] [(.int ((-100) : Int32)), (.int (10 : Int32))])) (fun TT HH tt kk => XS.iloadN HH hx rfl (hb hby d_jdk_33_m_13_33) rfl kk) ?_
        refine k_pure (g' := (mkF m 35 #[.val (.int (-x)), .val (.int (0 : Int32)), .val (.int ((-100) : Int32)), .val (.int (2 : Int32))] [(.int ((10 : Int32) * ((-100) : Int32)))])) (fun TT HH tt kk => XS.imul HH hx rfl (hb hby d_jdk_33_m_13_34) rfl kk) ?_
        rw [show ((10 : Int32) * ((-100) : Int32)) = ((-1000) : Int32) from by decide]
        show Run p l e _ s m _ below meth c Z EL1 _ n0 bk h0 0 0 (mkF m 35 #[.val (.int (-x)), .val (.int (0 : Int32)), .val (.int ((-100) : Int32)), .val (.int (2 : Int32))] [(.int ((-1000) : Int32))]) _
        refine k_pure (g' := (mkF m 36 #[.val (.int (-x)), .val (.int (0 : Int32)), .val (.int ((-1000) : Int32)), .val (.int (2 : Int32))] [])) (fun TT HH tt kk => XS.istoreN HH hx rfl (hb hby d_jdk_33_m_13_35) rfl (l' := #[.val (.int (-x)), .val (.int (0 : Int32)), .val (.int ((-1000) : Int32)), .val (.int (2 : Int32))]) rfl kk) ?_
        refine k_pure (g' := (mkF m 39 #[.val (.int (-x)), .val (.int (0 : Int32)), .val (.int ((-1000) : Int32)), .val (.int (3 : Int32))] [])) (fun TT HH tt kk => XS.iinc HH hx rfl (hb hby d_jdk_33_m_13_36) rfl (l' := #[.val (.int (-x)), .val (.int (0 : Int32)), .val (.int ((-1000) : Int32)), .val (.int (3 : Int32))]) rfl kk) ?_
        refine k_pure (g' := (mkF m 16 #[.val (.int (-x)), .val (.int (0 : Int32)), .val (.int ((-1000) : Int32)), .val (.int (3 : Int32))] [])) (fun TT HH tt kk => XS.goto HH hx rfl (pc0 := 39) (pc' := 16) rfl (hb hby d_jdk_33_m_13_39) (by decide) (by decide) kk) ?_
        refine k_pure (g' := (mkF m 17 #[.val (.int (-x)), .val (.int (0 : Int32)), .val (.int ((-1000) : Int32)), .val (.int (3 : Int32))] [(.int (3 : Int32))])) (fun TT HH tt kk => XS.iloadN HH hx rfl (hb hby d_jdk_33_m_13_16) rfl kk) ?_
        refine k_pure (g' := (mkF m 19 #[.val (.int (-x)), .val (.int (0 : Int32)), .val (.int ((-1000) : Int32)), .val (.int (3 : Int32))] [(.int (10 : Int32)), (.int (3 : Int32))])) (fun TT HH tt kk => XS.bipush HH hx rfl (hb hby d_jdk_33_m_13_17) kk) ?_
        refine k_pure (g' := (mkF m 22 #[.val (.int (-x)), .val (.int (0 : Int32)), .val (.int ((-1000) : Int32)), .val (.int (3 : Int32))] [])) (fun TT HH tt kk => XS.icmpNo HH hx rfl (hb hby d_jdk_33_m_13_19) rfl (tlt (by decide : ((3 : Int32) < (10 : Int32)))).2.1 kk) ?_
        refine k_pure (g' := (mkF m 23 #[.val (.int (-x)), .val (.int (0 : Int32)), .val (.int ((-1000) : Int32)), .val (.int (3 : Int32))] [(.int (-x))])) (fun TT HH tt kk => XS.iloadN HH hx rfl (hb hby d_jdk_33_m_13_22) rfl kk) ?_
        refine k_pure (g' := (mkF m 24 #[.val (.int (-x)), .val (.int (0 : Int32)), .val (.int ((-1000) : Int32)), .val (.int (3 : Int32))] [(.int ((-1000) : Int32)), (.int (-x))])) (fun TT HH tt kk => XS.iloadN HH hx rfl (hb hby d_jdk_33_m_13_23) rfl kk) ?_
        by_cases c_13 : ((-1000) : Int32) < (-x)
        · refine k_pure (g' := (mkF m 27 #[.val (.int (-x)), .val (.int (0 : Int32)), .val (.int ((-1000) : Int32)), .val (.int (3 : Int32))] [])) (fun TT HH tt kk => XS.icmpNo HH hx rfl (hb hby d_jdk_33_m_13_24) rfl (tlt c_13).2.2.2 kk) ?_
          refine k_pure (g' := (mkF m 28 #[.val (.int (-x)), .val (.int (0 : Int32)), .val (.int ((-1000) : Int32)), .val (.int (3 : Int32))] [(.int (3 : Int32))])) (fun TT HH tt kk => XS.iloadN HH hx rfl (hb hby d_jdk_33_m_13_27) rfl kk) ?_
          refine k_pure (g' := (mkF m 29 #[.val (.int (-x)), .val (.int (0 : Int32)), .val (.int ((-1000) : Int32)), .val (.int (3 : Int32))] [(.int (0 : Int32)), (.int (3 : Int32))])) (fun TT HH tt kk => XS.iloadN HH hx rfl (hb hby d_jdk_33_m_13_28) rfl kk) ?_
          refine k_pure (g' := (mkF m 30 #[.val (.int (-x)), .val (.int (0 : Int32)), .val (.int ((-1000) : Int32)), .val (.int (3 : Int32))] [(.int (3 : Int32))])) (fun TT HH tt kk => XS.iadd HH hx rfl (hb hby d_jdk_33_m_13_29) rfl kk) ?_
          exact k_retI hx hlk hret (hb hby d_jdk_33_m_13_30) (by decide) (by decide) ⟨3, rfl, rfl, rfl, by decide⟩
        · refine k_pure (g' := (mkF m 31 #[.val (.int (-x)), .val (.int (0 : Int32)), .val (.int ((-1000) : Int32)), .val (.int (3 : Int32))] [])) (fun TT HH tt kk => XS.icmpYes HH hx rfl (pc0 := 24) (pc' := 31) rfl (hb hby d_jdk_33_m_13_24) rfl (flt c_13).2.2.2 (by decide) (by decide) kk) ?_
          refine k_pure (g' := (mkF m 33 #[.val (.int (-x)), .val (.int (0 : Int32)), .val (.int ((-1000) : Int32)), .val (.int (3 : Int32))] [(.int (10 : Int32))])) (fun TT HH tt kk => XS.bipush HH hx rfl (hb hby d_jdk_33_m_13_31) kk) ?_
          refine k_pure (g' := (mkF m 34 #[.val (.int (-x)), .val (.int (0 : Int32)), .val (.int ((-1000) : Int32)), .val (.int (3 : Int32))] [(.int ((-1000) : Int32)), (.int (10 : Int32))])) (fun TT HH tt kk => XS.iloadN HH hx rfl (hb hby d_jdk_33_m_13_33) rfl kk) ?_
          refine k_pure (g' := (mkF m 35 #[.val (.int (-x)), .val (.int (0 : Int32)), .val (.int ((-1000) : Int32)), .val (.int (3 : Int32))] [(.int ((10 : Int32) * ((-1000) : Int32)))])) (fun TT HH tt kk => XS.imul HH hx rfl (hb hby d_jdk_33_m_13_34) rfl kk) ?_
          rw [show ((10 : Int32) * ((-1000) : Int32)) = ((-10000) : Int32) from by decide]
          show Run p l e _ s m _ below meth c Z EL1 _ n0 bk h0 0 0 (mkF m 35 #[.val (.int (-x)), .val (.int (0 : Int32)), .val (.int ((-1000) : Int32)), .val (.int (3 : Int32))] [(.int ((-10000) : Int32))]) _
          refine k_pure (g' := (mkF m 36 #[.val (.int (-x)), .val (.int (0 : Int32)), .val (.int ((-10000) : Int32)), .val (.int (3 : Int32))] [])) (fun TT HH tt kk => XS.istoreN HH hx rfl (hb hby d_jdk_33_m_13_35) rfl (l' := #[.val (.int (-x)), .val (.int (0 : Int32)), .val (.int ((-10000) : Int32)), .val (.int (3 : Int32))]) rfl kk) ?_
          refine k_pure (g' := (mkF m 39 #[.val (.int (-x)), .val (.int (0 : Int32)), .val (.int ((-10000) : Int32)), .val (.int (4 : Int32))] [])) (fun TT HH tt kk => XS.iinc HH hx rfl (hb hby d_jdk_33_m_13_36) rfl (l' := #[.val (.int (-x)), .val (.int (0 : Int32)), .val (.int ((-10000) : Int32)), .val (.int (4 : Int32))]) rfl kk) ?_
          refine k_pure (g' := (mkF m 16 #[.val (.int (-x)), .val (.int (0 : Int32)), .val (.int ((-10000) : Int32)), .val (.int (4 : Int32))] [])) (fun TT HH tt kk => XS.goto HH hx rfl (pc0 := 39) (pc' := 16) rfl (hb hby d_jdk_33_m_13_39) (by decide) (by decide) kk) ?_
          refine k_pure (g' := (mkF m 17 #[.val (.int (-x)), .val (.int (0 : Int32)), .val (.int ((-10000) : Int32)), .val (.int (4 : Int32))] [(.int (4 : Int32))])) (fun TT HH tt kk => XS.iloadN HH hx rfl (hb hby d_jdk_33_m_13_16) rfl kk) ?_
          refine k_pure (g' := (mkF m 19 #[.val (.int (-x)), .val (.int (0 : Int32)), .val (.int ((-10000) : Int32)), .val (.int (4 : Int32))] [(.int (10 : Int32)), (.int (4 : Int32))])) (fun TT HH tt kk => XS.bipush HH hx rfl (hb hby d_jdk_33_m_13_17) kk) ?_
          refine k_pure (g' := (mkF m 22 #[.val (.int (-x)), .val (.int (0 : Int32)), .val (.int ((-10000) : Int32)), .val (.int (4 : Int32))] [])) (fun TT HH tt kk => XS.icmpNo HH hx rfl (hb hby d_jdk_33_m_13_19) rfl (tlt (by decide : ((4 : Int32) < (10 : Int32)))).2.1 kk) ?_
          refine k_pure (g' := (mkF m 23 #[.val (.int (-x)), .val (.int (0 : Int32)), .val (.int ((-10000) : Int32)), .val (.int (4 : Int32))] [(.int (-x))])) (fun TT HH tt kk => XS.iloadN HH hx rfl (hb hby d_jdk_33_m_13_22) rfl kk) ?_
          refine k_pure (g' := (mkF m 24 #[.val (.int (-x)), .val (.int (0 : Int32)), .val (.int ((-10000) : Int32)), .val (.int (4 : Int32))] [(.int ((-10000) : Int32)), (.int (-x))])) (fun TT HH tt kk => XS.iloadN HH hx rfl (hb hby d_jdk_33_m_13_23) rfl kk) ?_
          by_cases c_14 : ((-10000) : Int32) < (-x)
          · refine k_pure (g' := (mkF m 27 #[.val (.int (-x)), .val (.int (0 : Int32)), .val (.int ((-10000) : Int32)), .val (.int (4 : Int32))] [])) (fun TT HH tt kk => XS.icmpNo HH hx rfl (hb hby d_jdk_33_m_13_24) rfl (tlt c_14).2.2.2 kk) ?_
            refine k_pure (g' := (mkF m 28 #[.val (.int (-x)), .val (.int (0 : Int32)), .val (.int ((-10000) : Int32)), .val (.int (4 : Int32))] [(.int (4 : Int32))])) (fun TT HH tt kk => XS.iloadN HH hx rfl (hb hby d_jdk_33_m_13_27) rfl kk) ?_
            refine k_pure (g' := (mkF m 29 #[.val (.int (-x)), .val (.int (0 : Int32)), .val (.int ((-10000) : Int32)), .val (.int (4 : Int32))] [(.int (0 : Int32)), (.int (4 : Int32))])) (fun TT HH tt kk => XS.iloadN HH hx rfl (hb hby d_jdk_33_m_13_28) rfl kk) ?_
            refine k_pure (g' := (mkF m 30 #[.val (.int (-x)), .val (.int (0 : Int32)), .val (.int ((-10000) : Int32)), .val (.int (4 : Int32))] [(.int (4 : Int32))])) (fun TT HH tt kk => XS.iadd HH hx rfl (hb hby d_jdk_33_m_13_29) rfl kk) ?_
            exact k_retI hx hlk hret (hb hby d_jdk_33_m_13_30) (by decide) (by decide) ⟨4, rfl, rfl, rfl, by decide⟩
          · refine k_pure (g' := (mkF m 31 #[.val (.int (-x)), .val (.int (0 : Int32)), .val (.int ((-10000) : Int32)), .val (.int (4 : Int32))] [])) (fun TT HH tt kk => XS.icmpYes HH hx rfl (pc0 := 24) (pc' := 31) rfl (hb hby d_jdk_33_m_13_24) rfl (flt c_14).2.2.2 (by decide) (by decide) kk) ?_
            refine k_pure (g' := (mkF m 33 #[.val (.int (-x)), .val (.int (0 : Int32)), .val (.int ((-10000) : Int32)), .val (.int (4 : Int32))] [(.int (10 : Int32))])) (fun TT HH tt kk => XS.bipush HH hx rfl (hb hby d_jdk_33_m_13_31) kk) ?_
            refine k_pure (g' := (mkF m 34 #[.val (.int (-x)), .val (.int (0 : Int32)), .val (.int ((-10000) : Int32)), .val (.int (4 : Int32))] [(.int ((-10000) : Int32)), (.int (10 : Int32))])) (fun TT HH tt kk => XS.iloadN HH hx rfl (hb hby d_jdk_33_m_13_33) rfl kk) ?_
            refine k_pure (g' := (mkF m 35 #[.val (.int (-x)), .val (.int (0 : Int32)), .val (.int ((-10000) : Int32)), .val (.int (4 : Int32))] [(.int ((10 : Int32) * ((-10000) : Int32)))])) (fun TT HH tt kk => XS.imul HH hx rfl (hb hby d_jdk_33_m_13_34) rfl kk) ?_
            rw [show ((10 : Int32) * ((-10000) : Int32)) = ((-100000) : Int32) from by decide]
            show Run p l e _ s m _ below meth c Z EL1 _ n0 bk h0 0 0 (mkF m 35 #[.val (.int (-x)), .val (.int (0 : Int32)), .val (.int ((-10000) : Int32)), .val (.int (4 : Int32))] [(.int ((-100000) : Int32))]) _
            refine k_pure (g' := (mkF m 36 #[.val (.int (-x)), .val (.int (0 : Int32)), .val (.int ((-100000) : Int32)), .val (.int (4 : Int32))] [])) (fun TT HH tt kk => XS.istoreN HH hx rfl (hb hby d_jdk_33_m_13_35) rfl (l' := #[.val (.int (-x)), .val (.int (0 : Int32)), .val (.int ((-100000) : Int32)), .val (.int (4 : Int32))]) rfl kk) ?_
            refine k_pure (g' := (mkF m 39 #[.val (.int (-x)), .val (.int (0 : Int32)), .val (.int ((-100000) : Int32)), .val (.int (5 : Int32))] [])) (fun TT HH tt kk => XS.iinc HH hx rfl (hb hby d_jdk_33_m_13_36) rfl (l' := #[.val (.int (-x)), .val (.int (0 : Int32)), .val (.int ((-100000) : Int32)), .val (.int (5 : Int32))]) rfl kk) ?_
            refine k_pure (g' := (mkF m 16 #[.val (.int (-x)), .val (.int (0 : Int32)), .val (.int ((-100000) : Int32)), .val (.int (5 : Int32))] [])) (fun TT HH tt kk => XS.goto HH hx rfl (pc0 := 39) (pc' := 16) rfl (hb hby d_jdk_33_m_13_39) (by decide) (by decide) kk) ?_
            refine k_pure (g' := (mkF m 17 #[.val (.int (-x)), .val (.int (0 : Int32)), .val (.int ((-100000) : Int32)), .val (.int (5 : Int32))] [(.int (5 : Int32))])) (fun TT HH tt kk => XS.iloadN HH hx rfl (hb hby d_jdk_33_m_13_16) rfl kk) ?_
            refine k_pure (g' := (mkF m 19 #[.val (.int (-x)), .val (.int (0 : Int32)), .val (.int ((-100000) : Int32)), .val (.int (5 : Int32))] [(.int (10 : Int32)), (.int (5 : Int32))])) (fun TT HH tt kk => XS.bipush HH hx rfl (hb hby d_jdk_33_m_13_17) kk) ?_
            refine k_pure (g' := (mkF m 22 #[.val (.int (-x)), .val (.int (0 : Int32)), .val (.int ((-100000) : Int32)), .val (.int (5 : Int32))] [])) (fun TT HH tt kk => XS.icmpNo HH hx rfl (hb hby d_jdk_33_m_13_19) rfl (tlt (by decide : ((5 : Int32) < (10 : Int32)))).2.1 kk) ?_
            refine k_pure (g' := (mkF m 23 #[.val (.int (-x)), .val (.int (0 : Int32)), .val (.int ((-100000) : Int32)), .val (.int (5 : Int32))] [(.int (-x))])) (fun TT HH tt kk => XS.iloadN HH hx rfl (hb hby d_jdk_33_m_13_22) rfl kk) ?_
            refine k_pure (g' := (mkF m 24 #[.val (.int (-x)), .val (.int (0 : Int32)), .val (.int ((-100000) : Int32)), .val (.int (5 : Int32))] [(.int ((-100000) : Int32)), (.int (-x))])) (fun TT HH tt kk => XS.iloadN HH hx rfl (hb hby d_jdk_33_m_13_23) rfl kk) ?_
            by_cases c_15 : ((-100000) : Int32) < (-x)
            · refine k_pure (g' := (mkF m 27 #[.val (.int (-x)), .val (.int (0 : Int32)), .val (.int ((-100000) : Int32)), .val (.int (5 : Int32))] [])) (fun TT HH tt kk => XS.icmpNo HH hx rfl (hb hby d_jdk_33_m_13_24) rfl (tlt c_15).2.2.2 kk) ?_
              refine k_pure (g' := (mkF m 28 #[.val (.int (-x)), .val (.int (0 : Int32)), .val (.int ((-100000) : Int32)), .val (.int (5 : Int32))] [(.int (5 : Int32))])) (fun TT HH tt kk => XS.iloadN HH hx rfl (hb hby d_jdk_33_m_13_27) rfl kk) ?_
              refine k_pure (g' := (mkF m 29 #[.val (.int (-x)), .val (.int (0 : Int32)), .val (.int ((-100000) : Int32)), .val (.int (5 : Int32))] [(.int (0 : Int32)), (.int (5 : Int32))])) (fun TT HH tt kk => XS.iloadN HH hx rfl (hb hby d_jdk_33_m_13_28) rfl kk) ?_
              refine k_pure (g' := (mkF m 30 #[.val (.int (-x)), .val (.int (0 : Int32)), .val (.int ((-100000) : Int32)), .val (.int (5 : Int32))] [(.int (5 : Int32))])) (fun TT HH tt kk => XS.iadd HH hx rfl (hb hby d_jdk_33_m_13_29) rfl kk) ?_
              exact k_retI hx hlk hret (hb hby d_jdk_33_m_13_30) (by decide) (by decide) ⟨5, rfl, rfl, rfl, by decide⟩
            · refine k_pure (g' := (mkF m 31 #[.val (.int (-x)), .val (.int (0 : Int32)), .val (.int ((-100000) : Int32)), .val (.int (5 : Int32))] [])) (fun TT HH tt kk => XS.icmpYes HH hx rfl (pc0 := 24) (pc' := 31) rfl (hb hby d_jdk_33_m_13_24) rfl (flt c_15).2.2.2 (by decide) (by decide) kk) ?_
              refine k_pure (g' := (mkF m 33 #[.val (.int (-x)), .val (.int (0 : Int32)), .val (.int ((-100000) : Int32)), .val (.int (5 : Int32))] [(.int (10 : Int32))])) (fun TT HH tt kk => XS.bipush HH hx rfl (hb hby d_jdk_33_m_13_31) kk) ?_
              refine k_pure (g' := (mkF m 34 #[.val (.int (-x)), .val (.int (0 : Int32)), .val (.int ((-100000) : Int32)), .val (.int (5 : Int32))] [(.int ((-100000) : Int32)), (.int (10 : Int32))])) (fun TT HH tt kk => XS.iloadN HH hx rfl (hb hby d_jdk_33_m_13_33) rfl kk) ?_
              refine k_pure (g' := (mkF m 35 #[.val (.int (-x)), .val (.int (0 : Int32)), .val (.int ((-100000) : Int32)), .val (.int (5 : Int32))] [(.int ((10 : Int32) * ((-100000) : Int32)))])) (fun TT HH tt kk => XS.imul HH hx rfl (hb hby d_jdk_33_m_13_34) rfl kk) ?_
              rw [show ((10 : Int32) * ((-100000) : Int32)) = ((-1000000) : Int32) from by decide]
              show Run p l e _ s m _ below meth c Z EL1 _ n0 bk h0 0 0 (mkF m 35 #[.val (.int (-x)), .val (.int (0 : Int32)), .val (.int ((-100000) : Int32)), .val (.int (5 : Int32))] [(.int ((-1000000) : Int32))]) _
              refine k_pure (g' := (mkF m 36 #[.val (.int (-x)), .val (.int (0 : Int32)), .val (.int ((-1000000) : Int32)), .val (.int (5 : Int32))] [])) (fun TT HH tt kk => XS.istoreN HH hx rfl (hb hby d_jdk_33_m_13_35) rfl (l' := #[.val (.int (-x)), .val (.int (0 : Int32)), .val (.int ((-1000000) : Int32)), .val (.int (5 : Int32))]) rfl kk) ?_
              refine k_pure (g' := (mkF m 39 #[.val (.int (-x)), .val (.int (0 : Int32)), .val (.int ((-1000000) : Int32)), .val (.int (6 : Int32))] [])) (fun TT HH tt kk => XS.iinc HH hx rfl (hb hby d_jdk_33_m_13_36) rfl (l' := #[.val (.int (-x)), .val (.int (0 : Int32)), .val (.int ((-1000000) : Int32)), .val (.int (6 : Int32))]) rfl kk) ?_
              refine k_pure (g' := (mkF m 16 #[.val (.int (-x)), .val (.int (0 : Int32)), .val (.int ((-1000000) : Int32)), .val (.int (6 : Int32))] [])) (fun TT HH tt kk => XS.goto HH hx rfl (pc0 := 39) (pc' := 16) rfl (hb hby d_jdk_33_m_13_39) (by decide) (by decide) kk) ?_
              refine k_pure (g' := (mkF m 17 #[.val (.int (-x)), .val (.int (0 : Int32)), .val (.int ((-1000000) : Int32)), .val (.int (6 : Int32))] [(.int (6 : Int32))])) (fun TT HH tt kk => XS.iloadN HH hx rfl (hb hby d_jdk_33_m_13_16) rfl kk) ?_
              refine k_pure (g' := (mkF m 19 #[.val (.int (-x)), .val (.int (0 : Int32)), .val (.int ((-1000000) : Int32)), .val (.int (6 : Int32))] [(.int (10 : Int32)), (.int (6 : Int32))])) (fun TT HH tt kk => XS.bipush HH hx rfl (hb hby d_jdk_33_m_13_17) kk) ?_
              refine k_pure (g' := (mkF m 22 #[.val (.int (-x)), .val (.int (0 : Int32)), .val (.int ((-1000000) : Int32)), .val (.int (6 : Int32))] [])) (fun TT HH tt kk => XS.icmpNo HH hx rfl (hb hby d_jdk_33_m_13_19) rfl (tlt (by decide : ((6 : Int32) < (10 : Int32)))).2.1 kk) ?_
              refine k_pure (g' := (mkF m 23 #[.val (.int (-x)), .val (.int (0 : Int32)), .val (.int ((-1000000) : Int32)), .val (.int (6 : Int32))] [(.int (-x))])) (fun TT HH tt kk => XS.iloadN HH hx rfl (hb hby d_jdk_33_m_13_22) rfl kk) ?_
              refine k_pure (g' := (mkF m 24 #[.val (.int (-x)), .val (.int (0 : Int32)), .val (.int ((-1000000) : Int32)), .val (.int (6 : Int32))] [(.int ((-1000000) : Int32)), (.int (-x))])) (fun TT HH tt kk => XS.iloadN HH hx rfl (hb hby d_jdk_33_m_13_23) rfl kk) ?_
              by_cases c_16 : ((-1000000) : Int32) < (-x)
              · refine k_pure (g' := (mkF m 27 #[.val (.int (-x)), .val (.int (0 : Int32)), .val (.int ((-1000000) : Int32)), .val (.int (6 : Int32))] [])) (fun TT HH tt kk => XS.icmpNo HH hx rfl (hb hby d_jdk_33_m_13_24) rfl (tlt c_16).2.2.2 kk) ?_
                refine k_pure (g' := (mkF m 28 #[.val (.int (-x)), .val (.int (0 : Int32)), .val (.int ((-1000000) : Int32)), .val (.int (6 : Int32))] [(.int (6 : Int32))])) (fun TT HH tt kk => XS.iloadN HH hx rfl (hb hby d_jdk_33_m_13_27) rfl kk) ?_
                refine k_pure (g' := (mkF m 29 #[.val (.int (-x)), .val (.int (0 : Int32)), .val (.int ((-1000000) : Int32)), .val (.int (6 : Int32))] [(.int (0 : Int32)), (.int (6 : Int32))])) (fun TT HH tt kk => XS.iloadN HH hx rfl (hb hby d_jdk_33_m_13_28) rfl kk) ?_
                refine k_pure (g' := (mkF m 30 #[.val (.int (-x)), .val (.int (0 : Int32)), .val (.int ((-1000000) : Int32)), .val (.int (6 : Int32))] [(.int (6 : Int32))])) (fun TT HH tt kk => XS.iadd HH hx rfl (hb hby d_jdk_33_m_13_29) rfl kk) ?_
                exact k_retI hx hlk hret (hb hby d_jdk_33_m_13_30) (by decide) (by decide) ⟨6, rfl, rfl, rfl, by decide⟩
              · refine k_pure (g' := (mkF m 31 #[.val (.int (-x)), .val (.int (0 : Int32)), .val (.int ((-1000000) : Int32)), .val (.int (6 : Int32))] [])) (fun TT HH tt kk => XS.icmpYes HH hx rfl (pc0 := 24) (pc' := 31) rfl (hb hby d_jdk_33_m_13_24) rfl (flt c_16).2.2.2 (by decide) (by decide) kk) ?_
                refine k_pure (g' := (mkF m 33 #[.val (.int (-x)), .val (.int (0 : Int32)), .val (.int ((-1000000) : Int32)), .val (.int (6 : Int32))] [(.int (10 : Int32))])) (fun TT HH tt kk => XS.bipush HH hx rfl (hb hby d_jdk_33_m_13_31) kk) ?_
                refine k_pure (g' := (mkF m 34 #[.val (.int (-x)), .val (.int (0 : Int32)), .val (.int ((-1000000) : Int32)), .val (.int (6 : Int32))] [(.int ((-1000000) : Int32)), (.int (10 : Int32))])) (fun TT HH tt kk => XS.iloadN HH hx rfl (hb hby d_jdk_33_m_13_33) rfl kk) ?_
                refine k_pure (g' := (mkF m 35 #[.val (.int (-x)), .val (.int (0 : Int32)), .val (.int ((-1000000) : Int32)), .val (.int (6 : Int32))] [(.int ((10 : Int32) * ((-1000000) : Int32)))])) (fun TT HH tt kk => XS.imul HH hx rfl (hb hby d_jdk_33_m_13_34) rfl kk) ?_
                rw [show ((10 : Int32) * ((-1000000) : Int32)) = ((-10000000) : Int32) from by decide]
                show Run p l e _ s m _ below meth c Z EL1 _ n0 bk h0 0 0 (mkF m 35 #[.val (.int (-x)), .val (.int (0 : Int32)), .val (.int ((-1000000) : Int32)), .val (.int (6 : Int32))] [(.int ((-10000000) : Int32))]) _
                refine k_pure (g' := (mkF m 36 #[.val (.int (-x)), .val (.int (0 : Int32)), .val (.int ((-10000000) : Int32)), .val (.int (6 : Int32))] [])) (fun TT HH tt kk => XS.istoreN HH hx rfl (hb hby d_jdk_33_m_13_35) rfl (l' := #[.val (.int (-x)), .val (.int (0 : Int32)), .val (.int ((-10000000) : Int32)), .val (.int (6 : Int32))]) rfl kk) ?_
                refine k_pure (g' := (mkF m 39 #[.val (.int (-x)), .val (.int (0 : Int32)), .val (.int ((-10000000) : Int32)), .val (.int (7 : Int32))] [])) (fun TT HH tt kk => XS.iinc HH hx rfl (hb hby d_jdk_33_m_13_36) rfl (l' := #[.val (.int (-x)), .val (.int (0 : Int32)), .val (.int ((-10000000) : Int32)), .val (.int (7 : Int32))]) rfl kk) ?_
                refine k_pure (g' := (mkF m 16 #[.val (.int (-x)), .val (.int (0 : Int32)), .val (.int ((-10000000) : Int32)), .val (.int (7 : Int32))] [])) (fun TT HH tt kk => XS.goto HH hx rfl (pc0 := 39) (pc' := 16) rfl (hb hby d_jdk_33_m_13_39) (by decide) (by decide) kk) ?_
                refine k_pure (g' := (mkF m 17 #[.val (.int (-x)), .val (.int (0 : Int32)), .val (.int ((-10000000) : Int32)), .val (.int (7 : Int32))] [(.int (7 : Int32))])) (fun TT HH tt kk => XS.iloadN HH hx rfl (hb hby d_jdk_33_m_13_16) rfl kk) ?_
                refine k_pure (g' := (mkF m 19 #[.val (.int (-x)), .val (.int (0 : Int32)), .val (.int ((-10000000) : Int32)), .val (.int (7 : Int32))] [(.int (10 : Int32)), (.int (7 : Int32))])) (fun TT HH tt kk => XS.bipush HH hx rfl (hb hby d_jdk_33_m_13_17) kk) ?_
                refine k_pure (g' := (mkF m 22 #[.val (.int (-x)), .val (.int (0 : Int32)), .val (.int ((-10000000) : Int32)), .val (.int (7 : Int32))] [])) (fun TT HH tt kk => XS.icmpNo HH hx rfl (hb hby d_jdk_33_m_13_19) rfl (tlt (by decide : ((7 : Int32) < (10 : Int32)))).2.1 kk) ?_
                refine k_pure (g' := (mkF m 23 #[.val (.int (-x)), .val (.int (0 : Int32)), .val (.int ((-10000000) : Int32)), .val (.int (7 : Int32))] [(.int (-x))])) (fun TT HH tt kk => XS.iloadN HH hx rfl (hb hby d_jdk_33_m_13_22) rfl kk) ?_
                refine k_pure (g' := (mkF m 24 #[.val (.int (-x)), .val (.int (0 : Int32)), .val (.int ((-10000000) : Int32)), .val (.int (7 : Int32))] [(.int ((-10000000) : Int32)), (.int (-x))])) (fun TT HH tt kk => XS.iloadN HH hx rfl (hb hby d_jdk_33_m_13_23) rfl kk) ?_
                by_cases c_17 : ((-10000000) : Int32) < (-x)
                · refine k_pure (g' := (mkF m 27 #[.val (.int (-x)), .val (.int (0 : Int32)), .val (.int ((-10000000) : Int32)), .val (.int (7 : Int32))] [])) (fun TT HH tt kk => XS.icmpNo HH hx rfl (hb hby d_jdk_33_m_13_24) rfl (tlt c_17).2.2.2 kk) ?_
                  refine k_pure (g' := (mkF m 28 #[.val (.int (-x)), .val (.int (0 : Int32)), .val (.int ((-10000000) : Int32)), .val (.int (7 : Int32))] [(.int (7 : Int32))])) (fun TT HH tt kk => XS.iloadN HH hx rfl (hb hby d_jdk_33_m_13_27) rfl kk) ?_
                  refine k_pure (g' := (mkF m 29 #[.val (.int (-x)), .val (.int (0 : Int32)), .val (.int ((-10000000) : Int32)), .val (.int (7 : Int32))] [(.int (0 : Int32)), (.int (7 : Int32))])) (fun TT HH tt kk => XS.iloadN HH hx rfl (hb hby d_jdk_33_m_13_28) rfl kk) ?_
                  refine k_pure (g' := (mkF m 30 #[.val (.int (-x)), .val (.int (0 : Int32)), .val (.int ((-10000000) : Int32)), .val (.int (7 : Int32))] [(.int (7 : Int32))])) (fun TT HH tt kk => XS.iadd HH hx rfl (hb hby d_jdk_33_m_13_29) rfl kk) ?_
                  exact k_retI hx hlk hret (hb hby d_jdk_33_m_13_30) (by decide) (by decide) ⟨7, rfl, rfl, rfl, by decide⟩
                · refine k_pure (g' := (mkF m 31 #[.val (.int (-x)), .val (.int (0 : Int32)), .val (.int ((-10000000) : Int32)), .val (.int (7 : Int32))] [])) (fun TT HH tt kk => XS.icmpYes HH hx rfl (pc0 := 24) (pc' := 31) rfl (hb hby d_jdk_33_m_13_24) rfl (flt c_17).2.2.2 (by decide) (by decide) kk) ?_
                  refine k_pure (g' := (mkF m 33 #[.val (.int (-x)), .val (.int (0 : Int32)), .val (.int ((-10000000) : Int32)), .val (.int (7 : Int32))] [(.int (10 : Int32))])) (fun TT HH tt kk => XS.bipush HH hx rfl (hb hby d_jdk_33_m_13_31) kk) ?_
                  refine k_pure (g' := (mkF m 34 #[.val (.int (-x)), .val (.int (0 : Int32)), .val (.int ((-10000000) : Int32)), .val (.int (7 : Int32))] [(.int ((-10000000) : Int32)), (.int (10 : Int32))])) (fun TT HH tt kk => XS.iloadN HH hx rfl (hb hby d_jdk_33_m_13_33) rfl kk) ?_
                  refine k_pure (g' := (mkF m 35 #[.val (.int (-x)), .val (.int (0 : Int32)), .val (.int ((-10000000) : Int32)), .val (.int (7 : Int32))] [(.int ((10 : Int32) * ((-10000000) : Int32)))])) (fun TT HH tt kk => XS.imul HH hx rfl (hb hby d_jdk_33_m_13_34) rfl kk) ?_
                  rw [show ((10 : Int32) * ((-10000000) : Int32)) = ((-100000000) : Int32) from by decide]
                  show Run p l e _ s m _ below meth c Z EL1 _ n0 bk h0 0 0 (mkF m 35 #[.val (.int (-x)), .val (.int (0 : Int32)), .val (.int ((-10000000) : Int32)), .val (.int (7 : Int32))] [(.int ((-100000000) : Int32))]) _
                  refine k_pure (g' := (mkF m 36 #[.val (.int (-x)), .val (.int (0 : Int32)), .val (.int ((-100000000) : Int32)), .val (.int (7 : Int32))] [])) (fun TT HH tt kk => XS.istoreN HH hx rfl (hb hby d_jdk_33_m_13_35) rfl (l' := #[.val (.int (-x)), .val (.int (0 : Int32)), .val (.int ((-100000000) : Int32)), .val (.int (7 : Int32))]) rfl kk) ?_
                  refine k_pure (g' := (mkF m 39 #[.val (.int (-x)), .val (.int (0 : Int32)), .val (.int ((-100000000) : Int32)), .val (.int (8 : Int32))] [])) (fun TT HH tt kk => XS.iinc HH hx rfl (hb hby d_jdk_33_m_13_36) rfl (l' := #[.val (.int (-x)), .val (.int (0 : Int32)), .val (.int ((-100000000) : Int32)), .val (.int (8 : Int32))]) rfl kk) ?_
                  refine k_pure (g' := (mkF m 16 #[.val (.int (-x)), .val (.int (0 : Int32)), .val (.int ((-100000000) : Int32)), .val (.int (8 : Int32))] [])) (fun TT HH tt kk => XS.goto HH hx rfl (pc0 := 39) (pc' := 16) rfl (hb hby d_jdk_33_m_13_39) (by decide) (by decide) kk) ?_
                  refine k_pure (g' := (mkF m 17 #[.val (.int (-x)), .val (.int (0 : Int32)), .val (.int ((-100000000) : Int32)), .val (.int (8 : Int32))] [(.int (8 : Int32))])) (fun TT HH tt kk => XS.iloadN HH hx rfl (hb hby d_jdk_33_m_13_16) rfl kk) ?_
                  refine k_pure (g' := (mkF m 19 #[.val (.int (-x)), .val (.int (0 : Int32)), .val (.int ((-100000000) : Int32)), .val (.int (8 : Int32))] [(.int (10 : Int32)), (.int (8 : Int32))])) (fun TT HH tt kk => XS.bipush HH hx rfl (hb hby d_jdk_33_m_13_17) kk) ?_
                  refine k_pure (g' := (mkF m 22 #[.val (.int (-x)), .val (.int (0 : Int32)), .val (.int ((-100000000) : Int32)), .val (.int (8 : Int32))] [])) (fun TT HH tt kk => XS.icmpNo HH hx rfl (hb hby d_jdk_33_m_13_19) rfl (tlt (by decide : ((8 : Int32) < (10 : Int32)))).2.1 kk) ?_
                  refine k_pure (g' := (mkF m 23 #[.val (.int (-x)), .val (.int (0 : Int32)), .val (.int ((-100000000) : Int32)), .val (.int (8 : Int32))] [(.int (-x))])) (fun TT HH tt kk => XS.iloadN HH hx rfl (hb hby d_jdk_33_m_13_22) rfl kk) ?_
                  refine k_pure (g' := (mkF m 24 #[.val (.int (-x)), .val (.int (0 : Int32)), .val (.int ((-100000000) : Int32)), .val (.int (8 : Int32))] [(.int ((-100000000) : Int32)), (.int (-x))])) (fun TT HH tt kk => XS.iloadN HH hx rfl (hb hby d_jdk_33_m_13_23) rfl kk) ?_
                  by_cases c_18 : ((-100000000) : Int32) < (-x)
                  · refine k_pure (g' := (mkF m 27 #[.val (.int (-x)), .val (.int (0 : Int32)), .val (.int ((-100000000) : Int32)), .val (.int (8 : Int32))] [])) (fun TT HH tt kk => XS.icmpNo HH hx rfl (hb hby d_jdk_33_m_13_24) rfl (tlt c_18).2.2.2 kk) ?_
                    refine k_pure (g' := (mkF m 28 #[.val (.int (-x)), .val (.int (0 : Int32)), .val (.int ((-100000000) : Int32)), .val (.int (8 : Int32))] [(.int (8 : Int32))])) (fun TT HH tt kk => XS.iloadN HH hx rfl (hb hby d_jdk_33_m_13_27) rfl kk) ?_
                    refine k_pure (g' := (mkF m 29 #[.val (.int (-x)), .val (.int (0 : Int32)), .val (.int ((-100000000) : Int32)), .val (.int (8 : Int32))] [(.int (0 : Int32)), (.int (8 : Int32))])) (fun TT HH tt kk => XS.iloadN HH hx rfl (hb hby d_jdk_33_m_13_28) rfl kk) ?_
                    refine k_pure (g' := (mkF m 30 #[.val (.int (-x)), .val (.int (0 : Int32)), .val (.int ((-100000000) : Int32)), .val (.int (8 : Int32))] [(.int (8 : Int32))])) (fun TT HH tt kk => XS.iadd HH hx rfl (hb hby d_jdk_33_m_13_29) rfl kk) ?_
                    exact k_retI hx hlk hret (hb hby d_jdk_33_m_13_30) (by decide) (by decide) ⟨8, rfl, rfl, rfl, by decide⟩
                  · refine k_pure (g' := (mkF m 31 #[.val (.int (-x)), .val (.int (0 : Int32)), .val (.int ((-100000000) : Int32)), .val (.int (8 : Int32))] [])) (fun TT HH tt kk => XS.icmpYes HH hx rfl (pc0 := 24) (pc' := 31) rfl (hb hby d_jdk_33_m_13_24) rfl (flt c_18).2.2.2 (by decide) (by decide) kk) ?_
                    refine k_pure (g' := (mkF m 33 #[.val (.int (-x)), .val (.int (0 : Int32)), .val (.int ((-100000000) : Int32)), .val (.int (8 : Int32))] [(.int (10 : Int32))])) (fun TT HH tt kk => XS.bipush HH hx rfl (hb hby d_jdk_33_m_13_31) kk) ?_
                    refine k_pure (g' := (mkF m 34 #[.val (.int (-x)), .val (.int (0 : Int32)), .val (.int ((-100000000) : Int32)), .val (.int (8 : Int32))] [(.int ((-100000000) : Int32)), (.int (10 : Int32))])) (fun TT HH tt kk => XS.iloadN HH hx rfl (hb hby d_jdk_33_m_13_33) rfl kk) ?_
                    refine k_pure (g' := (mkF m 35 #[.val (.int (-x)), .val (.int (0 : Int32)), .val (.int ((-100000000) : Int32)), .val (.int (8 : Int32))] [(.int ((10 : Int32) * ((-100000000) : Int32)))])) (fun TT HH tt kk => XS.imul HH hx rfl (hb hby d_jdk_33_m_13_34) rfl kk) ?_
                    rw [show ((10 : Int32) * ((-100000000) : Int32)) = ((-1000000000) : Int32) from by decide]
                    show Run p l e _ s m _ below meth c Z EL1 _ n0 bk h0 0 0 (mkF m 35 #[.val (.int (-x)), .val (.int (0 : Int32)), .val (.int ((-100000000) : Int32)), .val (.int (8 : Int32))] [(.int ((-1000000000) : Int32))]) _
                    refine k_pure (g' := (mkF m 36 #[.val (.int (-x)), .val (.int (0 : Int32)), .val (.int ((-1000000000) : Int32)), .val (.int (8 : Int32))] [])) (fun TT HH tt kk => XS.istoreN HH hx rfl (hb hby d_jdk_33_m_13_35) rfl (l' := #[.val (.int (-x)), .val (.int (0 : Int32)), .val (.int ((-1000000000) : Int32)), .val (.int (8 : Int32))]) rfl kk) ?_
                    refine k_pure (g' := (mkF m 39 #[.val (.int (-x)), .val (.int (0 : Int32)), .val (.int ((-1000000000) : Int32)), .val (.int (9 : Int32))] [])) (fun TT HH tt kk => XS.iinc HH hx rfl (hb hby d_jdk_33_m_13_36) rfl (l' := #[.val (.int (-x)), .val (.int (0 : Int32)), .val (.int ((-1000000000) : Int32)), .val (.int (9 : Int32))]) rfl kk) ?_
                    refine k_pure (g' := (mkF m 16 #[.val (.int (-x)), .val (.int (0 : Int32)), .val (.int ((-1000000000) : Int32)), .val (.int (9 : Int32))] [])) (fun TT HH tt kk => XS.goto HH hx rfl (pc0 := 39) (pc' := 16) rfl (hb hby d_jdk_33_m_13_39) (by decide) (by decide) kk) ?_
                    refine k_pure (g' := (mkF m 17 #[.val (.int (-x)), .val (.int (0 : Int32)), .val (.int ((-1000000000) : Int32)), .val (.int (9 : Int32))] [(.int (9 : Int32))])) (fun TT HH tt kk => XS.iloadN HH hx rfl (hb hby d_jdk_33_m_13_16) rfl kk) ?_
                    refine k_pure (g' := (mkF m 19 #[.val (.int (-x)), .val (.int (0 : Int32)), .val (.int ((-1000000000) : Int32)), .val (.int (9 : Int32))] [(.int (10 : Int32)), (.int (9 : Int32))])) (fun TT HH tt kk => XS.bipush HH hx rfl (hb hby d_jdk_33_m_13_17) kk) ?_
                    refine k_pure (g' := (mkF m 22 #[.val (.int (-x)), .val (.int (0 : Int32)), .val (.int ((-1000000000) : Int32)), .val (.int (9 : Int32))] [])) (fun TT HH tt kk => XS.icmpNo HH hx rfl (hb hby d_jdk_33_m_13_19) rfl (tlt (by decide : ((9 : Int32) < (10 : Int32)))).2.1 kk) ?_
                    refine k_pure (g' := (mkF m 23 #[.val (.int (-x)), .val (.int (0 : Int32)), .val (.int ((-1000000000) : Int32)), .val (.int (9 : Int32))] [(.int (-x))])) (fun TT HH tt kk => XS.iloadN HH hx rfl (hb hby d_jdk_33_m_13_22) rfl kk) ?_
                    refine k_pure (g' := (mkF m 24 #[.val (.int (-x)), .val (.int (0 : Int32)), .val (.int ((-1000000000) : Int32)), .val (.int (9 : Int32))] [(.int ((-1000000000) : Int32)), (.int (-x))])) (fun TT HH tt kk => XS.iloadN HH hx rfl (hb hby d_jdk_33_m_13_23) rfl kk) ?_
                    by_cases c_19 : ((-1000000000) : Int32) < (-x)
                    · refine k_pure (g' := (mkF m 27 #[.val (.int (-x)), .val (.int (0 : Int32)), .val (.int ((-1000000000) : Int32)), .val (.int (9 : Int32))] [])) (fun TT HH tt kk => XS.icmpNo HH hx rfl (hb hby d_jdk_33_m_13_24) rfl (tlt c_19).2.2.2 kk) ?_
                      refine k_pure (g' := (mkF m 28 #[.val (.int (-x)), .val (.int (0 : Int32)), .val (.int ((-1000000000) : Int32)), .val (.int (9 : Int32))] [(.int (9 : Int32))])) (fun TT HH tt kk => XS.iloadN HH hx rfl (hb hby d_jdk_33_m_13_27) rfl kk) ?_
                      refine k_pure (g' := (mkF m 29 #[.val (.int (-x)), .val (.int (0 : Int32)), .val (.int ((-1000000000) : Int32)), .val (.int (9 : Int32))] [(.int (0 : Int32)), (.int (9 : Int32))])) (fun TT HH tt kk => XS.iloadN HH hx rfl (hb hby d_jdk_33_m_13_28) rfl kk) ?_
                      refine k_pure (g' := (mkF m 30 #[.val (.int (-x)), .val (.int (0 : Int32)), .val (.int ((-1000000000) : Int32)), .val (.int (9 : Int32))] [(.int (9 : Int32))])) (fun TT HH tt kk => XS.iadd HH hx rfl (hb hby d_jdk_33_m_13_29) rfl kk) ?_
                      exact k_retI hx hlk hret (hb hby d_jdk_33_m_13_30) (by decide) (by decide) ⟨9, rfl, rfl, rfl, by decide⟩
                    · refine k_pure (g' := (mkF m 31 #[.val (.int (-x)), .val (.int (0 : Int32)), .val (.int ((-1000000000) : Int32)), .val (.int (9 : Int32))] [])) (fun TT HH tt kk => XS.icmpYes HH hx rfl (pc0 := 24) (pc' := 31) rfl (hb hby d_jdk_33_m_13_24) rfl (flt c_19).2.2.2 (by decide) (by decide) kk) ?_
                      refine k_pure (g' := (mkF m 33 #[.val (.int (-x)), .val (.int (0 : Int32)), .val (.int ((-1000000000) : Int32)), .val (.int (9 : Int32))] [(.int (10 : Int32))])) (fun TT HH tt kk => XS.bipush HH hx rfl (hb hby d_jdk_33_m_13_31) kk) ?_
                      refine k_pure (g' := (mkF m 34 #[.val (.int (-x)), .val (.int (0 : Int32)), .val (.int ((-1000000000) : Int32)), .val (.int (9 : Int32))] [(.int ((-1000000000) : Int32)), (.int (10 : Int32))])) (fun TT HH tt kk => XS.iloadN HH hx rfl (hb hby d_jdk_33_m_13_33) rfl kk) ?_
                      refine k_pure (g' := (mkF m 35 #[.val (.int (-x)), .val (.int (0 : Int32)), .val (.int ((-1000000000) : Int32)), .val (.int (9 : Int32))] [(.int ((10 : Int32) * ((-1000000000) : Int32)))])) (fun TT HH tt kk => XS.imul HH hx rfl (hb hby d_jdk_33_m_13_34) rfl kk) ?_
                      rw [show ((10 : Int32) * ((-1000000000) : Int32)) = ((-1410065408) : Int32) from by decide]
                      show Run p l e _ s m _ below meth c Z EL1 _ n0 bk h0 0 0 (mkF m 35 #[.val (.int (-x)), .val (.int (0 : Int32)), .val (.int ((-1000000000) : Int32)), .val (.int (9 : Int32))] [(.int ((-1410065408) : Int32))]) _
                      refine k_pure (g' := (mkF m 36 #[.val (.int (-x)), .val (.int (0 : Int32)), .val (.int ((-1410065408) : Int32)), .val (.int (9 : Int32))] [])) (fun TT HH tt kk => XS.istoreN HH hx rfl (hb hby d_jdk_33_m_13_35) rfl (l' := #[.val (.int (-x)), .val (.int (0 : Int32)), .val (.int ((-1410065408) : Int32)), .val (.int (9 : Int32))]) rfl kk) ?_
                      refine k_pure (g' := (mkF m 39 #[.val (.int (-x)), .val (.int (0 : Int32)), .val (.int ((-1410065408) : Int32)), .val (.int (10 : Int32))] [])) (fun TT HH tt kk => XS.iinc HH hx rfl (hb hby d_jdk_33_m_13_36) rfl (l' := #[.val (.int (-x)), .val (.int (0 : Int32)), .val (.int ((-1410065408) : Int32)), .val (.int (10 : Int32))]) rfl kk) ?_
                      refine k_pure (g' := (mkF m 16 #[.val (.int (-x)), .val (.int (0 : Int32)), .val (.int ((-1410065408) : Int32)), .val (.int (10 : Int32))] [])) (fun TT HH tt kk => XS.goto HH hx rfl (pc0 := 39) (pc' := 16) rfl (hb hby d_jdk_33_m_13_39) (by decide) (by decide) kk) ?_
                      refine k_pure (g' := (mkF m 17 #[.val (.int (-x)), .val (.int (0 : Int32)), .val (.int ((-1410065408) : Int32)), .val (.int (10 : Int32))] [(.int (10 : Int32))])) (fun TT HH tt kk => XS.iloadN HH hx rfl (hb hby d_jdk_33_m_13_16) rfl kk) ?_
                      refine k_pure (g' := (mkF m 19 #[.val (.int (-x)), .val (.int (0 : Int32)), .val (.int ((-1410065408) : Int32)), .val (.int (10 : Int32))] [(.int (10 : Int32)), (.int (10 : Int32))])) (fun TT HH tt kk => XS.bipush HH hx rfl (hb hby d_jdk_33_m_13_17) kk) ?_
                      refine k_pure (g' := (mkF m 42 #[.val (.int (-x)), .val (.int (0 : Int32)), .val (.int ((-1410065408) : Int32)), .val (.int (10 : Int32))] [])) (fun TT HH tt kk => XS.icmpYes HH hx rfl (pc0 := 19) (pc' := 42) rfl (hb hby d_jdk_33_m_13_19) rfl (flt (by decide : ¬ ((10 : Int32) < (10 : Int32)))).2.1 (by decide) (by decide) kk) ?_
                      refine k_pure (g' := (mkF m 44 #[.val (.int (-x)), .val (.int (0 : Int32)), .val (.int ((-1410065408) : Int32)), .val (.int (10 : Int32))] [(.int (10 : Int32))])) (fun TT HH tt kk => XS.bipush HH hx rfl (hb hby d_jdk_33_m_13_42) kk) ?_
                      refine k_pure (g' := (mkF m 45 #[.val (.int (-x)), .val (.int (0 : Int32)), .val (.int ((-1410065408) : Int32)), .val (.int (10 : Int32))] [(.int (0 : Int32)), (.int (10 : Int32))])) (fun TT HH tt kk => XS.iloadN HH hx rfl (hb hby d_jdk_33_m_13_44) rfl kk) ?_
                      refine k_pure (g' := (mkF m 46 #[.val (.int (-x)), .val (.int (0 : Int32)), .val (.int ((-1410065408) : Int32)), .val (.int (10 : Int32))] [(.int (10 : Int32))])) (fun TT HH tt kk => XS.iadd HH hx rfl (hb hby d_jdk_33_m_13_45) rfl kk) ?_
                      exact k_retI hx hlk hret (hb hby d_jdk_33_m_13_46) (by decide) (by decide) ⟨10, rfl, rfl, rfl, by decide⟩
def Q_gch (Z : State) (G1 : Int32) (G3 : Value) (d1 d2 us ss : Addr) (kd1 kd2 : ClassId) (w1 w2 : List Value) (x : Int32) (q : Nat) (t : Addr) (kb : ClassId) (N : Nat) (vs : List Value) (h0 : Heap) (n0 : Nat) (bk : Addr → Prop) (v : Option Value) (h : Heap) (bk' : Addr → Prop) : Prop := ∃ (r : Int32), ∃ (us1 : List Value), v = some (.int r) ∧ bk = bk' ∧ Keep h0 h [t] ∧ (Arv Z h t kb .byte (Int32.ofNat N) us1 (.int 0))
theorem d_jdk_33_m_12_0 : decode jdk_33_method_12_code 0 = .ok (.iload_n 1, 1) := by decide +kernel
theorem d_jdk_33_m_12_1 : decode jdk_33_method_12_code 1 = .ok (.istore 5, 2) := by decide +kernel
theorem d_jdk_33_m_12_3 : decode jdk_33_method_12_code 3 = .ok (.iload_n 0, 1) := by decide +kernel
theorem d_jdk_33_m_12_4 : decode jdk_33_method_12_code 4 = .ok (.ifCond .ge 7, 3) := by decide +kernel
theorem d_jdk_33_m_12_7 : decode jdk_33_method_12_code 7 = .ok (.iconst 1, 1) := by decide +kernel
theorem d_jdk_33_m_12_8 : decode jdk_33_method_12_code 8 = .ok (.goto 4, 3) := by decide +kernel
theorem d_jdk_33_m_12_12 : decode jdk_33_method_12_code 12 = .ok (.istore 6, 2) := by decide +kernel
theorem d_jdk_33_m_12_14 : decode jdk_33_method_12_code 14 = .ok (.iload 6, 2) := by decide +kernel
theorem d_jdk_33_m_12_16 : decode jdk_33_method_12_code 16 = .ok (.ifCond .ne 6, 3) := by decide +kernel
theorem d_jdk_33_m_12_22 : decode jdk_33_method_12_code 22 = .ok (.iload_n 0, 1) := by decide +kernel
theorem d_jdk_33_m_12_23 : decode jdk_33_method_12_code 23 = .ok (.bipush (-100), 2) := by decide +kernel
theorem d_jdk_33_m_12_25 : decode jdk_33_method_12_code 25 = .ok (.if_icmp .gt 47, 3) := by decide +kernel
theorem d_jdk_33_m_12_72 : decode jdk_33_method_12_code 72 = .ok (.aload_n 2, 1) := by decide +kernel
theorem d_jdk_33_m_12_73 : decode jdk_33_method_12_code 73 = .ok (.iinc 5 (-1), 3) := by decide +kernel
theorem d_jdk_33_m_12_76 : decode jdk_33_method_12_code 76 = .ok (.iload 5, 2) := by decide +kernel
theorem d_jdk_33_m_12_78 : decode jdk_33_method_12_code 78 = .ok (.getstatic 83, 3) := by decide +kernel
theorem d_jdk_33_m_12_81 : decode jdk_33_method_12_code 81 = .ok (.iload_n 0, 1) := by decide +kernel
theorem d_jdk_33_m_12_82 : decode jdk_33_method_12_code 82 = .ok (.ineg, 1) := by decide +kernel
theorem d_jdk_33_m_12_83 : decode jdk_33_method_12_code 83 = .ok (.baload, 1) := by decide +kernel
theorem d_jdk_33_m_12_84 : decode jdk_33_method_12_code 84 = .ok (.bastore, 1) := by decide +kernel
theorem d_jdk_33_m_12_85 : decode jdk_33_method_12_code 85 = .ok (.iload_n 0, 1) := by decide +kernel
theorem d_jdk_33_m_12_86 : decode jdk_33_method_12_code 86 = .ok (.bipush (-9), 2) := by decide +kernel
theorem d_jdk_33_m_12_88 : decode jdk_33_method_12_code 88 = .ok (.if_icmp .ge 16, 3) := by decide +kernel
theorem d_jdk_33_m_12_91 : decode jdk_33_method_12_code 91 = .ok (.aload_n 2, 1) := by decide +kernel
theorem d_jdk_33_m_12_92 : decode jdk_33_method_12_code 92 = .ok (.iinc 5 (-1), 3) := by decide +kernel
theorem d_jdk_33_m_12_95 : decode jdk_33_method_12_code 95 = .ok (.iload 5, 2) := by decide +kernel
theorem d_jdk_33_m_12_97 : decode jdk_33_method_12_code 97 = .ok (.getstatic 87, 3) := by decide +kernel
theorem d_jdk_33_m_12_100 : decode jdk_33_method_12_code 100 = .ok (.iload_n 0, 1) := by decide +kernel
theorem d_jdk_33_m_12_101 : decode jdk_33_method_12_code 101 = .ok (.ineg, 1) := by decide +kernel
theorem d_jdk_33_m_12_102 : decode jdk_33_method_12_code 102 = .ok (.baload, 1) := by decide +kernel
theorem d_jdk_33_m_12_103 : decode jdk_33_method_12_code 103 = .ok (.bastore, 1) := by decide +kernel
theorem d_jdk_33_m_12_104 : decode jdk_33_method_12_code 104 = .ok (.iload 6, 2) := by decide +kernel
theorem d_jdk_33_m_12_106 : decode jdk_33_method_12_code 106 = .ok (.ifCond .eq 12, 3) := by decide +kernel
theorem d_jdk_33_m_12_109 : decode jdk_33_method_12_code 109 = .ok (.aload_n 2, 1) := by decide +kernel
theorem d_jdk_33_m_12_110 : decode jdk_33_method_12_code 110 = .ok (.iinc 5 (-1), 3) := by decide +kernel
theorem d_jdk_33_m_12_113 : decode jdk_33_method_12_code 113 = .ok (.iload 5, 2) := by decide +kernel
theorem d_jdk_33_m_12_115 : decode jdk_33_method_12_code 115 = .ok (.bipush 45, 2) := by decide +kernel
theorem d_jdk_33_m_12_117 : decode jdk_33_method_12_code 117 = .ok (.bastore, 1) := by decide +kernel
theorem d_jdk_33_m_12_118 : decode jdk_33_method_12_code 118 = .ok (.iload 5, 2) := by decide +kernel
theorem d_jdk_33_m_12_120 : decode jdk_33_method_12_code 120 = .ok (.ireturn, 1) := by decide +kernel
theorem d_jdk_33_m_12_28 : decode jdk_33_method_12_code 28 = .ok (.iload_n 0, 1) := by decide +kernel
theorem d_jdk_33_m_12_29 : decode jdk_33_method_12_code 29 = .ok (.bipush 100, 2) := by decide +kernel
theorem d_jdk_33_m_12_31 : decode jdk_33_method_12_code 31 = .ok (.idiv, 1) := by decide +kernel
theorem d_jdk_33_m_12_32 : decode jdk_33_method_12_code 32 = .ok (.istore_n 3, 1) := by decide +kernel
theorem d_jdk_33_m_12_33 : decode jdk_33_method_12_code 33 = .ok (.iload_n 3, 1) := by decide +kernel
theorem d_jdk_33_m_12_34 : decode jdk_33_method_12_code 34 = .ok (.bipush 100, 2) := by decide +kernel
theorem d_jdk_33_m_12_36 : decode jdk_33_method_12_code 36 = .ok (.imul, 1) := by decide +kernel
theorem d_jdk_33_m_12_37 : decode jdk_33_method_12_code 37 = .ok (.iload_n 0, 1) := by decide +kernel
theorem d_jdk_33_m_12_38 : decode jdk_33_method_12_code 38 = .ok (.isub, 1) := by decide +kernel
theorem d_jdk_33_m_12_39 : decode jdk_33_method_12_code 39 = .ok (.istore 4, 2) := by decide +kernel
theorem d_jdk_33_m_12_41 : decode jdk_33_method_12_code 41 = .ok (.iload_n 3, 1) := by decide +kernel
theorem d_jdk_33_m_12_42 : decode jdk_33_method_12_code 42 = .ok (.istore_n 0, 1) := by decide +kernel
theorem d_jdk_33_m_12_43 : decode jdk_33_method_12_code 43 = .ok (.aload_n 2, 1) := by decide +kernel
theorem d_jdk_33_m_12_44 : decode jdk_33_method_12_code 44 = .ok (.iinc 5 (-1), 3) := by decide +kernel
theorem d_jdk_33_m_12_47 : decode jdk_33_method_12_code 47 = .ok (.iload 5, 2) := by decide +kernel
theorem d_jdk_33_m_12_49 : decode jdk_33_method_12_code 49 = .ok (.getstatic 83, 3) := by decide +kernel
theorem d_jdk_33_m_12_52 : decode jdk_33_method_12_code 52 = .ok (.iload 4, 2) := by decide +kernel
theorem d_jdk_33_m_12_54 : decode jdk_33_method_12_code 54 = .ok (.baload, 1) := by decide +kernel
theorem d_jdk_33_m_12_55 : decode jdk_33_method_12_code 55 = .ok (.bastore, 1) := by decide +kernel
theorem d_jdk_33_m_12_56 : decode jdk_33_method_12_code 56 = .ok (.aload_n 2, 1) := by decide +kernel
theorem d_jdk_33_m_12_57 : decode jdk_33_method_12_code 57 = .ok (.iinc 5 (-1), 3) := by decide +kernel
theorem d_jdk_33_m_12_60 : decode jdk_33_method_12_code 60 = .ok (.iload 5, 2) := by decide +kernel
theorem d_jdk_33_m_12_62 : decode jdk_33_method_12_code 62 = .ok (.getstatic 87, 3) := by decide +kernel
theorem d_jdk_33_m_12_65 : decode jdk_33_method_12_code 65 = .ok (.iload 4, 2) := by decide +kernel
theorem d_jdk_33_m_12_67 : decode jdk_33_method_12_code 67 = .ok (.baload, 1) := by decide +kernel
theorem d_jdk_33_m_12_68 : decode jdk_33_method_12_code 68 = .ok (.bastore, 1) := by decide +kernel
theorem d_jdk_33_m_12_69 : decode jdk_33_method_12_code 69 = .ok (.goto (-47), 3) := by decide +kernel
theorem d_jdk_33_m_12_11 : decode jdk_33_method_12_code 11 = .ok (.iconst 0, 1) := by decide +kernel
theorem d_jdk_33_m_12_19 : decode jdk_33_method_12_code 19 = .ok (.iload_n 0, 1) := by decide +kernel
theorem d_jdk_33_m_12_20 : decode jdk_33_method_12_code 20 = .ok (.ineg, 1) := by decide +kernel
theorem d_jdk_33_m_12_21 : decode jdk_33_method_12_code 21 = .ok (.istore_n 0, 1) := by decide +kernel
abbrev RM_gch : Room := { frames := 0, cells := 0, slots := 0, locals := 0 }
theorem ef_gch (m : MethodId) (x0 : Int32) (x1 : Int32) (x2 : Addr) : entryFrame m #[(.int x0), (.int x1), (.ref x2)] 7 = mkF m 0 #[.val (.int x0), .val (.int x1), .val (.ref x2), .unset, .unset, .unset, .unset] [] := by first | (simp [entryFrame, mkF, argsToLocals, Value.category]; done) | rfl
set_option maxRecDepth 65536 in
set_option maxHeartbeats 40000000 in
theorem rm_gch (l : Launch) (Z : State) (a0 : Array Value) (G1 : Int32) (G3 : Value) (d1 d2 us ss : Addr) (kd1 kd2 : ClassId) (w1 w2 : List Value) (hX : Ctx Z a0 G1 G3) (hY : More Z d1 d2 us ss kd1 kd2 w1 w2) (n0 : Nat) (bk : Addr → Prop) (h0 : Heap) (O0 : Old Z n0 h0) (x : Int32) (q : Nat) (t : Addr) (kb : ClassId) (N : Nat) (vs : List Value) (pf_0 : Arv Z h0 t kb .byte (Int32.ofNat N) vs (.int 0)) (h1 : 11 ≤ q) (h2 : q ≤ N) (h3 : N ≤ 1000) (nbt : ¬ bk t) (gt : n0 ≤ t) (ws : List Jvm.Cond) : Met l Z EL1 n0 bk (⟨"java/lang/Integer", "getChars", "(II[B)I"⟩ : MethodName) jdk_33_method_12_code 7 (Option.some FieldType.int) RM_gch #[(.int x), (.int (Int32.ofNat q)), (.ref t)] h0 (Q_gch Z G1 G3 d1 d2 us ss kd1 kd2 w1 w2 x q t kb N vs h0 n0 bk) ws := by
  have hX' := hX
  obtain ⟨hw, hE, S1, P1, S3, P3⟩ := hX'
  have hY' := hY
  obtain ⟨s_d1, a_d1, s_d2, a_d2, s_us, s_ss⟩ := hY'
  have hSA := sa_of hw
  have z0 : n0 ≤ h0.size := by rw [← O0.1]; exact O0.2.1
  refine Met.of (by decide +kernel) O0 hE ?_
  intro p e s m below meth c hx hby hml hret hlk hnm
  refine k_cast (ef_gch m x (Int32.ofNat q) t) ?_
  show Run p l e _ s m _ below meth c Z EL1 _ n0 bk h0 0 0 (mkF m 0 #[.val (.int x), .val (.int (Int32.ofNat q)), .val (.ref t), .unset, .unset, .unset, .unset] []) _
  have lt_1 : @LT.lt Nat _ t (Array.size h0) := pf_0.lt
  have pp : Arv Z h0 t kb .byte (Int32.ofNat N) (vs ++ List.replicate N (Value.int 0)) (.int 0) := Arv.pad pf_0 (pad_rep _ (.int 0) N)
  have hl0 : N ≤ (vs ++ List.replicate N (Value.int 0)).length := by rw [List.length_append, List.length_replicate]; omega
  generalize vs ++ List.replicate N (Value.int 0) = vs0 at pp hl0
  refine k_pure (g' := (mkF m 1 #[.val (.int x), .val (.int (Int32.ofNat q)), .val (.ref t), .unset, .unset, .unset, .unset] [(.int (Int32.ofNat q))])) (fun TT HH tt kk => XS.iloadN HH hx rfl (hb hby d_jdk_33_m_12_0) rfl kk) ?_
  refine k_pure (g' := (mkF m 3 #[.val (.int x), .val (.int (Int32.ofNat q)), .val (.ref t), .unset, .unset, .val (.int (Int32.ofNat q)), .unset] [])) (fun TT HH tt kk => XS.istore HH hx rfl (hb hby d_jdk_33_m_12_1) rfl (l' := #[.val (.int x), .val (.int (Int32.ofNat q)), .val (.ref t), .unset, .unset, .val (.int (Int32.ofNat q)), .unset]) rfl kk) ?_
  refine k_pure (g' := (mkF m 4 #[.val (.int x), .val (.int (Int32.ofNat q)), .val (.ref t), .unset, .unset, .val (.int (Int32.ofNat q)), .unset] [(.int x)])) (fun TT HH tt kk => XS.iloadN HH hx rfl (hb hby d_jdk_33_m_12_3) rfl kk) ?_
  by_cases c_2 : x < (0 : Int32)
  · refine k_pure (g' := (mkF m 7 #[.val (.int x), .val (.int (Int32.ofNat q)), .val (.ref t), .unset, .unset, .val (.int (Int32.ofNat q)), .unset] [])) (fun TT HH tt kk => XS.ifNo HH hx rfl (hb hby d_jdk_33_m_12_4) rfl ((if0 _ _).trans (tlt c_2).2.1) kk) ?_
    refine k_pure (g' := (mkF m 8 #[.val (.int x), .val (.int (Int32.ofNat q)), .val (.ref t), .unset, .unset, .val (.int (Int32.ofNat q)), .unset] [(.int (1 : Int32))])) (fun TT HH tt kk => XS.iconst HH hx rfl (hb hby d_jdk_33_m_12_7) kk) ?_
    refine k_pure (g' := (mkF m 12 #[.val (.int x), .val (.int (Int32.ofNat q)), .val (.ref t), .unset, .unset, .val (.int (Int32.ofNat q)), .unset] [(.int (1 : Int32))])) (fun TT HH tt kk => XS.goto HH hx rfl (pc0 := 8) (pc' := 12) rfl (hb hby d_jdk_33_m_12_8) (by decide) (by decide) kk) ?_
    refine k_pure (g' := (mkF m 14 #[.val (.int x), .val (.int (Int32.ofNat q)), .val (.ref t), .unset, .unset, .val (.int (Int32.ofNat q)), .val (.int (1 : Int32))] [])) (fun TT HH tt kk => XS.istore HH hx rfl (hb hby d_jdk_33_m_12_12) rfl (l' := #[.val (.int x), .val (.int (Int32.ofNat q)), .val (.ref t), .unset, .unset, .val (.int (Int32.ofNat q)), .val (.int (1 : Int32))]) rfl kk) ?_
    refine k_pure (g' := (mkF m 16 #[.val (.int x), .val (.int (Int32.ofNat q)), .val (.ref t), .unset, .unset, .val (.int (Int32.ofNat q)), .val (.int (1 : Int32))] [(.int (1 : Int32))])) (fun TT HH tt kk => XS.iload HH hx rfl (hb hby d_jdk_33_m_12_14) rfl kk) ?_
    refine k_pure (g' := (mkF m 22 #[.val (.int x), .val (.int (Int32.ofNat q)), .val (.ref t), .unset, .unset, .val (.int (Int32.ofNat q)), .val (.int (1 : Int32))] [])) (fun TT HH tt kk => XS.ifYes HH hx rfl (pc0 := 16) (pc' := 22) rfl (hb hby d_jdk_33_m_12_16) rfl ((if0 _ _).trans (feq (by decide : ¬ ((1 : Int32) = (0 : Int32)))).2) (by decide) (by decide) kk) ?_
    have hb_4 : -2147483648 ≤ (x).toInt ∧ (x).toInt ≤ 0 := (by have r0 := rng32 x; have r1 : (0 : Int32).toInt = 0 := (by decide); have r2 := (Int32.lt_iff_toInt_lt.mp c_2); omega)
    generalize x = i_3 at hb_4 ⊢
    show Run p l e _ s m _ below meth c Z EL1 _ n0 bk h0 0 0 (mkF m 22 #[.val (.int i_3), .val (.int (Int32.ofNat q)), .val (.ref t), .unset, .unset, .val (.int (Int32.ofNat q)), .val (.int (1 : Int32))] []) _
    refine k_pure (g' := (mkF m 23 #[.val (.int i_3), .val (.int (Int32.ofNat q)), .val (.ref t), .unset, .unset, .val (.int (Int32.ofNat q)), .val (.int (1 : Int32))] [(.int i_3)])) (fun TT HH tt kk => XS.iloadN HH hx rfl (hb hby d_jdk_33_m_12_22) rfl kk) ?_
    refine k_pure (g' := (mkF m 25 #[.val (.int i_3), .val (.int (Int32.ofNat q)), .val (.ref t), .unset, .unset, .val (.int (Int32.ofNat q)), .val (.int (1 : Int32))] [(.int ((-100) : Int32)), (.int i_3)])) (fun TT HH tt kk => XS.bipush HH hx rfl (hb hby d_jdk_33_m_12_23) kk) ?_
    by_cases c_5 : ((-100) : Int32) < i_3
    · refine k_pure (g' := (mkF m 72 #[.val (.int i_3), .val (.int (Int32.ofNat q)), .val (.ref t), .unset, .unset, .val (.int (Int32.ofNat q)), .val (.int (1 : Int32))] [])) (fun TT HH tt kk => XS.icmpYes HH hx rfl (pc0 := 25) (pc' := 72) rfl (hb hby d_jdk_33_m_12_25) rfl (tlt c_5).2.2.1 (by decide) (by decide) kk) ?_
      refine k_pure (g' := (mkF m 73 #[.val (.int i_3), .val (.int (Int32.ofNat q)), .val (.ref t), .unset, .unset, .val (.int (Int32.ofNat q)), .val (.int (1 : Int32))] [(.ref t)])) (fun TT HH tt kk => XS.aloadN HH hx rfl (hb hby d_jdk_33_m_12_72) rfl rfl kk) ?_
      refine k_pure (g' := (mkF m 76 #[.val (.int i_3), .val (.int (Int32.ofNat q)), .val (.ref t), .unset, .unset, .val (.int ((Int32.ofNat q) + ((-1) : Int32))), .val (.int (1 : Int32))] [(.ref t)])) (fun TT HH tt kk => XS.iinc HH hx rfl (hb hby d_jdk_33_m_12_73) rfl (l' := #[.val (.int i_3), .val (.int (Int32.ofNat q)), .val (.ref t), .unset, .unset, .val (.int ((Int32.ofNat q) + ((-1) : Int32))), .val (.int (1 : Int32))]) rfl kk) ?_
      rw [dec_ofNat (by omega) (by omega)]
      show Run p l e _ s m _ below meth c Z EL1 _ n0 bk h0 0 0 (mkF m 76 #[.val (.int i_3), .val (.int (Int32.ofNat q)), .val (.ref t), .unset, .unset, .val (.int (Int32.ofNat (q - 1))), .val (.int (1 : Int32))] [(.ref t)]) _
      refine k_pure (g' := (mkF m 78 #[.val (.int i_3), .val (.int (Int32.ofNat q)), .val (.ref t), .unset, .unset, .val (.int (Int32.ofNat (q - 1))), .val (.int (1 : Int32))] [(.int (Int32.ofNat (q - 1))), (.ref t)])) (fun TT HH tt kk => XS.iload HH hx rfl (hb hby d_jdk_33_m_12_76) rfl kk) ?_
      refine k_getS hx (host := "") (Or.inl (hw _ (List.mem_of_getElem? (i := 128) rfl))) Via.refl (s_d1.ext O0.2) rfl (hb hby d_jdk_33_m_12_78) ?_
      show Run p l e _ s m _ below meth c Z EL1 _ n0 bk h0 0 0 (mkF m 81 #[.val (.int i_3), .val (.int (Int32.ofNat q)), .val (.ref t), .unset, .unset, .val (.int (Int32.ofNat (q - 1))), .val (.int (1 : Int32))] [(.ref d1), (.int (Int32.ofNat (q - 1))), (.ref t)]) _
      refine k_pure (g' := (mkF m 82 #[.val (.int i_3), .val (.int (Int32.ofNat q)), .val (.ref t), .unset, .unset, .val (.int (Int32.ofNat (q - 1))), .val (.int (1 : Int32))] [(.int i_3), (.ref d1), (.int (Int32.ofNat (q - 1))), (.ref t)])) (fun TT HH tt kk => XS.iloadN HH hx rfl (hb hby d_jdk_33_m_12_81) rfl kk) ?_
      refine k_pure (g' := (mkF m 83 #[.val (.int i_3), .val (.int (Int32.ofNat q)), .val (.ref t), .unset, .unset, .val (.int (Int32.ofNat (q - 1))), .val (.int (1 : Int32))] [(.int (-i_3)), (.ref d1), (.int (Int32.ofNat (q - 1))), (.ref t)])) (fun TT HH tt kk => XS.ineg HH hx rfl (hb hby d_jdk_33_m_12_82) rfl kk) ?_
      have hr_7 : 0 ≤ ((-i_3)).toInt ∧ ((-i_3)).toInt ≤ 99 := (by have r0 : ((-100) : Int32).toInt = (-100) := (by decide); have r1 := rng32 i_3; have r2 := c_ineg i_3; have r3 := rng32 (-i_3); have r4 := (Int32.lt_iff_toInt_lt.mp c_5); have r5 := hb_4; omega)
      generalize (-i_3) = i_6 at hr_7 ⊢
      show Run p l e _ s m _ below meth c Z EL1 _ n0 bk h0 0 0 (mkF m 83 #[.val (.int i_3), .val (.int (Int32.ofNat q)), .val (.ref t), .unset, .unset, .val (.int (Int32.ofNat (q - 1))), .val (.int (1 : Int32))] [(.int i_6), (.ref d1), (.int (Int32.ofNat (q - 1))), (.ref t)]) _
      have F_8 : Arv Z h0 d1 kd1 .byte (100 : Int32) w1 (.int 0) := a_d1.ext O0.2
      obtain ⟨x_9, hv_10⟩ := aget_int F_8 (i := (i_6).toNatClampNeg) (dig_lt hr_7)
      refine k_aget hx (v := (.int x_9)) F_8 (dig_in hr_7) hv_10 (Or.inr (Or.inr (Or.inr (Or.inl ⟨rfl, rfl⟩)))) rfl rfl (hb hby d_jdk_33_m_12_83) ?_
      show Run p l e _ s m _ below meth c Z EL1 _ n0 bk h0 0 0 (mkF m 84 #[.val (.int i_3), .val (.int (Int32.ofNat q)), .val (.ref t), .unset, .unset, .val (.int (Int32.ofNat (q - 1))), .val (.int (1 : Int32))] [(.int x_9), (.int (Int32.ofNat (q - 1))), (.ref t)]) _
      refine k_stB hx pp (idx_ok (i := (q - 1)) (n := N) (by omega) (by omega)) ((q - 1)) (clampN (by omega)) (Nat.lt_of_lt_of_le (show (q - 1) < N by omega) hl0) (by omega) nbt rfl rfl (hb hby d_jdk_33_m_12_84) ?_
      intro h_11 O_12 W_13 A_14
      have z_15 := W_13.size
      have V_16 : Arv Z h_11 t kb .byte (Int32.ofNat N) (vs0.set ((q - 1)) (.int (nar .byte x_9))) (.int 0) := A_14
      show Run p l e _ s m _ below meth c Z EL1 _ n0 bk h_11 0 0 (mkF m 85 #[.val (.int i_3), .val (.int (Int32.ofNat q)), .val (.ref t), .unset, .unset, .val (.int (Int32.ofNat (q - 1))), .val (.int (1 : Int32))] []) _
      obtain ⟨vs_17, hl_18, V_19⟩ : ∃ ws : List Value, N ≤ ws.length ∧ Arv Z h_11 t kb .byte (Int32.ofNat N) ws (.int 0) := ⟨_, (by rw [List.length_set]; exact hl0), V_16⟩
      refine k_pure (g' := (mkF m 86 #[.val (.int i_3), .val (.int (Int32.ofNat q)), .val (.ref t), .unset, .unset, .val (.int (Int32.ofNat (q - 1))), .val (.int (1 : Int32))] [(.int i_3)])) (fun TT HH tt kk => XS.iloadN HH hx rfl (hb hby d_jdk_33_m_12_85) rfl kk) ?_
      refine k_pure (g' := (mkF m 88 #[.val (.int i_3), .val (.int (Int32.ofNat q)), .val (.ref t), .unset, .unset, .val (.int (Int32.ofNat (q - 1))), .val (.int (1 : Int32))] [(.int ((-9) : Int32)), (.int i_3)])) (fun TT HH tt kk => XS.bipush HH hx rfl (hb hby d_jdk_33_m_12_86) kk) ?_
      by_cases c_20 : i_3 < ((-9) : Int32)
      · refine k_pure (g' := (mkF m 91 #[.val (.int i_3), .val (.int (Int32.ofNat q)), .val (.ref t), .unset, .unset, .val (.int (Int32.ofNat (q - 1))), .val (.int (1 : Int32))] [])) (fun TT HH tt kk => XS.icmpNo HH hx rfl (hb hby d_jdk_33_m_12_88) rfl (tlt c_20).2.1 kk) ?_
        refine k_pure (g' := (mkF m 92 #[.val (.int i_3), .val (.int (Int32.ofNat q)), .val (.ref t), .unset, .unset, .val (.int (Int32.ofNat (q - 1))), .val (.int (1 : Int32))] [(.ref t)])) (fun TT HH tt kk => XS.aloadN HH hx rfl (hb hby d_jdk_33_m_12_91) rfl rfl kk) ?_
        refine k_pure (g' := (mkF m 95 #[.val (.int i_3), .val (.int (Int32.ofNat q)), .val (.ref t), .unset, .unset, .val (.int ((Int32.ofNat (q - 1)) + ((-1) : Int32))), .val (.int (1 : Int32))] [(.ref t)])) (fun TT HH tt kk => XS.iinc HH hx rfl (hb hby d_jdk_33_m_12_92) rfl (l' := #[.val (.int i_3), .val (.int (Int32.ofNat q)), .val (.ref t), .unset, .unset, .val (.int ((Int32.ofNat (q - 1)) + ((-1) : Int32))), .val (.int (1 : Int32))]) rfl kk) ?_
        rw [dec_ofNat (by omega) (by omega)]
        show Run p l e _ s m _ below meth c Z EL1 _ n0 bk h_11 0 0 (mkF m 95 #[.val (.int i_3), .val (.int (Int32.ofNat q)), .val (.ref t), .unset, .unset, .val (.int (Int32.ofNat ((q - 1) - 1))), .val (.int (1 : Int32))] [(.ref t)]) _
        refine k_pure (g' := (mkF m 97 #[.val (.int i_3), .val (.int (Int32.ofNat q)), .val (.ref t), .unset, .unset, .val (.int (Int32.ofNat ((q - 1) - 1))), .val (.int (1 : Int32))] [(.int (Int32.ofNat ((q - 1) - 1))), (.ref t)])) (fun TT HH tt kk => XS.iload HH hx rfl (hb hby d_jdk_33_m_12_95) rfl kk) ?_
        refine k_getS hx (host := "") (Or.inl (hw _ (List.mem_of_getElem? (i := 199) rfl))) Via.refl (s_d2.ext O_12.2) rfl (hb hby d_jdk_33_m_12_97) ?_
        show Run p l e _ s m _ below meth c Z EL1 _ n0 bk h_11 0 0 (mkF m 100 #[.val (.int i_3), .val (.int (Int32.ofNat q)), .val (.ref t), .unset, .unset, .val (.int (Int32.ofNat ((q - 1) - 1))), .val (.int (1 : Int32))] [(.ref d2), (.int (Int32.ofNat ((q - 1) - 1))), (.ref t)]) _
        refine k_pure (g' := (mkF m 101 #[.val (.int i_3), .val (.int (Int32.ofNat q)), .val (.ref t), .unset, .unset, .val (.int (Int32.ofNat ((q - 1) - 1))), .val (.int (1 : Int32))] [(.int i_3), (.ref d2), (.int (Int32.ofNat ((q - 1) - 1))), (.ref t)])) (fun TT HH tt kk => XS.iloadN HH hx rfl (hb hby d_jdk_33_m_12_100) rfl kk) ?_
        refine k_pure (g' := (mkF m 102 #[.val (.int i_3), .val (.int (Int32.ofNat q)), .val (.ref t), .unset, .unset, .val (.int (Int32.ofNat ((q - 1) - 1))), .val (.int (1 : Int32))] [(.int (-i_3)), (.ref d2), (.int (Int32.ofNat ((q - 1) - 1))), (.ref t)])) (fun TT HH tt kk => XS.ineg HH hx rfl (hb hby d_jdk_33_m_12_101) rfl kk) ?_
        have hr_22 : 0 ≤ ((-i_3)).toInt ∧ ((-i_3)).toInt ≤ 99 := (by have r0 : ((-100) : Int32).toInt = (-100) := (by decide); have r1 := rng32 i_3; have r2 : ((-9) : Int32).toInt = (-9) := (by decide); have r3 := c_ineg i_3; have r4 := rng32 (-i_3); have r5 := (Int32.lt_iff_toInt_lt.mp c_5); have r6 := (Int32.lt_iff_toInt_lt.mp c_20); have r7 := hb_4; omega)
        generalize (-i_3) = i_21 at hr_22 ⊢
        show Run p l e _ s m _ below meth c Z EL1 _ n0 bk h_11 0 0 (mkF m 102 #[.val (.int i_3), .val (.int (Int32.ofNat q)), .val (.ref t), .unset, .unset, .val (.int (Int32.ofNat ((q - 1) - 1))), .val (.int (1 : Int32))] [(.int i_21), (.ref d2), (.int (Int32.ofNat ((q - 1) - 1))), (.ref t)]) _
        have F_23 : Arv Z h_11 d2 kd2 .byte (100 : Int32) w2 (.int 0) := a_d2.ext O_12.2
        obtain ⟨x_24, hv_25⟩ := aget_int F_23 (i := (i_21).toNatClampNeg) (dig_lt hr_22)
        refine k_aget hx (v := (.int x_24)) F_23 (dig_in hr_22) hv_25 (Or.inr (Or.inr (Or.inr (Or.inl ⟨rfl, rfl⟩)))) rfl rfl (hb hby d_jdk_33_m_12_102) ?_
        show Run p l e _ s m _ below meth c Z EL1 _ n0 bk h_11 0 0 (mkF m 103 #[.val (.int i_3), .val (.int (Int32.ofNat q)), .val (.ref t), .unset, .unset, .val (.int (Int32.ofNat ((q - 1) - 1))), .val (.int (1 : Int32))] [(.int x_24), (.int (Int32.ofNat ((q - 1) - 1))), (.ref t)]) _
        refine k_stB hx V_19 (idx_ok (i := ((q - 1) - 1)) (n := N) (by omega) (by omega)) (((q - 1) - 1)) (clampN (by omega)) (Nat.lt_of_lt_of_le (show ((q - 1) - 1) < N by omega) hl_18) (by omega) nbt rfl rfl (hb hby d_jdk_33_m_12_103) ?_
        intro h_26 O_27 W_28 A_29
        have z_30 := W_28.size
        have V_31 : Arv Z h_26 t kb .byte (Int32.ofNat N) (vs_17.set (((q - 1) - 1)) (.int (nar .byte x_24))) (.int 0) := A_29
        show Run p l e _ s m _ below meth c Z EL1 _ n0 bk h_26 0 0 (mkF m 104 #[.val (.int i_3), .val (.int (Int32.ofNat q)), .val (.ref t), .unset, .unset, .val (.int (Int32.ofNat ((q - 1) - 1))), .val (.int (1 : Int32))] []) _
        obtain ⟨vs_32, hl_33, V_34⟩ : ∃ ws : List Value, N ≤ ws.length ∧ Arv Z h_26 t kb .byte (Int32.ofNat N) ws (.int 0) := ⟨_, (by rw [List.length_set]; exact hl_18), V_31⟩
        refine k_pure (g' := (mkF m 106 #[.val (.int i_3), .val (.int (Int32.ofNat q)), .val (.ref t), .unset, .unset, .val (.int (Int32.ofNat ((q - 1) - 1))), .val (.int (1 : Int32))] [(.int (1 : Int32))])) (fun TT HH tt kk => XS.iload HH hx rfl (hb hby d_jdk_33_m_12_104) rfl kk) ?_
        refine k_pure (g' := (mkF m 109 #[.val (.int i_3), .val (.int (Int32.ofNat q)), .val (.ref t), .unset, .unset, .val (.int (Int32.ofNat ((q - 1) - 1))), .val (.int (1 : Int32))] [])) (fun TT HH tt kk => XS.ifNo HH hx rfl (hb hby d_jdk_33_m_12_106) rfl ((if0 _ _).trans (feq (by decide : ¬ ((1 : Int32) = (0 : Int32)))).1) kk) ?_
        refine k_pure (g' := (mkF m 110 #[.val (.int i_3), .val (.int (Int32.ofNat q)), .val (.ref t), .unset, .unset, .val (.int (Int32.ofNat ((q - 1) - 1))), .val (.int (1 : Int32))] [(.ref t)])) (fun TT HH tt kk => XS.aloadN HH hx rfl (hb hby d_jdk_33_m_12_109) rfl rfl kk) ?_
        refine k_pure (g' := (mkF m 113 #[.val (.int i_3), .val (.int (Int32.ofNat q)), .val (.ref t), .unset, .unset, .val (.int ((Int32.ofNat ((q - 1) - 1)) + ((-1) : Int32))), .val (.int (1 : Int32))] [(.ref t)])) (fun TT HH tt kk => XS.iinc HH hx rfl (hb hby d_jdk_33_m_12_110) rfl (l' := #[.val (.int i_3), .val (.int (Int32.ofNat q)), .val (.ref t), .unset, .unset, .val (.int ((Int32.ofNat ((q - 1) - 1)) + ((-1) : Int32))), .val (.int (1 : Int32))]) rfl kk) ?_
        rw [dec_ofNat (by omega) (by omega)]
        show Run p l e _ s m _ below meth c Z EL1 _ n0 bk h_26 0 0 (mkF m 113 #[.val (.int i_3), .val (.int (Int32.ofNat q)), .val (.ref t), .unset, .unset, .val (.int (Int32.ofNat (((q - 1) - 1) - 1))), .val (.int (1 : Int32))] [(.ref t)]) _
        refine k_pure (g' := (mkF m 115 #[.val (.int i_3), .val (.int (Int32.ofNat q)), .val (.ref t), .unset, .unset, .val (.int (Int32.ofNat (((q - 1) - 1) - 1))), .val (.int (1 : Int32))] [(.int (Int32.ofNat (((q - 1) - 1) - 1))), (.ref t)])) (fun TT HH tt kk => XS.iload HH hx rfl (hb hby d_jdk_33_m_12_113) rfl kk) ?_
        refine k_pure (g' := (mkF m 117 #[.val (.int i_3), .val (.int (Int32.ofNat q)), .val (.ref t), .unset, .unset, .val (.int (Int32.ofNat (((q - 1) - 1) - 1))), .val (.int (1 : Int32))] [(.int (45 : Int32)), (.int (Int32.ofNat (((q - 1) - 1) - 1))), (.ref t)])) (fun TT HH tt kk => XS.bipush HH hx rfl (hb hby d_jdk_33_m_12_115) kk) ?_
        refine k_stB hx V_34 (idx_ok (i := (((q - 1) - 1) - 1)) (n := N) (by omega) (by omega)) ((((q - 1) - 1) - 1)) (clampN (by omega)) (Nat.lt_of_lt_of_le (show (((q - 1) - 1) - 1) < N by omega) hl_33) (by omega) nbt rfl rfl (hb hby d_jdk_33_m_12_117) ?_
        intro h_35 O_36 W_37 A_38
        have z_39 := W_37.size
        have V_40 : Arv Z h_35 t kb .byte (Int32.ofNat N) (vs_32.set ((((q - 1) - 1) - 1)) (.int (45 : Int32))) (.int 0) := A_38
        show Run p l e _ s m _ below meth c Z EL1 _ n0 bk h_35 0 0 (mkF m 118 #[.val (.int i_3), .val (.int (Int32.ofNat q)), .val (.ref t), .unset, .unset, .val (.int (Int32.ofNat (((q - 1) - 1) - 1))), .val (.int (1 : Int32))] []) _
        obtain ⟨vs_41, hl_42, V_43⟩ : ∃ ws : List Value, N ≤ ws.length ∧ Arv Z h_35 t kb .byte (Int32.ofNat N) ws (.int 0) := ⟨_, (by rw [List.length_set]; exact hl_33), V_40⟩
        refine k_pure (g' := (mkF m 120 #[.val (.int i_3), .val (.int (Int32.ofNat q)), .val (.ref t), .unset, .unset, .val (.int (Int32.ofNat (((q - 1) - 1) - 1))), .val (.int (1 : Int32))] [(.int (Int32.ofNat (((q - 1) - 1) - 1)))])) (fun TT HH tt kk => XS.iload HH hx rfl (hb hby d_jdk_33_m_12_118) rfl kk) ?_
        exact k_retI hx hlk hret (hb hby d_jdk_33_m_12_120) (by decide) (by decide) ⟨_, _, rfl, rfl, ((((Keep.refl _ _).wr W_13 (Or.inl (by simp))).wr W_28 (Or.inl (by simp))).wr W_37 (Or.inl (by simp))), V_43⟩
      · refine k_pure (g' := (mkF m 104 #[.val (.int i_3), .val (.int (Int32.ofNat q)), .val (.ref t), .unset, .unset, .val (.int (Int32.ofNat (q - 1))), .val (.int (1 : Int32))] [])) (fun TT HH tt kk => XS.icmpYes HH hx rfl (pc0 := 88) (pc' := 104) rfl (hb hby d_jdk_33_m_12_88) rfl (flt c_20).2.1 (by decide) (by decide) kk) ?_
        refine k_pure (g' := (mkF m 106 #[.val (.int i_3), .val (.int (Int32.ofNat q)), .val (.ref t), .unset, .unset, .val (.int (Int32.ofNat (q - 1))), .val (.int (1 : Int32))] [(.int (1 : Int32))])) (fun TT HH tt kk => XS.iload HH hx rfl (hb hby d_jdk_33_m_12_104) rfl kk) ?_
        refine k_pure (g' := (mkF m 109 #[.val (.int i_3), .val (.int (Int32.ofNat q)), .val (.ref t), .unset, .unset, .val (.int (Int32.ofNat (q - 1))), .val (.int (1 : Int32))] [])) (fun TT HH tt kk => XS.ifNo HH hx rfl (hb hby d_jdk_33_m_12_106) rfl ((if0 _ _).trans (feq (by decide : ¬ ((1 : Int32) = (0 : Int32)))).1) kk) ?_
        refine k_pure (g' := (mkF m 110 #[.val (.int i_3), .val (.int (Int32.ofNat q)), .val (.ref t), .unset, .unset, .val (.int (Int32.ofNat (q - 1))), .val (.int (1 : Int32))] [(.ref t)])) (fun TT HH tt kk => XS.aloadN HH hx rfl (hb hby d_jdk_33_m_12_109) rfl rfl kk) ?_
        refine k_pure (g' := (mkF m 113 #[.val (.int i_3), .val (.int (Int32.ofNat q)), .val (.ref t), .unset, .unset, .val (.int ((Int32.ofNat (q - 1)) + ((-1) : Int32))), .val (.int (1 : Int32))] [(.ref t)])) (fun TT HH tt kk => XS.iinc HH hx rfl (hb hby d_jdk_33_m_12_110) rfl (l' := #[.val (.int i_3), .val (.int (Int32.ofNat q)), .val (.ref t), .unset, .unset, .val (.int ((Int32.ofNat (q - 1)) + ((-1) : Int32))), .val (.int (1 : Int32))]) rfl kk) ?_
        rw [dec_ofNat (by omega) (by omega)]
        show Run p l e _ s m _ below meth c Z EL1 _ n0 bk h_11 0 0 (mkF m 113 #[.val (.int i_3), .val (.int (Int32.ofNat q)), .val (.ref t), .unset, .unset, .val (.int (Int32.ofNat ((q - 1) - 1))), .val (.int (1 : Int32))] [(.ref t)]) _
        refine k_pure (g' := (mkF m 115 #[.val (.int i_3), .val (.int (Int32.ofNat q)), .val (.ref t), .unset, .unset, .val (.int (Int32.ofNat ((q - 1) - 1))), .val (.int (1 : Int32))] [(.int (Int32.ofNat ((q - 1) - 1))), (.ref t)])) (fun TT HH tt kk => XS.iload HH hx rfl (hb hby d_jdk_33_m_12_113) rfl kk) ?_
        refine k_pure (g' := (mkF m 117 #[.val (.int i_3), .val (.int (Int32.ofNat q)), .val (.ref t), .unset, .unset, .val (.int (Int32.ofNat ((q - 1) - 1))), .val (.int (1 : Int32))] [(.int (45 : Int32)), (.int (Int32.ofNat ((q - 1) - 1))), (.ref t)])) (fun TT HH tt kk => XS.bipush HH hx rfl (hb hby d_jdk_33_m_12_115) kk) ?_
        refine k_stB hx V_19 (idx_ok (i := ((q - 1) - 1)) (n := N) (by omega) (by omega)) (((q - 1) - 1)) (clampN (by omega)) (Nat.lt_of_lt_of_le (show ((q - 1) - 1) < N by omega) hl_18) (by omega) nbt rfl rfl (hb hby d_jdk_33_m_12_117) ?_
        intro h_44 O_45 W_46 A_47
        have z_48 := W_46.size
        have V_49 : Arv Z h_44 t kb .byte (Int32.ofNat N) (vs_17.set (((q - 1) - 1)) (.int (45 : Int32))) (.int 0) := A_47
        show Run p l e _ s m _ below meth c Z EL1 _ n0 bk h_44 0 0 (mkF m 118 #[.val (.int i_3), .val (.int (Int32.ofNat q)), .val (.ref t), .unset, .unset, .val (.int (Int32.ofNat ((q - 1) - 1))), .val (.int (1 : Int32))] []) _
        obtain ⟨vs_50, hl_51, V_52⟩ : ∃ ws : List Value, N ≤ ws.length ∧ Arv Z h_44 t kb .byte (Int32.ofNat N) ws (.int 0) := ⟨_, (by rw [List.length_set]; exact hl_18), V_49⟩
        refine k_pure (g' := (mkF m 120 #[.val (.int i_3), .val (.int (Int32.ofNat q)), .val (.ref t), .unset, .unset, .val (.int (Int32.ofNat ((q - 1) - 1))), .val (.int (1 : Int32))] [(.int (Int32.ofNat ((q - 1) - 1)))])) (fun TT HH tt kk => XS.iload HH hx rfl (hb hby d_jdk_33_m_12_118) rfl kk) ?_
        exact k_retI hx hlk hret (hb hby d_jdk_33_m_12_120) (by decide) (by decide) ⟨_, _, rfl, rfl, (((Keep.refl _ _).wr W_13 (Or.inl (by simp))).wr W_46 (Or.inl (by simp))), V_52⟩
    · refine k_pure (g' := (mkF m 28 #[.val (.int i_3), .val (.int (Int32.ofNat q)), .val (.ref t), .unset, .unset, .val (.int (Int32.ofNat q)), .val (.int (1 : Int32))] [])) (fun TT HH tt kk => XS.icmpNo HH hx rfl (hb hby d_jdk_33_m_12_25) rfl (flt c_5).2.2.1 kk) ?_
      refine k_pure (g' := (mkF m 29 #[.val (.int i_3), .val (.int (Int32.ofNat q)), .val (.ref t), .unset, .unset, .val (.int (Int32.ofNat q)), .val (.int (1 : Int32))] [(.int i_3)])) (fun TT HH tt kk => XS.iloadN HH hx rfl (hb hby d_jdk_33_m_12_28) rfl kk) ?_
      refine k_pure (g' := (mkF m 31 #[.val (.int i_3), .val (.int (Int32.ofNat q)), .val (.ref t), .unset, .unset, .val (.int (Int32.ofNat q)), .val (.int (1 : Int32))] [(.int (100 : Int32)), (.int i_3)])) (fun TT HH tt kk => XS.bipush HH hx rfl (hb hby d_jdk_33_m_12_29) kk) ?_
      refine k_pure (g' := (mkF m 32 #[.val (.int i_3), .val (.int (Int32.ofNat q)), .val (.ref t), .unset, .unset, .val (.int (Int32.ofNat q)), .val (.int (1 : Int32))] [(.int (i_3 / (100 : Int32)))])) (fun TT HH tt kk => XS.idiv HH hx rfl (hb hby d_jdk_33_m_12_31) rfl (by decide) kk) ?_
      refine k_pure (g' := (mkF m 33 #[.val (.int i_3), .val (.int (Int32.ofNat q)), .val (.ref t), .val (.int (i_3 / (100 : Int32))), .unset, .val (.int (Int32.ofNat q)), .val (.int (1 : Int32))] [])) (fun TT HH tt kk => XS.istoreN HH hx rfl (hb hby d_jdk_33_m_12_32) rfl (l' := #[.val (.int i_3), .val (.int (Int32.ofNat q)), .val (.ref t), .val (.int (i_3 / (100 : Int32))), .unset, .val (.int (Int32.ofNat q)), .val (.int (1 : Int32))]) rfl kk) ?_
      refine k_pure (g' := (mkF m 34 #[.val (.int i_3), .val (.int (Int32.ofNat q)), .val (.ref t), .val (.int (i_3 / (100 : Int32))), .unset, .val (.int (Int32.ofNat q)), .val (.int (1 : Int32))] [(.int (i_3 / (100 : Int32)))])) (fun TT HH tt kk => XS.iloadN HH hx rfl (hb hby d_jdk_33_m_12_33) rfl kk) ?_
      refine k_pure (g' := (mkF m 36 #[.val (.int i_3), .val (.int (Int32.ofNat q)), .val (.ref t), .val (.int (i_3 / (100 : Int32))), .unset, .val (.int (Int32.ofNat q)), .val (.int (1 : Int32))] [(.int (100 : Int32)), (.int (i_3 / (100 : Int32)))])) (fun TT HH tt kk => XS.bipush HH hx rfl (hb hby d_jdk_33_m_12_34) kk) ?_
      refine k_pure (g' := (mkF m 37 #[.val (.int i_3), .val (.int (Int32.ofNat q)), .val (.ref t), .val (.int (i_3 / (100 : Int32))), .unset, .val (.int (Int32.ofNat q)), .val (.int (1 : Int32))] [(.int ((i_3 / (100 : Int32)) * (100 : Int32)))])) (fun TT HH tt kk => XS.imul HH hx rfl (hb hby d_jdk_33_m_12_36) rfl kk) ?_
      refine k_pure (g' := (mkF m 38 #[.val (.int i_3), .val (.int (Int32.ofNat q)), .val (.ref t), .val (.int (i_3 / (100 : Int32))), .unset, .val (.int (Int32.ofNat q)), .val (.int (1 : Int32))] [(.int i_3), (.int ((i_3 / (100 : Int32)) * (100 : Int32)))])) (fun TT HH tt kk => XS.iloadN HH hx rfl (hb hby d_jdk_33_m_12_37) rfl kk) ?_
      refine k_pure (g' := (mkF m 39 #[.val (.int i_3), .val (.int (Int32.ofNat q)), .val (.ref t), .val (.int (i_3 / (100 : Int32))), .unset, .val (.int (Int32.ofNat q)), .val (.int (1 : Int32))] [(.int (((i_3 / (100 : Int32)) * (100 : Int32)) - i_3))])) (fun TT HH tt kk => XS.isub HH hx rfl (hb hby d_jdk_33_m_12_38) rfl kk) ?_
      refine k_pure (g' := (mkF m 41 #[.val (.int i_3), .val (.int (Int32.ofNat q)), .val (.ref t), .val (.int (i_3 / (100 : Int32))), .val (.int (((i_3 / (100 : Int32)) * (100 : Int32)) - i_3)), .val (.int (Int32.ofNat q)), .val (.int (1 : Int32))] [])) (fun TT HH tt kk => XS.istore HH hx rfl (hb hby d_jdk_33_m_12_39) rfl (l' := #[.val (.int i_3), .val (.int (Int32.ofNat q)), .val (.ref t), .val (.int (i_3 / (100 : Int32))), .val (.int (((i_3 / (100 : Int32)) * (100 : Int32)) - i_3)), .val (.int (Int32.ofNat q)), .val (.int (1 : Int32))]) rfl kk) ?_
      refine k_pure (g' := (mkF m 42 #[.val (.int i_3), .val (.int (Int32.ofNat q)), .val (.ref t), .val (.int (i_3 / (100 : Int32))), .val (.int (((i_3 / (100 : Int32)) * (100 : Int32)) - i_3)), .val (.int (Int32.ofNat q)), .val (.int (1 : Int32))] [(.int (i_3 / (100 : Int32)))])) (fun TT HH tt kk => XS.iloadN HH hx rfl (hb hby d_jdk_33_m_12_41) rfl kk) ?_
      refine k_pure (g' := (mkF m 43 #[.val (.int (i_3 / (100 : Int32))), .val (.int (Int32.ofNat q)), .val (.ref t), .val (.int (i_3 / (100 : Int32))), .val (.int (((i_3 / (100 : Int32)) * (100 : Int32)) - i_3)), .val (.int (Int32.ofNat q)), .val (.int (1 : Int32))] [])) (fun TT HH tt kk => XS.istoreN HH hx rfl (hb hby d_jdk_33_m_12_42) rfl (l' := #[.val (.int (i_3 / (100 : Int32))), .val (.int (Int32.ofNat q)), .val (.ref t), .val (.int (i_3 / (100 : Int32))), .val (.int (((i_3 / (100 : Int32)) * (100 : Int32)) - i_3)), .val (.int (Int32.ofNat q)), .val (.int (1 : Int32))]) rfl kk) ?_
      have hr_54 : 0 ≤ ((((i_3 / (100 : Int32)) * (100 : Int32)) - i_3)).toInt ∧ ((((i_3 / (100 : Int32)) * (100 : Int32)) - i_3)).toInt ≤ 99 := (by have r0 : ((-100) : Int32).toInt = (-100) := (by decide); have r1 := rng32 i_3; have r2 := c_idiv i_3 (100 : Int32) 100 (by decide) (by decide); have r3 := rng32 (i_3 / (100 : Int32)); have r4 := (by have q := c_imul (i_3 / (100 : Int32)) (100 : Int32); rw [show (100 : Int32).toInt = 100 from by decide] at q; exact q); have r5 := rng32 ((i_3 / (100 : Int32)) * (100 : Int32)); have r6 := c_isub ((i_3 / (100 : Int32)) * (100 : Int32)) i_3; have r7 := rng32 (((i_3 / (100 : Int32)) * (100 : Int32)) - i_3); have r8 : ¬ (((-100) : Int32)).toInt < (i_3).toInt := fun q => c_5 (Int32.lt_iff_toInt_lt.mpr q); have r9 := hb_4; omega)
      generalize (((i_3 / (100 : Int32)) * (100 : Int32)) - i_3) = i_53 at hr_54 ⊢
      show Run p l e _ s m _ below meth c Z EL1 _ n0 bk h0 0 0 (mkF m 43 #[.val (.int (i_3 / (100 : Int32))), .val (.int (Int32.ofNat q)), .val (.ref t), .val (.int (i_3 / (100 : Int32))), .val (.int i_53), .val (.int (Int32.ofNat q)), .val (.int (1 : Int32))] []) _
      refine k_pure (g' := (mkF m 44 #[.val (.int (i_3 / (100 : Int32))), .val (.int (Int32.ofNat q)), .val (.ref t), .val (.int (i_3 / (100 : Int32))), .val (.int i_53), .val (.int (Int32.ofNat q)), .val (.int (1 : Int32))] [(.ref t)])) (fun TT HH tt kk => XS.aloadN HH hx rfl (hb hby d_jdk_33_m_12_43) rfl rfl kk) ?_
      refine k_pure (g' := (mkF m 47 #[.val (.int (i_3 / (100 : Int32))), .val (.int (Int32.ofNat q)), .val (.ref t), .val (.int (i_3 / (100 : Int32))), .val (.int i_53), .val (.int ((Int32.ofNat q) + ((-1) : Int32))), .val (.int (1 : Int32))] [(.ref t)])) (fun TT HH tt kk => XS.iinc HH hx rfl (hb hby d_jdk_33_m_12_44) rfl (l' := #[.val (.int (i_3 / (100 : Int32))), .val (.int (Int32.ofNat q)), .val (.ref t), .val (.int (i_3 / (100 : Int32))), .val (.int i_53), .val (.int ((Int32.ofNat q) + ((-1) : Int32))), .val (.int (1 : Int32))]) rfl kk) ?_
      rw [dec_ofNat (by omega) (by omega)]
      show Run p l e _ s m _ below meth c Z EL1 _ n0 bk h0 0 0 (mkF m 47 #[.val (.int (i_3 / (100 : Int32))), .val (.int (Int32.ofNat q)), .val (.ref t), .val (.int (i_3 / (100 : Int32))), .val (.int i_53), .val (.int (Int32.ofNat (q - 1))), .val (.int (1 : Int32))] [(.ref t)]) _
      refine k_pure (g' := (mkF m 49 #[.val (.int (i_3 / (100 : Int32))), .val (.int (Int32.ofNat q)), .val (.ref t), .val (.int (i_3 / (100 : Int32))), .val (.int i_53), .val (.int (Int32.ofNat (q - 1))), .val (.int (1 : Int32))] [(.int (Int32.ofNat (q - 1))), (.ref t)])) (fun TT HH tt kk => XS.iload HH hx rfl (hb hby d_jdk_33_m_12_47) rfl kk) ?_
      refine k_getS hx (host := "") (Or.inl (hw _ (List.mem_of_getElem? (i := 128) rfl))) Via.refl (s_d1.ext O0.2) rfl (hb hby d_jdk_33_m_12_49) ?_
      show Run p l e _ s m _ below meth c Z EL1 _ n0 bk h0 0 0 (mkF m 52 #[.val (.int (i_3 / (100 : Int32))), .val (.int (Int32.ofNat q)), .val (.ref t), .val (.int (i_3 / (100 : Int32))), .val (.int i_53), .val (.int (Int32.ofNat (q - 1))), .val (.int (1 : Int32))] [(.ref d1), (.int (Int32.ofNat (q - 1))), (.ref t)]) _
      refine k_pure (g' := (mkF m 54 #[.val (.int (i_3 / (100 : Int32))), .val (.int (Int32.ofNat q)), .val (.ref t), .val (.int (i_3 / (100 : Int32))), .val (.int i_53), .val (.int (Int32.ofNat (q - 1))), .val (.int (1 : Int32))] [(.int i_53), (.ref d1), (.int (Int32.ofNat (q - 1))), (.ref t)])) (fun TT HH tt kk => XS.iload HH hx rfl (hb hby d_jdk_33_m_12_52) rfl kk) ?_
      have F_55 : Arv Z h0 d1 kd1 .byte (100 : Int32) w1 (.int 0) := a_d1.ext O0.2
      obtain ⟨x_56, hv_57⟩ := aget_int F_55 (i := (i_53).toNatClampNeg) (dig_lt hr_54)
      refine k_aget hx (v := (.int x_56)) F_55 (dig_in hr_54) hv_57 (Or.inr (Or.inr (Or.inr (Or.inl ⟨rfl, rfl⟩)))) rfl rfl (hb hby d_jdk_33_m_12_54) ?_
      show Run p l e _ s m _ below meth c Z EL1 _ n0 bk h0 0 0 (mkF m 55 #[.val (.int (i_3 / (100 : Int32))), .val (.int (Int32.ofNat q)), .val (.ref t), .val (.int (i_3 / (100 : Int32))), .val (.int i_53), .val (.int (Int32.ofNat (q - 1))), .val (.int (1 : Int32))] [(.int x_56), (.int (Int32.ofNat (q - 1))), (.ref t)]) _
      refine k_stB hx pp (idx_ok (i := (q - 1)) (n := N) (by omega) (by omega)) ((q - 1)) (clampN (by omega)) (Nat.lt_of_lt_of_le (show (q - 1) < N by omega) hl0) (by omega) nbt rfl rfl (hb hby d_jdk_33_m_12_55) ?_
      intro h_58 O_59 W_60 A_61
      have z_62 := W_60.size
      have V_63 : Arv Z h_58 t kb .byte (Int32.ofNat N) (vs0.set ((q - 1)) (.int (nar .byte x_56))) (.int 0) := A_61
      show Run p l e _ s m _ below meth c Z EL1 _ n0 bk h_58 0 0 (mkF m 56 #[.val (.int (i_3 / (100 : Int32))), .val (.int (Int32.ofNat q)), .val (.ref t), .val (.int (i_3 / (100 : Int32))), .val (.int i_53), .val (.int (Int32.ofNat (q - 1))), .val (.int (1 : Int32))] []) _
      obtain ⟨vs_64, hl_65, V_66⟩ : ∃ ws : List Value, N ≤ ws.length ∧ Arv Z h_58 t kb .byte (Int32.ofNat N) ws (.int 0) := ⟨_, (by rw [List.length_set]; exact hl0), V_63⟩
      refine k_pure (g' := (mkF m 57 #[.val (.int (i_3 / (100 : Int32))), .val (.int (Int32.ofNat q)), .val (.ref t), .val (.int (i_3 / (100 : Int32))), .val (.int i_53), .val (.int (Int32.ofNat (q - 1))), .val (.int (1 : Int32))] [(.ref t)])) (fun TT HH tt kk => XS.aloadN HH hx rfl (hb hby d_jdk_33_m_12_56) rfl rfl kk) ?_
      refine k_pure (g' := (mkF m 60 #[.val (.int (i_3 / (100 : Int32))), .val (.int (Int32.ofNat q)), .val (.ref t), .val (.int (i_3 / (100 : Int32))), .val (.int i_53), .val (.int ((Int32.ofNat (q - 1)) + ((-1) : Int32))), .val (.int (1 : Int32))] [(.ref t)])) (fun TT HH tt kk => XS.iinc HH hx rfl (hb hby d_jdk_33_m_12_57) rfl (l' := #[.val (.int (i_3 / (100 : Int32))), .val (.int (Int32.ofNat q)), .val (.ref t), .val (.int (i_3 / (100 : Int32))), .val (.int i_53), .val (.int ((Int32.ofNat (q - 1)) + ((-1) : Int32))), .val (.int (1 : Int32))]) rfl kk) ?_
      rw [dec_ofNat (by omega) (by omega)]
      show Run p l e _ s m _ below meth c Z EL1 _ n0 bk h_58 0 0 (mkF m 60 #[.val (.int (i_3 / (100 : Int32))), .val (.int (Int32.ofNat q)), .val (.ref t), .val (.int (i_3 / (100 : Int32))), .val (.int i_53), .val (.int (Int32.ofNat ((q - 1) - 1))), .val (.int (1 : Int32))] [(.ref t)]) _
      refine k_pure (g' := (mkF m 62 #[.val (.int (i_3 / (100 : Int32))), .val (.int (Int32.ofNat q)), .val (.ref t), .val (.int (i_3 / (100 : Int32))), .val (.int i_53), .val (.int (Int32.ofNat ((q - 1) - 1))), .val (.int (1 : Int32))] [(.int (Int32.ofNat ((q - 1) - 1))), (.ref t)])) (fun TT HH tt kk => XS.iload HH hx rfl (hb hby d_jdk_33_m_12_60) rfl kk) ?_
      refine k_getS hx (host := "") (Or.inl (hw _ (List.mem_of_getElem? (i := 199) rfl))) Via.refl (s_d2.ext O_59.2) rfl (hb hby d_jdk_33_m_12_62) ?_
      show Run p l e _ s m _ below meth c Z EL1 _ n0 bk h_58 0 0 (mkF m 65 #[.val (.int (i_3 / (100 : Int32))), .val (.int (Int32.ofNat q)), .val (.ref t), .val (.int (i_3 / (100 : Int32))), .val (.int i_53), .val (.int (Int32.ofNat ((q - 1) - 1))), .val (.int (1 : Int32))] [(.ref d2), (.int (Int32.ofNat ((q - 1) - 1))), (.ref t)]) _
      refine k_pure (g' := (mkF m 67 #[.val (.int (i_3 / (100 : Int32))), .val (.int (Int32.ofNat q)), .val (.ref t), .val (.int (i_3 / (100 : Int32))), .val (.int i_53), .val (.int (Int32.ofNat ((q - 1) - 1))), .val (.int (1 : Int32))] [(.int i_53), (.ref d2), (.int (Int32.ofNat ((q - 1) - 1))), (.ref t)])) (fun TT HH tt kk => XS.iload HH hx rfl (hb hby d_jdk_33_m_12_65) rfl kk) ?_
      have F_67 : Arv Z h_58 d2 kd2 .byte (100 : Int32) w2 (.int 0) := a_d2.ext O_59.2
      obtain ⟨x_68, hv_69⟩ := aget_int F_67 (i := (i_53).toNatClampNeg) (dig_lt hr_54)
      refine k_aget hx (v := (.int x_68)) F_67 (dig_in hr_54) hv_69 (Or.inr (Or.inr (Or.inr (Or.inl ⟨rfl, rfl⟩)))) rfl rfl (hb hby d_jdk_33_m_12_67) ?_
      show Run p l e _ s m _ below meth c Z EL1 _ n0 bk h_58 0 0 (mkF m 68 #[.val (.int (i_3 / (100 : Int32))), .val (.int (Int32.ofNat q)), .val (.ref t), .val (.int (i_3 / (100 : Int32))), .val (.int i_53), .val (.int (Int32.ofNat ((q - 1) - 1))), .val (.int (1 : Int32))] [(.int x_68), (.int (Int32.ofNat ((q - 1) - 1))), (.ref t)]) _
      refine k_stB hx V_66 (idx_ok (i := ((q - 1) - 1)) (n := N) (by omega) (by omega)) (((q - 1) - 1)) (clampN (by omega)) (Nat.lt_of_lt_of_le (show ((q - 1) - 1) < N by omega) hl_65) (by omega) nbt rfl rfl (hb hby d_jdk_33_m_12_68) ?_
      intro h_70 O_71 W_72 A_73
      have z_74 := W_72.size
      have V_75 : Arv Z h_70 t kb .byte (Int32.ofNat N) (vs_64.set (((q - 1) - 1)) (.int (nar .byte x_68))) (.int 0) := A_73
      show Run p l e _ s m _ below meth c Z EL1 _ n0 bk h_70 0 0 (mkF m 69 #[.val (.int (i_3 / (100 : Int32))), .val (.int (Int32.ofNat q)), .val (.ref t), .val (.int (i_3 / (100 : Int32))), .val (.int i_53), .val (.int (Int32.ofNat ((q - 1) - 1))), .val (.int (1 : Int32))] []) _
      obtain ⟨vs_76, hl_77, V_78⟩ : ∃ ws : List Value, N ≤ ws.length ∧ Arv Z h_70 t kb .byte (Int32.ofNat N) ws (.int 0) := ⟨_, (by rw [List.length_set]; exact hl_65), V_75⟩
      refine k_pure (g' := (mkF m 22 #[.val (.int (i_3 / (100 : Int32))), .val (.int (Int32.ofNat q)), .val (.ref t), .val (.int (i_3 / (100 : Int32))), .val (.int i_53), .val (.int (Int32.ofNat ((q - 1) - 1))), .val (.int (1 : Int32))] [])) (fun TT HH tt kk => XS.goto HH hx rfl (pc0 := 69) (pc' := 22) rfl (hb hby d_jdk_33_m_12_69) (by decide) (by decide) kk) ?_
      have hb_80 : -21474836 ≤ ((i_3 / (100 : Int32))).toInt ∧ ((i_3 / (100 : Int32))).toInt ≤ 0 := (by have r0 : ((-100) : Int32).toInt = (-100) := (by decide); have r1 := rng32 i_3; have r2 := c_idiv i_3 (100 : Int32) 100 (by decide) (by decide); have r3 := rng32 (i_3 / (100 : Int32)); have r4 : ¬ (((-100) : Int32)).toInt < (i_3).toInt := fun q => c_5 (Int32.lt_iff_toInt_lt.mpr q); have r5 := hb_4; omega)
      generalize (i_3 / (100 : Int32)) = i_79 at hb_80 ⊢
      show Run p l e _ s m _ below meth c Z EL1 _ n0 bk h_70 0 0 (mkF m 22 #[.val (.int i_79), .val (.int (Int32.ofNat q)), .val (.ref t), .val (.int i_79), .val (.int i_53), .val (.int (Int32.ofNat ((q - 1) - 1))), .val (.int (1 : Int32))] []) _
      refine k_pure (g' := (mkF m 23 #[.val (.int i_79), .val (.int (Int32.ofNat q)), .val (.ref t), .val (.int i_79), .val (.int i_53), .val (.int (Int32.ofNat ((q - 1) - 1))), .val (.int (1 : Int32))] [(.int i_79)])) (fun TT HH tt kk => XS.iloadN HH hx rfl (hb hby d_jdk_33_m_12_22) rfl kk) ?_
      refine k_pure (g' := (mkF m 25 #[.val (.int i_79), .val (.int (Int32.ofNat q)), .val (.ref t), .val (.int i_79), .val (.int i_53), .val (.int (Int32.ofNat ((q - 1) - 1))), .val (.int (1 : Int32))] [(.int ((-100) : Int32)), (.int i_79)])) (fun TT HH tt kk => XS.bipush HH hx rfl (hb hby d_jdk_33_m_12_23) kk) ?_
      by_cases c_81 : ((-100) : Int32) < i_79
      · refine k_pure (g' := (mkF m 72 #[.val (.int i_79), .val (.int (Int32.ofNat q)), .val (.ref t), .val (.int i_79), .val (.int i_53), .val (.int (Int32.ofNat ((q - 1) - 1))), .val (.int (1 : Int32))] [])) (fun TT HH tt kk => XS.icmpYes HH hx rfl (pc0 := 25) (pc' := 72) rfl (hb hby d_jdk_33_m_12_25) rfl (tlt c_81).2.2.1 (by decide) (by decide) kk) ?_
        refine k_pure (g' := (mkF m 73 #[.val (.int i_79), .val (.int (Int32.ofNat q)), .val (.ref t), .val (.int i_79), .val (.int i_53), .val (.int (Int32.ofNat ((q - 1) - 1))), .val (.int (1 : Int32))] [(.ref t)])) (fun TT HH tt kk => XS.aloadN HH hx rfl (hb hby d_jdk_33_m_12_72) rfl rfl kk) ?_
        refine k_pure (g' := (mkF m 76 #[.val (.int i_79), .val (.int (Int32.ofNat q)), .val (.ref t), .val (.int i_79), .val (.int i_53), .val (.int ((Int32.ofNat ((q - 1) - 1)) + ((-1) : Int32))), .val (.int (1 : Int32))] [(.ref t)])) (fun TT HH tt kk => XS.iinc HH hx rfl (hb hby d_jdk_33_m_12_73) rfl (l' := #[.val (.int i_79), .val (.int (Int32.ofNat q)), .val (.ref t), .val (.int i_79), .val (.int i_53), .val (.int ((Int32.ofNat ((q - 1) - 1)) + ((-1) : Int32))), .val (.int (1 : Int32))]) rfl kk) ?_
        rw [dec_ofNat (by omega) (by omega)]
        show Run p l e _ s m _ below meth c Z EL1 _ n0 bk h_70 0 0 (mkF m 76 #[.val (.int i_79), .val (.int (Int32.ofNat q)), .val (.ref t), .val (.int i_79), .val (.int i_53), .val (.int (Int32.ofNat (((q - 1) - 1) - 1))), .val (.int (1 : Int32))] [(.ref t)]) _
        refine k_pure (g' := (mkF m 78 #[.val (.int i_79), .val (.int (Int32.ofNat q)), .val (.ref t), .val (.int i_79), .val (.int i_53), .val (.int (Int32.ofNat (((q - 1) - 1) - 1))), .val (.int (1 : Int32))] [(.int (Int32.ofNat (((q - 1) - 1) - 1))), (.ref t)])) (fun TT HH tt kk => XS.iload HH hx rfl (hb hby d_jdk_33_m_12_76) rfl kk) ?_
        refine k_getS hx (host := "") (Or.inl (hw _ (List.mem_of_getElem? (i := 128) rfl))) Via.refl (s_d1.ext O_71.2) rfl (hb hby d_jdk_33_m_12_78) ?_
        show Run p l e _ s m _ below meth c Z EL1 _ n0 bk h_70 0 0 (mkF m 81 #[.val (.int i_79), .val (.int (Int32.ofNat q)), .val (.ref t), .val (.int i_79), .val (.int i_53), .val (.int (Int32.ofNat (((q - 1) - 1) - 1))), .val (.int (1 : Int32))] [(.ref d1), (.int (Int32.ofNat (((q - 1) - 1) - 1))), (.ref t)]) _
        refine k_pure (g' := (mkF m 82 #[.val (.int i_79), .val (.int (Int32.ofNat q)), .val (.ref t), .val (.int i_79), .val (.int i_53), .val (.int (Int32.ofNat (((q - 1) - 1) - 1))), .val (.int (1 : Int32))] [(.int i_79), (.ref d1), (.int (Int32.ofNat (((q - 1) - 1) - 1))), (.ref t)])) (fun TT HH tt kk => XS.iloadN HH hx rfl (hb hby d_jdk_33_m_12_81) rfl kk) ?_
        refine k_pure (g' := (mkF m 83 #[.val (.int i_79), .val (.int (Int32.ofNat q)), .val (.ref t), .val (.int i_79), .val (.int i_53), .val (.int (Int32.ofNat (((q - 1) - 1) - 1))), .val (.int (1 : Int32))] [(.int (-i_79)), (.ref d1), (.int (Int32.ofNat (((q - 1) - 1) - 1))), (.ref t)])) (fun TT HH tt kk => XS.ineg HH hx rfl (hb hby d_jdk_33_m_12_82) rfl kk) ?_
        have hr_83 : 0 ≤ ((-i_79)).toInt ∧ ((-i_79)).toInt ≤ 99 := (by have r0 : ((-100) : Int32).toInt = (-100) := (by decide); have r1 := rng32 i_79; have r2 := c_ineg i_79; have r3 := rng32 (-i_79); have r4 := (Int32.lt_iff_toInt_lt.mp c_81); have r5 := hb_80; omega)
        generalize (-i_79) = i_82 at hr_83 ⊢
        show Run p l e _ s m _ below meth c Z EL1 _ n0 bk h_70 0 0 (mkF m 83 #[.val (.int i_79), .val (.int (Int32.ofNat q)), .val (.ref t), .val (.int i_79), .val (.int i_53), .val (.int (Int32.ofNat (((q - 1) - 1) - 1))), .val (.int (1 : Int32))] [(.int i_82), (.ref d1), (.int (Int32.ofNat (((q - 1) - 1) - 1))), (.ref t)]) _
        have F_84 : Arv Z h_70 d1 kd1 .byte (100 : Int32) w1 (.int 0) := a_d1.ext O_71.2
        obtain ⟨x_85, hv_86⟩ := aget_int F_84 (i := (i_82).toNatClampNeg) (dig_lt hr_83)
        refine k_aget hx (v := (.int x_85)) F_84 (dig_in hr_83) hv_86 (Or.inr (Or.inr (Or.inr (Or.inl ⟨rfl, rfl⟩)))) rfl rfl (hb hby d_jdk_33_m_12_83) ?_
        show Run p l e _ s m _ below meth c Z EL1 _ n0 bk h_70 0 0 (mkF m 84 #[.val (.int i_79), .val (.int (Int32.ofNat q)), .val (.ref t), .val (.int i_79), .val (.int i_53), .val (.int (Int32.ofNat (((q - 1) - 1) - 1))), .val (.int (1 : Int32))] [(.int x_85), (.int (Int32.ofNat (((q - 1) - 1) - 1))), (.ref t)]) _
        refine k_stB hx V_78 (idx_ok (i := (((q - 1) - 1) - 1)) (n := N) (by omega) (by omega)) ((((q - 1) - 1) - 1)) (clampN (by omega)) (Nat.lt_of_lt_of_le (show (((q - 1) - 1) - 1) < N by omega) hl_77) (by omega) nbt rfl rfl (hb hby d_jdk_33_m_12_84) ?_
        intro h_87 O_88 W_89 A_90
        have z_91 := W_89.size
        have V_92 : Arv Z h_87 t kb .byte (Int32.ofNat N) (vs_76.set ((((q - 1) - 1) - 1)) (.int (nar .byte x_85))) (.int 0) := A_90
        show Run p l e _ s m _ below meth c Z EL1 _ n0 bk h_87 0 0 (mkF m 85 #[.val (.int i_79), .val (.int (Int32.ofNat q)), .val (.ref t), .val (.int i_79), .val (.int i_53), .val (.int (Int32.ofNat (((q - 1) - 1) - 1))), .val (.int (1 : Int32))] []) _
        obtain ⟨vs_93, hl_94, V_95⟩ : ∃ ws : List Value, N ≤ ws.length ∧ Arv Z h_87 t kb .byte (Int32.ofNat N) ws (.int 0) := ⟨_, (by rw [List.length_set]; exact hl_77), V_92⟩
        refine k_pure (g' := (mkF m 86 #[.val (.int i_79), .val (.int (Int32.ofNat q)), .val (.ref t), .val (.int i_79), .val (.int i_53), .val (.int (Int32.ofNat (((q - 1) - 1) - 1))), .val (.int (1 : Int32))] [(.int i_79)])) (fun TT HH tt kk => XS.iloadN HH hx rfl (hb hby d_jdk_33_m_12_85) rfl kk) ?_
        refine k_pure (g' := (mkF m 88 #[.val (.int i_79), .val (.int (Int32.ofNat q)), .val (.ref t), .val (.int i_79), .val (.int i_53), .val (.int (Int32.ofNat (((q - 1) - 1) - 1))), .val (.int (1 : Int32))] [(.int ((-9) : Int32)), (.int i_79)])) (fun TT HH tt kk => XS.bipush HH hx rfl (hb hby d_jdk_33_m_12_86) kk) ?_
        by_cases c_96 : i_79 < ((-9) : Int32)
        · refine k_pure (g' := (mkF m 91 #[.val (.int i_79), .val (.int (Int32.ofNat q)), .val (.ref t), .val (.int i_79), .val (.int i_53), .val (.int (Int32.ofNat (((q - 1) - 1) - 1))), .val (.int (1 : Int32))] [])) (fun TT HH tt kk => XS.icmpNo HH hx rfl (hb hby d_jdk_33_m_12_88) rfl (tlt c_96).2.1 kk) ?_
          refine k_pure (g' := (mkF m 92 #[.val (.int i_79), .val (.int (Int32.ofNat q)), .val (.ref t), .val (.int i_79), .val (.int i_53), .val (.int (Int32.ofNat (((q - 1) - 1) - 1))), .val (.int (1 : Int32))] [(.ref t)])) (fun TT HH tt kk => XS.aloadN HH hx rfl (hb hby d_jdk_33_m_12_91) rfl rfl kk) ?_
          refine k_pure (g' := (mkF m 95 #[.val (.int i_79), .val (.int (Int32.ofNat q)), .val (.ref t), .val (.int i_79), .val (.int i_53), .val (.int ((Int32.ofNat (((q - 1) - 1) - 1)) + ((-1) : Int32))), .val (.int (1 : Int32))] [(.ref t)])) (fun TT HH tt kk => XS.iinc HH hx rfl (hb hby d_jdk_33_m_12_92) rfl (l' := #[.val (.int i_79), .val (.int (Int32.ofNat q)), .val (.ref t), .val (.int i_79), .val (.int i_53), .val (.int ((Int32.ofNat (((q - 1) - 1) - 1)) + ((-1) : Int32))), .val (.int (1 : Int32))]) rfl kk) ?_
          rw [dec_ofNat (by omega) (by omega)]
          show Run p l e _ s m _ below meth c Z EL1 _ n0 bk h_87 0 0 (mkF m 95 #[.val (.int i_79), .val (.int (Int32.ofNat q)), .val (.ref t), .val (.int i_79), .val (.int i_53), .val (.int (Int32.ofNat ((((q - 1) - 1) - 1) - 1))), .val (.int (1 : Int32))] [(.ref t)]) _
          refine k_pure (g' := (mkF m 97 #[.val (.int i_79), .val (.int (Int32.ofNat q)), .val (.ref t), .val (.int i_79), .val (.int i_53), .val (.int (Int32.ofNat ((((q - 1) - 1) - 1) - 1))), .val (.int (1 : Int32))] [(.int (Int32.ofNat ((((q - 1) - 1) - 1) - 1))), (.ref t)])) (fun TT HH tt kk => XS.iload HH hx rfl (hb hby d_jdk_33_m_12_95) rfl kk) ?_
          refine k_getS hx (host := "") (Or.inl (hw _ (List.mem_of_getElem? (i := 199) rfl))) Via.refl (s_d2.ext O_88.2) rfl (hb hby d_jdk_33_m_12_97) ?_
          show Run p l e _ s m _ below meth c Z EL1 _ n0 bk h_87 0 0 (mkF m 100 #[.val (.int i_79), .val (.int (Int32.ofNat q)), .val (.ref t), .val (.int i_79), .val (.int i_53), .val (.int (Int32.ofNat ((((q - 1) - 1) - 1) - 1))), .val (.int (1 : Int32))] [(.ref d2), (.int (Int32.ofNat ((((q - 1) - 1) - 1) - 1))), (.ref t)]) _
          refine k_pure (g' := (mkF m 101 #[.val (.int i_79), .val (.int (Int32.ofNat q)), .val (.ref t), .val (.int i_79), .val (.int i_53), .val (.int (Int32.ofNat ((((q - 1) - 1) - 1) - 1))), .val (.int (1 : Int32))] [(.int i_79), (.ref d2), (.int (Int32.ofNat ((((q - 1) - 1) - 1) - 1))), (.ref t)])) (fun TT HH tt kk => XS.iloadN HH hx rfl (hb hby d_jdk_33_m_12_100) rfl kk) ?_
          refine k_pure (g' := (mkF m 102 #[.val (.int i_79), .val (.int (Int32.ofNat q)), .val (.ref t), .val (.int i_79), .val (.int i_53), .val (.int (Int32.ofNat ((((q - 1) - 1) - 1) - 1))), .val (.int (1 : Int32))] [(.int (-i_79)), (.ref d2), (.int (Int32.ofNat ((((q - 1) - 1) - 1) - 1))), (.ref t)])) (fun TT HH tt kk => XS.ineg HH hx rfl (hb hby d_jdk_33_m_12_101) rfl kk) ?_
          have hr_98 : 0 ≤ ((-i_79)).toInt ∧ ((-i_79)).toInt ≤ 99 := (by have r0 : ((-100) : Int32).toInt = (-100) := (by decide); have r1 := rng32 i_79; have r2 : ((-9) : Int32).toInt = (-9) := (by decide); have r3 := c_ineg i_79; have r4 := rng32 (-i_79); have r5 := (Int32.lt_iff_toInt_lt.mp c_81); have r6 := (Int32.lt_iff_toInt_lt.mp c_96); have r7 := hb_80; omega)
          generalize (-i_79) = i_97 at hr_98 ⊢
          show Run p l e _ s m _ below meth c Z EL1 _ n0 bk h_87 0 0 (mkF m 102 #[.val (.int i_79), .val (.int (Int32.ofNat q)), .val (.ref t), .val (.int i_79), .val (.int i_53), .val (.int (Int32.ofNat ((((q - 1) - 1) - 1) - 1))), .val (.int (1 : Int32))] [(.int i_97), (.ref d2), (.int (Int32.ofNat ((((q - 1) - 1) - 1) - 1))), (.ref t)]) _
          have F_99 : Arv Z h_87 d2 kd2 .byte (100 : Int32) w2 (.int 0) := a_d2.ext O_88.2
          obtain ⟨x_100, hv_101⟩ := aget_int F_99 (i := (i_97).toNatClampNeg) (dig_lt hr_98)
          refine k_aget hx (v := (.int x_100)) F_99 (dig_in hr_98) hv_101 (Or.inr (Or.inr (Or.inr (Or.inl ⟨rfl, rfl⟩)))) rfl rfl (hb hby d_jdk_33_m_12_102) ?_
          show Run p l e _ s m _ below meth c Z EL1 _ n0 bk h_87 0 0 (mkF m 103 #[.val (.int i_79), .val (.int (Int32.ofNat q)), .val (.ref t), .val (.int i_79), .val (.int i_53), .val (.int (Int32.ofNat ((((q - 1) - 1) - 1) - 1))), .val (.int (1 : Int32))] [(.int x_100), (.int (Int32.ofNat ((((q - 1) - 1) - 1) - 1))), (.ref t)]) _
          refine k_stB hx V_95 (idx_ok (i := ((((q - 1) - 1) - 1) - 1)) (n := N) (by omega) (by omega)) (((((q - 1) - 1) - 1) - 1)) (clampN (by omega)) (Nat.lt_of_lt_of_le (show ((((q - 1) - 1) - 1) - 1) < N by omega) hl_94) (by omega) nbt rfl rfl (hb hby d_jdk_33_m_12_103) ?_
          intro h_102 O_103 W_104 A_105
          have z_106 := W_104.size
          have V_107 : Arv Z h_102 t kb .byte (Int32.ofNat N) (vs_93.set (((((q - 1) - 1) - 1) - 1)) (.int (nar .byte x_100))) (.int 0) := A_105
          show Run p l e _ s m _ below meth c Z EL1 _ n0 bk h_102 0 0 (mkF m 104 #[.val (.int i_79), .val (.int (Int32.ofNat q)), .val (.ref t), .val (.int i_79), .val (.int i_53), .val (.int (Int32.ofNat ((((q - 1) - 1) - 1) - 1))), .val (.int (1 : Int32))] []) _
          obtain ⟨vs_108, hl_109, V_110⟩ : ∃ ws : List Value, N ≤ ws.length ∧ Arv Z h_102 t kb .byte (Int32.ofNat N) ws (.int 0) := ⟨_, (by rw [List.length_set]; exact hl_94), V_107⟩
          refine k_pure (g' := (mkF m 106 #[.val (.int i_79), .val (.int (Int32.ofNat q)), .val (.ref t), .val (.int i_79), .val (.int i_53), .val (.int (Int32.ofNat ((((q - 1) - 1) - 1) - 1))), .val (.int (1 : Int32))] [(.int (1 : Int32))])) (fun TT HH tt kk => XS.iload HH hx rfl (hb hby d_jdk_33_m_12_104) rfl kk) ?_
          refine k_pure (g' := (mkF m 109 #[.val (.int i_79), .val (.int (Int32.ofNat q)), .val (.ref t), .val (.int i_79), .val (.int i_53), .val (.int (Int32.ofNat ((((q - 1) - 1) - 1) - 1))), .val (.int (1 : Int32))] [])) (fun TT HH tt kk => XS.ifNo HH hx rfl (hb hby d_jdk_33_m_12_106) rfl ((if0 _ _).trans (feq (by decide : ¬ ((1 : Int32) = (0 : Int32)))).1) kk) ?_
          refine k_pure (g' := (mkF m 110 #[.val (.int i_79), .val (.int (Int32.ofNat q)), .val (.ref t), .val (.int i_79), .val (.int i_53), .val (.int (Int32.ofNat ((((q - 1) - 1) - 1) - 1))), .val (.int (1 : Int32))] [(.ref t)])) (fun TT HH tt kk => XS.aloadN HH hx rfl (hb hby d_jdk_33_m_12_109) rfl rfl kk) ?_
          refine k_pure (g' := (mkF m 113 #[.val (.int i_79), .val (.int (Int32.ofNat q)), .val (.ref t), .val (.int i_79), .val (.int i_53), .val (.int ((Int32.ofNat ((((q - 1) - 1) - 1) - 1)) + ((-1) : Int32))), .val (.int (1 : Int32))] [(.ref t)])) (fun TT HH tt kk => XS.iinc HH hx rfl (hb hby d_jdk_33_m_12_110) rfl (l' := #[.val (.int i_79), .val (.int (Int32.ofNat q)), .val (.ref t), .val (.int i_79), .val (.int i_53), .val (.int ((Int32.ofNat ((((q - 1) - 1) - 1) - 1)) + ((-1) : Int32))), .val (.int (1 : Int32))]) rfl kk) ?_
          rw [dec_ofNat (by omega) (by omega)]
          show Run p l e _ s m _ below meth c Z EL1 _ n0 bk h_102 0 0 (mkF m 113 #[.val (.int i_79), .val (.int (Int32.ofNat q)), .val (.ref t), .val (.int i_79), .val (.int i_53), .val (.int (Int32.ofNat (((((q - 1) - 1) - 1) - 1) - 1))), .val (.int (1 : Int32))] [(.ref t)]) _
          refine k_pure (g' := (mkF m 115 #[.val (.int i_79), .val (.int (Int32.ofNat q)), .val (.ref t), .val (.int i_79), .val (.int i_53), .val (.int (Int32.ofNat (((((q - 1) - 1) - 1) - 1) - 1))), .val (.int (1 : Int32))] [(.int (Int32.ofNat (((((q - 1) - 1) - 1) - 1) - 1))), (.ref t)])) (fun TT HH tt kk => XS.iload HH hx rfl (hb hby d_jdk_33_m_12_113) rfl kk) ?_
          refine k_pure (g' := (mkF m 117 #[.val (.int i_79), .val (.int (Int32.ofNat q)), .val (.ref t), .val (.int i_79), .val (.int i_53), .val (.int (Int32.ofNat (((((q - 1) - 1) - 1) - 1) - 1))), .val (.int (1 : Int32))] [(.int (45 : Int32)), (.int (Int32.ofNat (((((q - 1) - 1) - 1) - 1) - 1))), (.ref t)])) (fun TT HH tt kk => XS.bipush HH hx rfl (hb hby d_jdk_33_m_12_115) kk) ?_
          refine k_stB hx V_110 (idx_ok (i := (((((q - 1) - 1) - 1) - 1) - 1)) (n := N) (by omega) (by omega)) ((((((q - 1) - 1) - 1) - 1) - 1)) (clampN (by omega)) (Nat.lt_of_lt_of_le (show (((((q - 1) - 1) - 1) - 1) - 1) < N by omega) hl_109) (by omega) nbt rfl rfl (hb hby d_jdk_33_m_12_117) ?_
          intro h_111 O_112 W_113 A_114
          have z_115 := W_113.size
          have V_116 : Arv Z h_111 t kb .byte (Int32.ofNat N) (vs_108.set ((((((q - 1) - 1) - 1) - 1) - 1)) (.int (45 : Int32))) (.int 0) := A_114
          show Run p l e _ s m _ below meth c Z EL1 _ n0 bk h_111 0 0 (mkF m 118 #[.val (.int i_79), .val (.int (Int32.ofNat q)), .val (.ref t), .val (.int i_79), .val (.int i_53), .val (.int (Int32.ofNat (((((q - 1) - 1) - 1) - 1) - 1))), .val (.int (1 : Int32))] []) _
          obtain ⟨vs_117, hl_118, V_119⟩ : ∃ ws : List Value, N ≤ ws.length ∧ Arv Z h_111 t kb .byte (Int32.ofNat N) ws (.int 0) := ⟨_, (by rw [List.length_set]; exact hl_109), V_116⟩
          refine k_pure (g' := (mkF m 120 #[.val (.int i_79), .val (.int (Int32.ofNat q)), .val (.ref t), .val (.int i_79), .val (.int i_53), .val (.int (Int32.ofNat (((((q - 1) - 1) - 1) - 1) - 1))), .val (.int (1 : Int32))] [(.int (Int32.ofNat (((((q - 1) - 1) - 1) - 1) - 1)))])) (fun TT HH tt kk => XS.iload HH hx rfl (hb hby d_jdk_33_m_12_118) rfl kk) ?_
          exact k_retI hx hlk hret (hb hby d_jdk_33_m_12_120) (by decide) (by decide) ⟨_, _, rfl, rfl, ((((((Keep.refl _ _).wr W_60 (Or.inl (by simp))).wr W_72 (Or.inl (by simp))).wr W_89 (Or.inl (by simp))).wr W_104 (Or.inl (by simp))).wr W_113 (Or.inl (by simp))), V_119⟩
        · refine k_pure (g' := (mkF m 104 #[.val (.int i_79), .val (.int (Int32.ofNat q)), .val (.ref t), .val (.int i_79), .val (.int i_53), .val (.int (Int32.ofNat (((q - 1) - 1) - 1))), .val (.int (1 : Int32))] [])) (fun TT HH tt kk => XS.icmpYes HH hx rfl (pc0 := 88) (pc' := 104) rfl (hb hby d_jdk_33_m_12_88) rfl (flt c_96).2.1 (by decide) (by decide) kk) ?_
          refine k_pure (g' := (mkF m 106 #[.val (.int i_79), .val (.int (Int32.ofNat q)), .val (.ref t), .val (.int i_79), .val (.int i_53), .val (.int (Int32.ofNat (((q - 1) - 1) - 1))), .val (.int (1 : Int32))] [(.int (1 : Int32))])) (fun TT HH tt kk => XS.iload HH hx rfl (hb hby d_jdk_33_m_12_104) rfl kk) ?_
          refine k_pure (g' := (mkF m 109 #[.val (.int i_79), .val (.int (Int32.ofNat q)), .val (.ref t), .val (.int i_79), .val (.int i_53), .val (.int (Int32.ofNat (((q - 1) - 1) - 1))), .val (.int (1 : Int32))] [])) (fun TT HH tt kk => XS.ifNo HH hx rfl (hb hby d_jdk_33_m_12_106) rfl ((if0 _ _).trans (feq (by decide : ¬ ((1 : Int32) = (0 : Int32)))).1) kk) ?_
          refine k_pure (g' := (mkF m 110 #[.val (.int i_79), .val (.int (Int32.ofNat q)), .val (.ref t), .val (.int i_79), .val (.int i_53), .val (.int (Int32.ofNat (((q - 1) - 1) - 1))), .val (.int (1 : Int32))] [(.ref t)])) (fun TT HH tt kk => XS.aloadN HH hx rfl (hb hby d_jdk_33_m_12_109) rfl rfl kk) ?_
          refine k_pure (g' := (mkF m 113 #[.val (.int i_79), .val (.int (Int32.ofNat q)), .val (.ref t), .val (.int i_79), .val (.int i_53), .val (.int ((Int32.ofNat (((q - 1) - 1) - 1)) + ((-1) : Int32))), .val (.int (1 : Int32))] [(.ref t)])) (fun TT HH tt kk => XS.iinc HH hx rfl (hb hby d_jdk_33_m_12_110) rfl (l' := #[.val (.int i_79), .val (.int (Int32.ofNat q)), .val (.ref t), .val (.int i_79), .val (.int i_53), .val (.int ((Int32.ofNat (((q - 1) - 1) - 1)) + ((-1) : Int32))), .val (.int (1 : Int32))]) rfl kk) ?_
          rw [dec_ofNat (by omega) (by omega)]
          show Run p l e _ s m _ below meth c Z EL1 _ n0 bk h_87 0 0 (mkF m 113 #[.val (.int i_79), .val (.int (Int32.ofNat q)), .val (.ref t), .val (.int i_79), .val (.int i_53), .val (.int (Int32.ofNat ((((q - 1) - 1) - 1) - 1))), .val (.int (1 : Int32))] [(.ref t)]) _
          refine k_pure (g' := (mkF m 115 #[.val (.int i_79), .val (.int (Int32.ofNat q)), .val (.ref t), .val (.int i_79), .val (.int i_53), .val (.int (Int32.ofNat ((((q - 1) - 1) - 1) - 1))), .val (.int (1 : Int32))] [(.int (Int32.ofNat ((((q - 1) - 1) - 1) - 1))), (.ref t)])) (fun TT HH tt kk => XS.iload HH hx rfl (hb hby d_jdk_33_m_12_113) rfl kk) ?_
          refine k_pure (g' := (mkF m 117 #[.val (.int i_79), .val (.int (Int32.ofNat q)), .val (.ref t), .val (.int i_79), .val (.int i_53), .val (.int (Int32.ofNat ((((q - 1) - 1) - 1) - 1))), .val (.int (1 : Int32))] [(.int (45 : Int32)), (.int (Int32.ofNat ((((q - 1) - 1) - 1) - 1))), (.ref t)])) (fun TT HH tt kk => XS.bipush HH hx rfl (hb hby d_jdk_33_m_12_115) kk) ?_
          refine k_stB hx V_95 (idx_ok (i := ((((q - 1) - 1) - 1) - 1)) (n := N) (by omega) (by omega)) (((((q - 1) - 1) - 1) - 1)) (clampN (by omega)) (Nat.lt_of_lt_of_le (show ((((q - 1) - 1) - 1) - 1) < N by omega) hl_94) (by omega) nbt rfl rfl (hb hby d_jdk_33_m_12_117) ?_
          intro h_120 O_121 W_122 A_123
          have z_124 := W_122.size
          have V_125 : Arv Z h_120 t kb .byte (Int32.ofNat N) (vs_93.set (((((q - 1) - 1) - 1) - 1)) (.int (45 : Int32))) (.int 0) := A_123
          show Run p l e _ s m _ below meth c Z EL1 _ n0 bk h_120 0 0 (mkF m 118 #[.val (.int i_79), .val (.int (Int32.ofNat q)), .val (.ref t), .val (.int i_79), .val (.int i_53), .val (.int (Int32.ofNat ((((q - 1) - 1) - 1) - 1))), .val (.int (1 : Int32))] []) _
          obtain ⟨vs_126, hl_127, V_128⟩ : ∃ ws : List Value, N ≤ ws.length ∧ Arv Z h_120 t kb .byte (Int32.ofNat N) ws (.int 0) := ⟨_, (by rw [List.length_set]; exact hl_94), V_125⟩
          refine k_pure (g' := (mkF m 120 #[.val (.int i_79), .val (.int (Int32.ofNat q)), .val (.ref t), .val (.int i_79), .val (.int i_53), .val (.int (Int32.ofNat ((((q - 1) - 1) - 1) - 1))), .val (.int (1 : Int32))] [(.int (Int32.ofNat ((((q - 1) - 1) - 1) - 1)))])) (fun TT HH tt kk => XS.iload HH hx rfl (hb hby d_jdk_33_m_12_118) rfl kk) ?_
          exact k_retI hx hlk hret (hb hby d_jdk_33_m_12_120) (by decide) (by decide) ⟨_, _, rfl, rfl, (((((Keep.refl _ _).wr W_60 (Or.inl (by simp))).wr W_72 (Or.inl (by simp))).wr W_89 (Or.inl (by simp))).wr W_122 (Or.inl (by simp))), V_128⟩
      · refine k_pure (g' := (mkF m 28 #[.val (.int i_79), .val (.int (Int32.ofNat q)), .val (.ref t), .val (.int i_79), .val (.int i_53), .val (.int (Int32.ofNat ((q - 1) - 1))), .val (.int (1 : Int32))] [])) (fun TT HH tt kk => XS.icmpNo HH hx rfl (hb hby d_jdk_33_m_12_25) rfl (flt c_81).2.2.1 kk) ?_
        refine k_pure (g' := (mkF m 29 #[.val (.int i_79), .val (.int (Int32.ofNat q)), .val (.ref t), .val (.int i_79), .val (.int i_53), .val (.int (Int32.ofNat ((q - 1) - 1))), .val (.int (1 : Int32))] [(.int i_79)])) (fun TT HH tt kk => XS.iloadN HH hx rfl (hb hby d_jdk_33_m_12_28) rfl kk) ?_
        refine k_pure (g' := (mkF m 31 #[.val (.int i_79), .val (.int (Int32.ofNat q)), .val (.ref t), .val (.int i_79), .val (.int i_53), .val (.int (Int32.ofNat ((q - 1) - 1))), .val (.int (1 : Int32))] [(.int (100 : Int32)), (.int i_79)])) (fun TT HH tt kk => XS.bipush HH hx rfl (hb hby d_jdk_33_m_12_29) kk) ?_
        refine k_pure (g' := (mkF m 32 #[.val (.int i_79), .val (.int (Int32.ofNat q)), .val (.ref t), .val (.int i_79), .val (.int i_53), .val (.int (Int32.ofNat ((q - 1) - 1))), .val (.int (1 : Int32))] [(.int (i_79 / (100 : Int32)))])) (fun TT HH tt kk => XS.idiv HH hx rfl (hb hby d_jdk_33_m_12_31) rfl (by decide) kk) ?_
        refine k_pure (g' := (mkF m 33 #[.val (.int i_79), .val (.int (Int32.ofNat q)), .val (.ref t), .val (.int (i_79 / (100 : Int32))), .val (.int i_53), .val (.int (Int32.ofNat ((q - 1) - 1))), .val (.int (1 : Int32))] [])) (fun TT HH tt kk => XS.istoreN HH hx rfl (hb hby d_jdk_33_m_12_32) rfl (l' := #[.val (.int i_79), .val (.int (Int32.ofNat q)), .val (.ref t), .val (.int (i_79 / (100 : Int32))), .val (.int i_53), .val (.int (Int32.ofNat ((q - 1) - 1))), .val (.int (1 : Int32))]) rfl kk) ?_
        refine k_pure (g' := (mkF m 34 #[.val (.int i_79), .val (.int (Int32.ofNat q)), .val (.ref t), .val (.int (i_79 / (100 : Int32))), .val (.int i_53), .val (.int (Int32.ofNat ((q - 1) - 1))), .val (.int (1 : Int32))] [(.int (i_79 / (100 : Int32)))])) (fun TT HH tt kk => XS.iloadN HH hx rfl (hb hby d_jdk_33_m_12_33) rfl kk) ?_
        refine k_pure (g' := (mkF m 36 #[.val (.int i_79), .val (.int (Int32.ofNat q)), .val (.ref t), .val (.int (i_79 / (100 : Int32))), .val (.int i_53), .val (.int (Int32.ofNat ((q - 1) - 1))), .val (.int (1 : Int32))] [(.int (100 : Int32)), (.int (i_79 / (100 : Int32)))])) (fun TT HH tt kk => XS.bipush HH hx rfl (hb hby d_jdk_33_m_12_34) kk) ?_
        refine k_pure (g' := (mkF m 37 #[.val (.int i_79), .val (.int (Int32.ofNat q)), .val (.ref t), .val (.int (i_79 / (100 : Int32))), .val (.int i_53), .val (.int (Int32.ofNat ((q - 1) - 1))), .val (.int (1 : Int32))] [(.int ((i_79 / (100 : Int32)) * (100 : Int32)))])) (fun TT HH tt kk => XS.imul HH hx rfl (hb hby d_jdk_33_m_12_36) rfl kk) ?_
        refine k_pure (g' := (mkF m 38 #[.val (.int i_79), .val (.int (Int32.ofNat q)), .val (.ref t), .val (.int (i_79 / (100 : Int32))), .val (.int i_53), .val (.int (Int32.ofNat ((q - 1) - 1))), .val (.int (1 : Int32))] [(.int i_79), (.int ((i_79 / (100 : Int32)) * (100 : Int32)))])) (fun TT HH tt kk => XS.iloadN HH hx rfl (hb hby d_jdk_33_m_12_37) rfl kk) ?_
        refine k_pure (g' := (mkF m 39 #[.val (.int i_79), .val (.int (Int32.ofNat q)), .val (.ref t), .val (.int (i_79 / (100 : Int32))), .val (.int i_53), .val (.int (Int32.ofNat ((q - 1) - 1))), .val (.int (1 : Int32))] [(.int (((i_79 / (100 : Int32)) * (100 : Int32)) - i_79))])) (fun TT HH tt kk => XS.isub HH hx rfl (hb hby d_jdk_33_m_12_38) rfl kk) ?_
        refine k_pure (g' := (mkF m 41 #[.val (.int i_79), .val (.int (Int32.ofNat q)), .val (.ref t), .val (.int (i_79 / (100 : Int32))), .val (.int (((i_79 / (100 : Int32)) * (100 : Int32)) - i_79)), .val (.int (Int32.ofNat ((q - 1) - 1))), .val (.int (1 : Int32))] [])) (fun TT HH tt kk => XS.istore HH hx rfl (hb hby d_jdk_33_m_12_39) rfl (l' := #[.val (.int i_79), .val (.int (Int32.ofNat q)), .val (.ref t), .val (.int (i_79 / (100 : Int32))), .val (.int (((i_79 / (100 : Int32)) * (100 : Int32)) - i_79)), .val (.int (Int32.ofNat ((q - 1) - 1))), .val (.int (1 : Int32))]) rfl kk) ?_
        refine k_pure (g' := (mkF m 42 #[.val (.int i_79), .val (.int (Int32.ofNat q)), .val (.ref t), .val (.int (i_79 / (100 : Int32))), .val (.int (((i_79 / (100 : Int32)) * (100 : Int32)) - i_79)), .val (.int (Int32.ofNat ((q - 1) - 1))), .val (.int (1 : Int32))] [(.int (i_79 / (100 : Int32)))])) (fun TT HH tt kk => XS.iloadN HH hx rfl (hb hby d_jdk_33_m_12_41) rfl kk) ?_
        refine k_pure (g' := (mkF m 43 #[.val (.int (i_79 / (100 : Int32))), .val (.int (Int32.ofNat q)), .val (.ref t), .val (.int (i_79 / (100 : Int32))), .val (.int (((i_79 / (100 : Int32)) * (100 : Int32)) - i_79)), .val (.int (Int32.ofNat ((q - 1) - 1))), .val (.int (1 : Int32))] [])) (fun TT HH tt kk => XS.istoreN HH hx rfl (hb hby d_jdk_33_m_12_42) rfl (l' := #[.val (.int (i_79 / (100 : Int32))), .val (.int (Int32.ofNat q)), .val (.ref t), .val (.int (i_79 / (100 : Int32))), .val (.int (((i_79 / (100 : Int32)) * (100 : Int32)) - i_79)), .val (.int (Int32.ofNat ((q - 1) - 1))), .val (.int (1 : Int32))]) rfl kk) ?_
        have hr_130 : 0 ≤ ((((i_79 / (100 : Int32)) * (100 : Int32)) - i_79)).toInt ∧ ((((i_79 / (100 : Int32)) * (100 : Int32)) - i_79)).toInt ≤ 99 := (by have r0 : ((-100) : Int32).toInt = (-100) := (by decide); have r1 := rng32 i_79; have r2 := c_idiv i_79 (100 : Int32) 100 (by decide) (by decide); have r3 := rng32 (i_79 / (100 : Int32)); have r4 := (by have q := c_imul (i_79 / (100 : Int32)) (100 : Int32); rw [show (100 : Int32).toInt = 100 from by decide] at q; exact q); have r5 := rng32 ((i_79 / (100 : Int32)) * (100 : Int32)); have r6 := c_isub ((i_79 / (100 : Int32)) * (100 : Int32)) i_79; have r7 := rng32 (((i_79 / (100 : Int32)) * (100 : Int32)) - i_79); have r8 : ¬ (((-100) : Int32)).toInt < (i_79).toInt := fun q => c_81 (Int32.lt_iff_toInt_lt.mpr q); have r9 := hb_80; omega)
        generalize (((i_79 / (100 : Int32)) * (100 : Int32)) - i_79) = i_129 at hr_130 ⊢
        show Run p l e _ s m _ below meth c Z EL1 _ n0 bk h_70 0 0 (mkF m 43 #[.val (.int (i_79 / (100 : Int32))), .val (.int (Int32.ofNat q)), .val (.ref t), .val (.int (i_79 / (100 : Int32))), .val (.int i_129), .val (.int (Int32.ofNat ((q - 1) - 1))), .val (.int (1 : Int32))] []) _
        refine k_pure (g' := (mkF m 44 #[.val (.int (i_79 / (100 : Int32))), .val (.int (Int32.ofNat q)), .val (.ref t), .val (.int (i_79 / (100 : Int32))), .val (.int i_129), .val (.int (Int32.ofNat ((q - 1) - 1))), .val (.int (1 : Int32))] [(.ref t)])) (fun TT HH tt kk => XS.aloadN HH hx rfl (hb hby d_jdk_33_m_12_43) rfl rfl kk) ?_
        refine k_pure (g' := (mkF m 47 #[.val (.int (i_79 / (100 : Int32))), .val (.int (Int32.ofNat q)), .val (.ref t), .val (.int (i_79 / (100 : Int32))), .val (.int i_129), .val (.int ((Int32.ofNat ((q - 1) - 1)) + ((-1) : Int32))), .val (.int (1 : Int32))] [(.ref t)])) (fun TT HH tt kk => XS.iinc HH hx rfl (hb hby d_jdk_33_m_12_44) rfl (l' := #[.val (.int (i_79 / (100 : Int32))), .val (.int (Int32.ofNat q)), .val (.ref t), .val (.int (i_79 / (100 : Int32))), .val (.int i_129), .val (.int ((Int32.ofNat ((q - 1) - 1)) + ((-1) : Int32))), .val (.int (1 : Int32))]) rfl kk) ?_
        rw [dec_ofNat (by omega) (by omega)]
        show Run p l e _ s m _ below meth c Z EL1 _ n0 bk h_70 0 0 (mkF m 47 #[.val (.int (i_79 / (100 : Int32))), .val (.int (Int32.ofNat q)), .val (.ref t), .val (.int (i_79 / (100 : Int32))), .val (.int i_129), .val (.int (Int32.ofNat (((q - 1) - 1) - 1))), .val (.int (1 : Int32))] [(.ref t)]) _
        refine k_pure (g' := (mkF m 49 #[.val (.int (i_79 / (100 : Int32))), .val (.int (Int32.ofNat q)), .val (.ref t), .val (.int (i_79 / (100 : Int32))), .val (.int i_129), .val (.int (Int32.ofNat (((q - 1) - 1) - 1))), .val (.int (1 : Int32))] [(.int (Int32.ofNat (((q - 1) - 1) - 1))), (.ref t)])) (fun TT HH tt kk => XS.iload HH hx rfl (hb hby d_jdk_33_m_12_47) rfl kk) ?_
        refine k_getS hx (host := "") (Or.inl (hw _ (List.mem_of_getElem? (i := 128) rfl))) Via.refl (s_d1.ext O_71.2) rfl (hb hby d_jdk_33_m_12_49) ?_
        show Run p l e _ s m _ below meth c Z EL1 _ n0 bk h_70 0 0 (mkF m 52 #[.val (.int (i_79 / (100 : Int32))), .val (.int (Int32.ofNat q)), .val (.ref t), .val (.int (i_79 / (100 : Int32))), .val (.int i_129), .val (.int (Int32.ofNat (((q - 1) - 1) - 1))), .val (.int (1 : Int32))] [(.ref d1), (.int (Int32.ofNat (((q - 1) - 1) - 1))), (.ref t)]) _
        refine k_pure (g' := (mkF m 54 #[.val (.int (i_79 / (100 : Int32))), .val (.int (Int32.ofNat q)), .val (.ref t), .val (.int (i_79 / (100 : Int32))), .val (.int i_129), .val (.int (Int32.ofNat (((q - 1) - 1) - 1))), .val (.int (1 : Int32))] [(.int i_129), (.ref d1), (.int (Int32.ofNat (((q - 1) - 1) - 1))), (.ref t)])) (fun TT HH tt kk => XS.iload HH hx rfl (hb hby d_jdk_33_m_12_52) rfl kk) ?_
        have F_131 : Arv Z h_70 d1 kd1 .byte (100 : Int32) w1 (.int 0) := a_d1.ext O_71.2
        obtain ⟨x_132, hv_133⟩ := aget_int F_131 (i := (i_129).toNatClampNeg) (dig_lt hr_130)
        refine k_aget hx (v := (.int x_132)) F_131 (dig_in hr_130) hv_133 (Or.inr (Or.inr (Or.inr (Or.inl ⟨rfl, rfl⟩)))) rfl rfl (hb hby d_jdk_33_m_12_54) ?_
        show Run p l e _ s m _ below meth c Z EL1 _ n0 bk h_70 0 0 (mkF m 55 #[.val (.int (i_79 / (100 : Int32))), .val (.int (Int32.ofNat q)), .val (.ref t), .val (.int (i_79 / (100 : Int32))), .val (.int i_129), .val (.int (Int32.ofNat (((q - 1) - 1) - 1))), .val (.int (1 : Int32))] [(.int x_132), (.int (Int32.ofNat (((q - 1) - 1) - 1))), (.ref t)]) _
        refine k_stB hx V_78 (idx_ok (i := (((q - 1) - 1) - 1)) (n := N) (by omega) (by omega)) ((((q - 1) - 1) - 1)) (clampN (by omega)) (Nat.lt_of_lt_of_le (show (((q - 1) - 1) - 1) < N by omega) hl_77) (by omega) nbt rfl rfl (hb hby d_jdk_33_m_12_55) ?_
        intro h_134 O_135 W_136 A_137
        have z_138 := W_136.size
        have V_139 : Arv Z h_134 t kb .byte (Int32.ofNat N) (vs_76.set ((((q - 1) - 1) - 1)) (.int (nar .byte x_132))) (.int 0) := A_137
        show Run p l e _ s m _ below meth c Z EL1 _ n0 bk h_134 0 0 (mkF m 56 #[.val (.int (i_79 / (100 : Int32))), .val (.int (Int32.ofNat q)), .val (.ref t), .val (.int (i_79 / (100 : Int32))), .val (.int i_129), .val (.int (Int32.ofNat (((q - 1) - 1) - 1))), .val (.int (1 : Int32))] []) _
        obtain ⟨vs_140, hl_141, V_142⟩ : ∃ ws : List Value, N ≤ ws.length ∧ Arv Z h_134 t kb .byte (Int32.ofNat N) ws (.int 0) := ⟨_, (by rw [List.length_set]; exact hl_77), V_139⟩
        refine k_pure (g' := (mkF m 57 #[.val (.int (i_79 / (100 : Int32))), .val (.int (Int32.ofNat q)), .val (.ref t), .val (.int (i_79 / (100 : Int32))), .val (.int i_129), .val (.int (Int32.ofNat (((q - 1) - 1) - 1))), .val (.int (1 : Int32))] [(.ref t)])) (fun TT HH tt kk => XS.aloadN HH hx rfl (hb hby d_jdk_33_m_12_56) rfl rfl kk) ?_
        refine k_pure (g' := (mkF m 60 #[.val (.int (i_79 / (100 : Int32))), .val (.int (Int32.ofNat q)), .val (.ref t), .val (.int (i_79 / (100 : Int32))), .val (.int i_129), .val (.int ((Int32.ofNat (((q - 1) - 1) - 1)) + ((-1) : Int32))), .val (.int (1 : Int32))] [(.ref t)])) (fun TT HH tt kk => XS.iinc HH hx rfl (hb hby d_jdk_33_m_12_57) rfl (l' := #[.val (.int (i_79 / (100 : Int32))), .val (.int (Int32.ofNat q)), .val (.ref t), .val (.int (i_79 / (100 : Int32))), .val (.int i_129), .val (.int ((Int32.ofNat (((q - 1) - 1) - 1)) + ((-1) : Int32))), .val (.int (1 : Int32))]) rfl kk) ?_
        rw [dec_ofNat (by omega) (by omega)]
        show Run p l e _ s m _ below meth c Z EL1 _ n0 bk h_134 0 0 (mkF m 60 #[.val (.int (i_79 / (100 : Int32))), .val (.int (Int32.ofNat q)), .val (.ref t), .val (.int (i_79 / (100 : Int32))), .val (.int i_129), .val (.int (Int32.ofNat ((((q - 1) - 1) - 1) - 1))), .val (.int (1 : Int32))] [(.ref t)]) _
        refine k_pure (g' := (mkF m 62 #[.val (.int (i_79 / (100 : Int32))), .val (.int (Int32.ofNat q)), .val (.ref t), .val (.int (i_79 / (100 : Int32))), .val (.int i_129), .val (.int (Int32.ofNat ((((q - 1) - 1) - 1) - 1))), .val (.int (1 : Int32))] [(.int (Int32.ofNat ((((q - 1) - 1) - 1) - 1))), (.ref t)])) (fun TT HH tt kk => XS.iload HH hx rfl (hb hby d_jdk_33_m_12_60) rfl kk) ?_
        refine k_getS hx (host := "") (Or.inl (hw _ (List.mem_of_getElem? (i := 199) rfl))) Via.refl (s_d2.ext O_135.2) rfl (hb hby d_jdk_33_m_12_62) ?_
        show Run p l e _ s m _ below meth c Z EL1 _ n0 bk h_134 0 0 (mkF m 65 #[.val (.int (i_79 / (100 : Int32))), .val (.int (Int32.ofNat q)), .val (.ref t), .val (.int (i_79 / (100 : Int32))), .val (.int i_129), .val (.int (Int32.ofNat ((((q - 1) - 1) - 1) - 1))), .val (.int (1 : Int32))] [(.ref d2), (.int (Int32.ofNat ((((q - 1) - 1) - 1) - 1))), (.ref t)]) _
        refine k_pure (g' := (mkF m 67 #[.val (.int (i_79 / (100 : Int32))), .val (.int (Int32.ofNat q)), .val (.ref t), .val (.int (i_79 / (100 : Int32))), .val (.int i_129), .val (.int (Int32.ofNat ((((q - 1) - 1) - 1) - 1))), .val (.int (1 : Int32))] [(.int i_129), (.ref d2), (.int (Int32.ofNat ((((q - 1) - 1) - 1) - 1))), (.ref t)])) (fun TT HH tt kk => XS.iload HH hx rfl (hb hby d_jdk_33_m_12_65) rfl kk) ?_
        have F_143 : Arv Z h_134 d2 kd2 .byte (100 : Int32) w2 (.int 0) := a_d2.ext O_135.2
        obtain ⟨x_144, hv_145⟩ := aget_int F_143 (i := (i_129).toNatClampNeg) (dig_lt hr_130)
        refine k_aget hx (v := (.int x_144)) F_143 (dig_in hr_130) hv_145 (Or.inr (Or.inr (Or.inr (Or.inl ⟨rfl, rfl⟩)))) rfl rfl (hb hby d_jdk_33_m_12_67) ?_
        show Run p l e _ s m _ below meth c Z EL1 _ n0 bk h_134 0 0 (mkF m 68 #[.val (.int (i_79 / (100 : Int32))), .val (.int (Int32.ofNat q)), .val (.ref t), .val (.int (i_79 / (100 : Int32))), .val (.int i_129), .val (.int (Int32.ofNat ((((q - 1) - 1) - 1) - 1))), .val (.int (1 : Int32))] [(.int x_144), (.int (Int32.ofNat ((((q - 1) - 1) - 1) - 1))), (.ref t)]) _
        refine k_stB hx V_142 (idx_ok (i := ((((q - 1) - 1) - 1) - 1)) (n := N) (by omega) (by omega)) (((((q - 1) - 1) - 1) - 1)) (clampN (by omega)) (Nat.lt_of_lt_of_le (show ((((q - 1) - 1) - 1) - 1) < N by omega) hl_141) (by omega) nbt rfl rfl (hb hby d_jdk_33_m_12_68) ?_
        intro h_146 O_147 W_148 A_149
        have z_150 := W_148.size
        have V_151 : Arv Z h_146 t kb .byte (Int32.ofNat N) (vs_140.set (((((q - 1) - 1) - 1) - 1)) (.int (nar .byte x_144))) (.int 0) := A_149
        show Run p l e _ s m _ below meth c Z EL1 _ n0 bk h_146 0 0 (mkF m 69 #[.val (.int (i_79 / (100 : Int32))), .val (.int (Int32.ofNat q)), .val (.ref t), .val (.int (i_79 / (100 : Int32))), .val (.int i_129), .val (.int (Int32.ofNat ((((q - 1) - 1) - 1) - 1))), .val (.int (1 : Int32))] []) _
        obtain ⟨vs_152, hl_153, V_154⟩ : ∃ ws : List Value, N ≤ ws.length ∧ Arv Z h_146 t kb .byte (Int32.ofNat N) ws (.int 0) := ⟨_, (by rw [List.length_set]; exact hl_141), V_151⟩
        refine k_pure (g' := (mkF m 22 #[.val (.int (i_79 / (100 : Int32))), .val (.int (Int32.ofNat q)), .val (.ref t), .val (.int (i_79 / (100 : Int32))), .val (.int i_129), .val (.int (Int32.ofNat ((((q - 1) - 1) - 1) - 1))), .val (.int (1 : Int32))] [])) (fun TT HH tt kk => XS.goto HH hx rfl (pc0 := 69) (pc' := 22) rfl (hb hby d_jdk_33_m_12_69) (by decide) (by decide) kk) ?_
        have hb_156 : -214748 ≤ ((i_79 / (100 : Int32))).toInt ∧ ((i_79 / (100 : Int32))).toInt ≤ 0 := (by have r0 : ((-100) : Int32).toInt = (-100) := (by decide); have r1 := rng32 i_79; have r2 := c_idiv i_79 (100 : Int32) 100 (by decide) (by decide); have r3 := rng32 (i_79 / (100 : Int32)); have r4 : ¬ (((-100) : Int32)).toInt < (i_79).toInt := fun q => c_81 (Int32.lt_iff_toInt_lt.mpr q); have r5 := hb_80; omega)
        generalize (i_79 / (100 : Int32)) = i_155 at hb_156 ⊢
        show Run p l e _ s m _ below meth c Z EL1 _ n0 bk h_146 0 0 (mkF m 22 #[.val (.int i_155), .val (.int (Int32.ofNat q)), .val (.ref t), .val (.int i_155), .val (.int i_129), .val (.int (Int32.ofNat ((((q - 1) - 1) - 1) - 1))), .val (.int (1 : Int32))] []) _
        refine k_pure (g' := (mkF m 23 #[.val (.int i_155), .val (.int (Int32.ofNat q)), .val (.ref t), .val (.int i_155), .val (.int i_129), .val (.int (Int32.ofNat ((((q - 1) - 1) - 1) - 1))), .val (.int (1 : Int32))] [(.int i_155)])) (fun TT HH tt kk => XS.iloadN HH hx rfl (hb hby d_jdk_33_m_12_22) rfl kk) ?_
        refine k_pure (g' := (mkF m 25 #[.val (.int i_155), .val (.int (Int32.ofNat q)), .val (.ref t), .val (.int i_155), .val (.int i_129), .val (.int (Int32.ofNat ((((q - 1) - 1) - 1) - 1))), .val (.int (1 : Int32))] [(.int ((-100) : Int32)), (.int i_155)])) (fun TT HH tt kk => XS.bipush HH hx rfl (hb hby d_jdk_33_m_12_23) kk) ?_
        by_cases c_157 : ((-100) : Int32) < i_155
        · refine k_pure (g' := (mkF m 72 #[.val (.int i_155), .val (.int (Int32.ofNat q)), .val (.ref t), .val (.int i_155), .val (.int i_129), .val (.int (Int32.ofNat ((((q - 1) - 1) - 1) - 1))), .val (.int (1 : Int32))] [])) (fun TT HH tt kk => XS.icmpYes HH hx rfl (pc0 := 25) (pc' := 72) rfl (hb hby d_jdk_33_m_12_25) rfl (tlt c_157).2.2.1 (by decide) (by decide) kk) ?_
          refine k_pure (g' := (mkF m 73 #[.val (.int i_155), .val (.int (Int32.ofNat q)), .val (.ref t), .val (.int i_155), .val (.int i_129), .val (.int (Int32.ofNat ((((q - 1) - 1) - 1) - 1))), .val (.int (1 : Int32))] [(.ref t)])) (fun TT HH tt kk => XS.aloadN HH hx rfl (hb hby d_jdk_33_m_12_72) rfl rfl kk) ?_
          refine k_pure (g' := (mkF m 76 #[.val (.int i_155), .val (.int (Int32.ofNat q)), .val (.ref t), .val (.int i_155), .val (.int i_129), .val (.int ((Int32.ofNat ((((q - 1) - 1) - 1) - 1)) + ((-1) : Int32))), .val (.int (1 : Int32))] [(.ref t)])) (fun TT HH tt kk => XS.iinc HH hx rfl (hb hby d_jdk_33_m_12_73) rfl (l' := #[.val (.int i_155), .val (.int (Int32.ofNat q)), .val (.ref t), .val (.int i_155), .val (.int i_129), .val (.int ((Int32.ofNat ((((q - 1) - 1) - 1) - 1)) + ((-1) : Int32))), .val (.int (1 : Int32))]) rfl kk) ?_
          rw [dec_ofNat (by omega) (by omega)]
          show Run p l e _ s m _ below meth c Z EL1 _ n0 bk h_146 0 0 (mkF m 76 #[.val (.int i_155), .val (.int (Int32.ofNat q)), .val (.ref t), .val (.int i_155), .val (.int i_129), .val (.int (Int32.ofNat (((((q - 1) - 1) - 1) - 1) - 1))), .val (.int (1 : Int32))] [(.ref t)]) _
          refine k_pure (g' := (mkF m 78 #[.val (.int i_155), .val (.int (Int32.ofNat q)), .val (.ref t), .val (.int i_155), .val (.int i_129), .val (.int (Int32.ofNat (((((q - 1) - 1) - 1) - 1) - 1))), .val (.int (1 : Int32))] [(.int (Int32.ofNat (((((q - 1) - 1) - 1) - 1) - 1))), (.ref t)])) (fun TT HH tt kk => XS.iload HH hx rfl (hb hby d_jdk_33_m_12_76) rfl kk) ?_
          refine k_getS hx (host := "") (Or.inl (hw _ (List.mem_of_getElem? (i := 128) rfl))) Via.refl (s_d1.ext O_147.2) rfl (hb hby d_jdk_33_m_12_78) ?_
          show Run p l e _ s m _ below meth c Z EL1 _ n0 bk h_146 0 0 (mkF m 81 #[.val (.int i_155), .val (.int (Int32.ofNat q)), .val (.ref t), .val (.int i_155), .val (.int i_129), .val (.int (Int32.ofNat (((((q - 1) - 1) - 1) - 1) - 1))), .val (.int (1 : Int32))] [(.ref d1), (.int (Int32.ofNat (((((q - 1) - 1) - 1) - 1) - 1))), (.ref t)]) _
          refine k_pure (g' := (mkF m 82 #[.val (.int i_155), .val (.int (Int32.ofNat q)), .val (.ref t), .val (.int i_155), .val (.int i_129), .val (.int (Int32.ofNat (((((q - 1) - 1) - 1) - 1) - 1))), .val (.int (1 : Int32))] [(.int i_155), (.ref d1), (.int (Int32.ofNat (((((q - 1) - 1) - 1) - 1) - 1))), (.ref t)])) (fun TT HH tt kk => XS.iloadN HH hx rfl (hb hby d_jdk_33_m_12_81) rfl kk) ?_
          refine k_pure (g' := (mkF m 83 #[.val (.int i_155), .val (.int (Int32.ofNat q)), .val (.ref t), .val (.int i_155), .val (.int i_129), .val (.int (Int32.ofNat (((((q - 1) - 1) - 1) - 1) - 1))), .val (.int (1 : Int32))] [(.int (-i_155)), (.ref d1), (.int (Int32.ofNat (((((q - 1) - 1) - 1) - 1) - 1))), (.ref t)])) (fun TT HH tt kk => XS.ineg HH hx rfl (hb hby d_jdk_33_m_12_82) rfl kk) ?_
          have hr_159 : 0 ≤ ((-i_155)).toInt ∧ ((-i_155)).toInt ≤ 99 := (by have r0 : ((-100) : Int32).toInt = (-100) := (by decide); have r1 := rng32 i_155; have r2 := c_ineg i_155; have r3 := rng32 (-i_155); have r4 := (Int32.lt_iff_toInt_lt.mp c_157); have r5 := hb_156; omega)
          generalize (-i_155) = i_158 at hr_159 ⊢
          show Run p l e _ s m _ below meth c Z EL1 _ n0 bk h_146 0 0 (mkF m 83 #[.val (.int i_155), .val (.int (Int32.ofNat q)), .val (.ref t), .val (.int i_155), .val (.int i_129), .val (.int (Int32.ofNat (((((q - 1) - 1) - 1) - 1) - 1))), .val (.int (1 : Int32))] [(.int i_158), (.ref d1), (.int (Int32.ofNat (((((q - 1) - 1) - 1) - 1) - 1))), (.ref t)]) _
          have F_160 : Arv Z h_146 d1 kd1 .byte (100 : Int32) w1 (.int 0) := a_d1.ext O_147.2
          obtain ⟨x_161, hv_162⟩ := aget_int F_160 (i := (i_158).toNatClampNeg) (dig_lt hr_159)
          refine k_aget hx (v := (.int x_161)) F_160 (dig_in hr_159) hv_162 (Or.inr (Or.inr (Or.inr (Or.inl ⟨rfl, rfl⟩)))) rfl rfl (hb hby d_jdk_33_m_12_83) ?_
          show Run p l e _ s m _ below meth c Z EL1 _ n0 bk h_146 0 0 (mkF m 84 #[.val (.int i_155), .val (.int (Int32.ofNat q)), .val (.ref t), .val (.int i_155), .val (.int i_129), .val (.int (Int32.ofNat (((((q - 1) - 1) - 1) - 1) - 1))), .val (.int (1 : Int32))] [(.int x_161), (.int (Int32.ofNat (((((q - 1) - 1) - 1) - 1) - 1))), (.ref t)]) _
          refine k_stB hx V_154 (idx_ok (i := (((((q - 1) - 1) - 1) - 1) - 1)) (n := N) (by omega) (by omega)) ((((((q - 1) - 1) - 1) - 1) - 1)) (clampN (by omega)) (Nat.lt_of_lt_of_le (show (((((q - 1) - 1) - 1) - 1) - 1) < N by omega) hl_153) (by omega) nbt rfl rfl (hb hby d_jdk_33_m_12_84) ?_
          intro h_163 O_164 W_165 A_166
          have z_167 := W_165.size
          have V_168 : Arv Z h_163 t kb .byte (Int32.ofNat N) (vs_152.set ((((((q - 1) - 1) - 1) - 1) - 1)) (.int (nar .byte x_161))) (.int 0) := A_166
          show Run p l e _ s m _ below meth c Z EL1 _ n0 bk h_163 0 0 (mkF m 85 #[.val (.int i_155), .val (.int (Int32.ofNat q)), .val (.ref t), .val (.int i_155), .val (.int i_129), .val (.int (Int32.ofNat (((((q - 1) - 1) - 1) - 1) - 1))), .val (.int (1 : Int32))] []) _
          obtain ⟨vs_169, hl_170, V_171⟩ : ∃ ws : List Value, N ≤ ws.length ∧ Arv Z h_163 t kb .byte (Int32.ofNat N) ws (.int 0) := ⟨_, (by rw [List.length_set]; exact hl_153), V_168⟩
          refine k_pure (g' := (mkF m 86 #[.val (.int i_155), .val (.int (Int32.ofNat q)), .val (.ref t), .val (.int i_155), .val (.int i_129), .val (.int (Int32.ofNat (((((q - 1) - 1) - 1) - 1) - 1))), .val (.int (1 : Int32))] [(.int i_155)])) (fun TT HH tt kk => XS.iloadN HH hx rfl (hb hby d_jdk_33_m_12_85) rfl kk) ?_
          refine k_pure (g' := (mkF m 88 #[.val (.int i_155), .val (.int (Int32.ofNat q)), .val (.ref t), .val (.int i_155), .val (.int i_129), .val (.int (Int32.ofNat (((((q - 1) - 1) - 1) - 1) - 1))), .val (.int (1 : Int32))] [(.int ((-9) : Int32)), (.int i_155)])) (fun TT HH tt kk => XS.bipush HH hx rfl (hb hby d_jdk_33_m_12_86) kk) ?_
          by_cases c_172 : i_155 < ((-9) : Int32)
          · refine k_pure (g' := (mkF m 91 #[.val (.int i_155), .val (.int (Int32.ofNat q)), .val (.ref t), .val (.int i_155), .val (.int i_129), .val (.int (Int32.ofNat (((((q - 1) - 1) - 1) - 1) - 1))), .val (.int (1 : Int32))] [])) (fun TT HH tt kk => XS.icmpNo HH hx rfl (hb hby d_jdk_33_m_12_88) rfl (tlt c_172).2.1 kk) ?_
            refine k_pure (g' := (mkF m 92 #[.val (.int i_155), .val (.int (Int32.ofNat q)), .val (.ref t), .val (.int i_155), .val (.int i_129), .val (.int (Int32.ofNat (((((q - 1) - 1) - 1) - 1) - 1))), .val (.int (1 : Int32))] [(.ref t)])) (fun TT HH tt kk => XS.aloadN HH hx rfl (hb hby d_jdk_33_m_12_91) rfl rfl kk) ?_
            refine k_pure (g' := (mkF m 95 #[.val (.int i_155), .val (.int (Int32.ofNat q)), .val (.ref t), .val (.int i_155), .val (.int i_129), .val (.int ((Int32.ofNat (((((q - 1) - 1) - 1) - 1) - 1)) + ((-1) : Int32))), .val (.int (1 : Int32))] [(.ref t)])) (fun TT HH tt kk => XS.iinc HH hx rfl (hb hby d_jdk_33_m_12_92) rfl (l' := #[.val (.int i_155), .val (.int (Int32.ofNat q)), .val (.ref t), .val (.int i_155), .val (.int i_129), .val (.int ((Int32.ofNat (((((q - 1) - 1) - 1) - 1) - 1)) + ((-1) : Int32))), .val (.int (1 : Int32))]) rfl kk) ?_
            rw [dec_ofNat (by omega) (by omega)]
            show Run p l e _ s m _ below meth c Z EL1 _ n0 bk h_163 0 0 (mkF m 95 #[.val (.int i_155), .val (.int (Int32.ofNat q)), .val (.ref t), .val (.int i_155), .val (.int i_129), .val (.int (Int32.ofNat ((((((q - 1) - 1) - 1) - 1) - 1) - 1))), .val (.int (1 : Int32))] [(.ref t)]) _
            refine k_pure (g' := (mkF m 97 #[.val (.int i_155), .val (.int (Int32.ofNat q)), .val (.ref t), .val (.int i_155), .val (.int i_129), .val (.int (Int32.ofNat ((((((q - 1) - 1) - 1) - 1) - 1) - 1))), .val (.int (1 : Int32))] [(.int (Int32.ofNat ((((((q - 1) - 1) - 1) - 1) - 1) - 1))), (.ref t)])) (fun TT HH tt kk => XS.iload HH hx rfl (hb hby d_jdk_33_m_12_95) rfl kk) ?_
            refine k_getS hx (host := "") (Or.inl (hw _ (List.mem_of_getElem? (i := 199) rfl))) Via.refl (s_d2.ext O_164.2) rfl (hb hby d_jdk_33_m_12_97) ?_
            show Run p l e _ s m _ below meth c Z EL1 _ n0 bk h_163 0 0 (mkF m 100 #[.val (.int i_155), .val (.int (Int32.ofNat q)), .val (.ref t), .val (.int i_155), .val (.int i_129), .val (.int (Int32.ofNat ((((((q - 1) - 1) - 1) - 1) - 1) - 1))), .val (.int (1 : Int32))] [(.ref d2), (.int (Int32.ofNat ((((((q - 1) - 1) - 1) - 1) - 1) - 1))), (.ref t)]) _
            refine k_pure (g' := (mkF m 101 #[.val (.int i_155), .val (.int (Int32.ofNat q)), .val (.ref t), .val (.int i_155), .val (.int i_129), .val (.int (Int32.ofNat ((((((q - 1) - 1) - 1) - 1) - 1) - 1))), .val (.int (1 : Int32))] [(.int i_155), (.ref d2), (.int (Int32.ofNat ((((((q - 1) - 1) - 1) - 1) - 1) - 1))), (.ref t)])) (fun TT HH tt kk => XS.iloadN HH hx rfl (hb hby d_jdk_33_m_12_100) rfl kk) ?_
            refine k_pure (g' := (mkF m 102 #[.val (.int i_155), .val (.int (Int32.ofNat q)), .val (.ref t), .val (.int i_155), .val (.int i_129), .val (.int (Int32.ofNat ((((((q - 1) - 1) - 1) - 1) - 1) - 1))), .val (.int (1 : Int32))] [(.int (-i_155)), (.ref d2), (.int (Int32.ofNat ((((((q - 1) - 1) - 1) - 1) - 1) - 1))), (.ref t)])) (fun TT HH tt kk => XS.ineg HH hx rfl (hb hby d_jdk_33_m_12_101) rfl kk) ?_
            have hr_174 : 0 ≤ ((-i_155)).toInt ∧ ((-i_155)).toInt ≤ 99 := (by have r0 : ((-100) : Int32).toInt = (-100) := (by decide); have r1 := rng32 i_155; have r2 : ((-9) : Int32).toInt = (-9) := (by decide); have r3 := c_ineg i_155; have r4 := rng32 (-i_155); have r5 := (Int32.lt_iff_toInt_lt.mp c_157); have r6 := (Int32.lt_iff_toInt_lt.mp c_172); have r7 := hb_156; omega)
            generalize (-i_155) = i_173 at hr_174 ⊢
            show Run p l e _ s m _ below meth c Z EL1 _ n0 bk h_163 0 0 (mkF m 102 #[.val (.int i_155), .val (.int (Int32.ofNat q)), .val (.ref t), .val (.int i_155), .val (.int i_129), .val (.int (Int32.ofNat ((((((q - 1) - 1) - 1) - 1) - 1) - 1))), .val (.int (1 : Int32))] [(.int i_173), (.ref d2), (.int (Int32.ofNat ((((((q - 1) - 1) - 1) - 1) - 1) - 1))), (.ref t)]) _
            have F_175 : Arv Z h_163 d2 kd2 .byte (100 : Int32) w2 (.int 0) := a_d2.ext O_164.2
            obtain ⟨x_176, hv_177⟩ := aget_int F_175 (i := (i_173).toNatClampNeg) (dig_lt hr_174)
            refine k_aget hx (v := (.int x_176)) F_175 (dig_in hr_174) hv_177 (Or.inr (Or.inr (Or.inr (Or.inl ⟨rfl, rfl⟩)))) rfl rfl (hb hby d_jdk_33_m_12_102) ?_
            show Run p l e _ s m _ below meth c Z EL1 _ n0 bk h_163 0 0 (mkF m 103 #[.val (.int i_155), .val (.int (Int32.ofNat q)), .val (.ref t), .val (.int i_155), .val (.int i_129), .val (.int (Int32.ofNat ((((((q - 1) - 1) - 1) - 1) - 1) - 1))), .val (.int (1 : Int32))] [(.int x_176), (.int (Int32.ofNat ((((((q - 1) - 1) - 1) - 1) - 1) - 1))), (.ref t)]) _
            refine k_stB hx V_171 (idx_ok (i := ((((((q - 1) - 1) - 1) - 1) - 1) - 1)) (n := N) (by omega) (by omega)) (((((((q - 1) - 1) - 1) - 1) - 1) - 1)) (clampN (by omega)) (Nat.lt_of_lt_of_le (show ((((((q - 1) - 1) - 1) - 1) - 1) - 1) < N by omega) hl_170) (by omega) nbt rfl rfl (hb hby d_jdk_33_m_12_103) ?_
            intro h_178 O_179 W_180 A_181
            have z_182 := W_180.size
            have V_183 : Arv Z h_178 t kb .byte (Int32.ofNat N) (vs_169.set (((((((q - 1) - 1) - 1) - 1) - 1) - 1)) (.int (nar .byte x_176))) (.int 0) := A_181
            show Run p l e _ s m _ below meth c Z EL1 _ n0 bk h_178 0 0 (mkF m 104 #[.val (.int i_155), .val (.int (Int32.ofNat q)), .val (.ref t), .val (.int i_155), .val (.int i_129), .val (.int (Int32.ofNat ((((((q - 1) - 1) - 1) - 1) - 1) - 1))), .val (.int (1 : Int32))] []) _
            obtain ⟨vs_184, hl_185, V_186⟩ : ∃ ws : List Value, N ≤ ws.length ∧ Arv Z h_178 t kb .byte (Int32.ofNat N) ws (.int 0) := ⟨_, (by rw [List.length_set]; exact hl_170), V_183⟩
            refine k_pure (g' := (mkF m 106 #[.val (.int i_155), .val (.int (Int32.ofNat q)), .val (.ref t), .val (.int i_155), .val (.int i_129), .val (.int (Int32.ofNat ((((((q - 1) - 1) - 1) - 1) - 1) - 1))), .val (.int (1 : Int32))] [(.int (1 : Int32))])) (fun TT HH tt kk => XS.iload HH hx rfl (hb hby d_jdk_33_m_12_104) rfl kk) ?_
            refine k_pure (g' := (mkF m 109 #[.val (.int i_155), .val (.int (Int32.ofNat q)), .val (.ref t), .val (.int i_155), .val (.int i_129), .val (.int (Int32.ofNat ((((((q - 1) - 1) - 1) - 1) - 1) - 1))), .val (.int (1 : Int32))] [])) (fun TT HH tt kk => XS.ifNo HH hx rfl (hb hby d_jdk_33_m_12_106) rfl ((if0 _ _).trans (feq (by decide : ¬ ((1 : Int32) = (0 : Int32)))).1) kk) ?_
            refine k_pure (g' := (mkF m 110 #[.val (.int i_155), .val (.int (Int32.ofNat q)), .val (.ref t), .val (.int i_155), .val (.int i_129), .val (.int (Int32.ofNat ((((((q - 1) - 1) - 1) - 1) - 1) - 1))), .val (.int (1 : Int32))] [(.ref t)])) (fun TT HH tt kk => XS.aloadN HH hx rfl (hb hby d_jdk_33_m_12_109) rfl rfl kk) ?_
            refine k_pure (g' := (mkF m 113 #[.val (.int i_155), .val (.int (Int32.ofNat q)), .val (.ref t), .val (.int i_155), .val (.int i_129), .val (.int ((Int32.ofNat ((((((q - 1) - 1) - 1) - 1) - 1) - 1)) + ((-1) : Int32))), .val (.int (1 : Int32))] [(.ref t)])) (fun TT HH tt kk => XS.iinc HH hx rfl (hb hby d_jdk_33_m_12_110) rfl (l' := #[.val (.int i_155), .val (.int (Int32.ofNat q)), .val (.ref t), .val (.int i_155), .val (.int i_129), .val (.int ((Int32.ofNat ((((((q - 1) - 1) - 1) - 1) - 1) - 1)) + ((-1) : Int32))), .val (.int (1 : Int32))]) rfl kk) ?_
            rw [dec_ofNat (by omega) (by omega)]
            show Run p l e _ s m _ below meth c Z EL1 _ n0 bk h_178 0 0 (mkF m 113 #[.val (.int i_155), .val (.int (Int32.ofNat q)), .val (.ref t), .val (.int i_155), .val (.int i_129), .val (.int (Int32.ofNat (((((((q - 1) - 1) - 1) - 1) - 1) - 1) - 1))), .val (.int (1 : Int32))] [(.ref t)]) _
            refine k_pure (g' := (mkF m 115 #[.val (.int i_155), .val (.int (Int32.ofNat q)), .val (.ref t), .val (.int i_155), .val (.int i_129), .val (.int (Int32.ofNat (((((((q - 1) - 1) - 1) - 1) - 1) - 1) - 1))), .val (.int (1 : Int32))] [(.int (Int32.ofNat (((((((q - 1) - 1) - 1) - 1) - 1) - 1) - 1))), (.ref t)])) (fun TT HH tt kk => XS.iload HH hx rfl (hb hby d_jdk_33_m_12_113) rfl kk) ?_
            refine k_pure (g' := (mkF m 117 #[.val (.int i_155), .val (.int (Int32.ofNat q)), .val (.ref t), .val (.int i_155), .val (.int i_129), .val (.int (Int32.ofNat (((((((q - 1) - 1) - 1) - 1) - 1) - 1) - 1))), .val (.int (1 : Int32))] [(.int (45 : Int32)), (.int (Int32.ofNat (((((((q - 1) - 1) - 1) - 1) - 1) - 1) - 1))), (.ref t)])) (fun TT HH tt kk => XS.bipush HH hx rfl (hb hby d_jdk_33_m_12_115) kk) ?_
            refine k_stB hx V_186 (idx_ok (i := (((((((q - 1) - 1) - 1) - 1) - 1) - 1) - 1)) (n := N) (by omega) (by omega)) ((((((((q - 1) - 1) - 1) - 1) - 1) - 1) - 1)) (clampN (by omega)) (Nat.lt_of_lt_of_le (show (((((((q - 1) - 1) - 1) - 1) - 1) - 1) - 1) < N by omega) hl_185) (by omega) nbt rfl rfl (hb hby d_jdk_33_m_12_117) ?_
            intro h_187 O_188 W_189 A_190
            have z_191 := W_189.size
            have V_192 : Arv Z h_187 t kb .byte (Int32.ofNat N) (vs_184.set ((((((((q - 1) - 1) - 1) - 1) - 1) - 1) - 1)) (.int (45 : Int32))) (.int 0) := A_190
            show Run p l e _ s m _ below meth c Z EL1 _ n0 bk h_187 0 0 (mkF m 118 #[.val (.int i_155), .val (.int (Int32.ofNat q)), .val (.ref t), .val (.int i_155), .val (.int i_129), .val (.int (Int32.ofNat (((((((q - 1) - 1) - 1) - 1) - 1) - 1) - 1))), .val (.int (1 : Int32))] []) _
            obtain ⟨vs_193, hl_194, V_195⟩ : ∃ ws : List Value, N ≤ ws.length ∧ Arv Z h_187 t kb .byte (Int32.ofNat N) ws (.int 0) := ⟨_, (by rw [List.length_set]; exact hl_185), V_192⟩
            refine k_pure (g' := (mkF m 120 #[.val (.int i_155), .val (.int (Int32.ofNat q)), .val (.ref t), .val (.int i_155), .val (.int i_129), .val (.int (Int32.ofNat (((((((q - 1) - 1) - 1) - 1) - 1) - 1) - 1))), .val (.int (1 : Int32))] [(.int (Int32.ofNat (((((((q - 1) - 1) - 1) - 1) - 1) - 1) - 1)))])) (fun TT HH tt kk => XS.iload HH hx rfl (hb hby d_jdk_33_m_12_118) rfl kk) ?_
            exact k_retI hx hlk hret (hb hby d_jdk_33_m_12_120) (by decide) (by decide) ⟨_, _, rfl, rfl, ((((((((Keep.refl _ _).wr W_60 (Or.inl (by simp))).wr W_72 (Or.inl (by simp))).wr W_136 (Or.inl (by simp))).wr W_148 (Or.inl (by simp))).wr W_165 (Or.inl (by simp))).wr W_180 (Or.inl (by simp))).wr W_189 (Or.inl (by simp))), V_195⟩
          · refine k_pure (g' := (mkF m 104 #[.val (.int i_155), .val (.int (Int32.ofNat q)), .val (.ref t), .val (.int i_155), .val (.int i_129), .val (.int (Int32.ofNat (((((q - 1) - 1) - 1) - 1) - 1))), .val (.int (1 : Int32))] [])) (fun TT HH tt kk => XS.icmpYes HH hx rfl (pc0 := 88) (pc' := 104) rfl (hb hby d_jdk_33_m_12_88) rfl (flt c_172).2.1 (by decide) (by decide) kk) ?_
            refine k_pure (g' := (mkF m 106 #[.val (.int i_155), .val (.int (Int32.ofNat q)), .val (.ref t), .val (.int i_155), .val (.int i_129), .val (.int (Int32.ofNat (((((q - 1) - 1) - 1) - 1) - 1))), .val (.int (1 : Int32))] [(.int (1 : Int32))])) (fun TT HH tt kk => XS.iload HH hx rfl (hb hby d_jdk_33_m_12_104) rfl kk) ?_
            refine k_pure (g' := (mkF m 109 #[.val (.int i_155), .val (.int (Int32.ofNat q)), .val (.ref t), .val (.int i_155), .val (.int i_129), .val (.int (Int32.ofNat (((((q - 1) - 1) - 1) - 1) - 1))), .val (.int (1 : Int32))] [])) (fun TT HH tt kk => XS.ifNo HH hx rfl (hb hby d_jdk_33_m_12_106) rfl ((if0 _ _).trans (feq (by decide : ¬ ((1 : Int32) = (0 : Int32)))).1) kk) ?_
            refine k_pure (g' := (mkF m 110 #[.val (.int i_155), .val (.int (Int32.ofNat q)), .val (.ref t), .val (.int i_155), .val (.int i_129), .val (.int (Int32.ofNat (((((q - 1) - 1) - 1) - 1) - 1))), .val (.int (1 : Int32))] [(.ref t)])) (fun TT HH tt kk => XS.aloadN HH hx rfl (hb hby d_jdk_33_m_12_109) rfl rfl kk) ?_
            refine k_pure (g' := (mkF m 113 #[.val (.int i_155), .val (.int (Int32.ofNat q)), .val (.ref t), .val (.int i_155), .val (.int i_129), .val (.int ((Int32.ofNat (((((q - 1) - 1) - 1) - 1) - 1)) + ((-1) : Int32))), .val (.int (1 : Int32))] [(.ref t)])) (fun TT HH tt kk => XS.iinc HH hx rfl (hb hby d_jdk_33_m_12_110) rfl (l' := #[.val (.int i_155), .val (.int (Int32.ofNat q)), .val (.ref t), .val (.int i_155), .val (.int i_129), .val (.int ((Int32.ofNat (((((q - 1) - 1) - 1) - 1) - 1)) + ((-1) : Int32))), .val (.int (1 : Int32))]) rfl kk) ?_
            rw [dec_ofNat (by omega) (by omega)]
            show Run p l e _ s m _ below meth c Z EL1 _ n0 bk h_163 0 0 (mkF m 113 #[.val (.int i_155), .val (.int (Int32.ofNat q)), .val (.ref t), .val (.int i_155), .val (.int i_129), .val (.int (Int32.ofNat ((((((q - 1) - 1) - 1) - 1) - 1) - 1))), .val (.int (1 : Int32))] [(.ref t)]) _
            refine k_pure (g' := (mkF m 115 #[.val (.int i_155), .val (.int (Int32.ofNat q)), .val (.ref t), .val (.int i_155), .val (.int i_129), .val (.int (Int32.ofNat ((((((q - 1) - 1) - 1) - 1) - 1) - 1))), .val (.int (1 : Int32))] [(.int (Int32.ofNat ((((((q - 1) - 1) - 1) - 1) - 1) - 1))), (.ref t)])) (fun TT HH tt kk => XS.iload HH hx rfl (hb hby d_jdk_33_m_12_113) rfl kk) ?_
            refine k_pure (g' := (mkF m 117 #[.val (.int i_155), .val (.int (Int32.ofNat q)), .val (.ref t), .val (.int i_155), .val (.int i_129), .val (.int (Int32.ofNat ((((((q - 1) - 1) - 1) - 1) - 1) - 1))), .val (.int (1 : Int32))] [(.int (45 : Int32)), (.int (Int32.ofNat ((((((q - 1) - 1) - 1) - 1) - 1) - 1))), (.ref t)])) (fun TT HH tt kk => XS.bipush HH hx rfl (hb hby d_jdk_33_m_12_115) kk) ?_
            refine k_stB hx V_171 (idx_ok (i := ((((((q - 1) - 1) - 1) - 1) - 1) - 1)) (n := N) (by omega) (by omega)) (((((((q - 1) - 1) - 1) - 1) - 1) - 1)) (clampN (by omega)) (Nat.lt_of_lt_of_le (show ((((((q - 1) - 1) - 1) - 1) - 1) - 1) < N by omega) hl_170) (by omega) nbt rfl rfl (hb hby d_jdk_33_m_12_117) ?_
            intro h_196 O_197 W_198 A_199
            have z_200 := W_198.size
            have V_201 : Arv Z h_196 t kb .byte (Int32.ofNat N) (vs_169.set (((((((q - 1) - 1) - 1) - 1) - 1) - 1)) (.int (45 : Int32))) (.int 0) := A_199
            show Run p l e _ s m _ below meth c Z EL1 _ n0 bk h_196 0 0 (mkF m 118 #[.val (.int i_155), .val (.int (Int32.ofNat q)), .val (.ref t), .val (.int i_155), .val (.int i_129), .val (.int (Int32.ofNat ((((((q - 1) - 1) - 1) - 1) - 1) - 1))), .val (.int (1 : Int32))] []) _
            obtain ⟨vs_202, hl_203, V_204⟩ : ∃ ws : List Value, N ≤ ws.length ∧ Arv Z h_196 t kb .byte (Int32.ofNat N) ws (.int 0) := ⟨_, (by rw [List.length_set]; exact hl_170), V_201⟩
            refine k_pure (g' := (mkF m 120 #[.val (.int i_155), .val (.int (Int32.ofNat q)), .val (.ref t), .val (.int i_155), .val (.int i_129), .val (.int (Int32.ofNat ((((((q - 1) - 1) - 1) - 1) - 1) - 1))), .val (.int (1 : Int32))] [(.int (Int32.ofNat ((((((q - 1) - 1) - 1) - 1) - 1) - 1)))])) (fun TT HH tt kk => XS.iload HH hx rfl (hb hby d_jdk_33_m_12_118) rfl kk) ?_
            exact k_retI hx hlk hret (hb hby d_jdk_33_m_12_120) (by decide) (by decide) ⟨_, _, rfl, rfl, (((((((Keep.refl _ _).wr W_60 (Or.inl (by simp))).wr W_72 (Or.inl (by simp))).wr W_136 (Or.inl (by simp))).wr W_148 (Or.inl (by simp))).wr W_165 (Or.inl (by simp))).wr W_198 (Or.inl (by simp))), V_204⟩
        · refine k_pure (g' := (mkF m 28 #[.val (.int i_155), .val (.int (Int32.ofNat q)), .val (.ref t), .val (.int i_155), .val (.int i_129), .val (.int (Int32.ofNat ((((q - 1) - 1) - 1) - 1))), .val (.int (1 : Int32))] [])) (fun TT HH tt kk => XS.icmpNo HH hx rfl (hb hby d_jdk_33_m_12_25) rfl (flt c_157).2.2.1 kk) ?_
          refine k_pure (g' := (mkF m 29 #[.val (.int i_155), .val (.int (Int32.ofNat q)), .val (.ref t), .val (.int i_155), .val (.int i_129), .val (.int (Int32.ofNat ((((q - 1) - 1) - 1) - 1))), .val (.int (1 : Int32))] [(.int i_155)])) (fun TT HH tt kk => XS.iloadN HH hx rfl (hb hby d_jdk_33_m_12_28) rfl kk) ?_
          refine k_pure (g' := (mkF m 31 #[.val (.int i_155), .val (.int (Int32.ofNat q)), .val (.ref t), .val (.int i_155), .val (.int i_129), .val (.int (Int32.ofNat ((((q - 1) - 1) - 1) - 1))), .val (.int (1 : Int32))] [(.int (100 : Int32)), (.int i_155)])) (fun TT HH tt kk => XS.bipush HH hx rfl (hb hby d_jdk_33_m_12_29) kk) ?_
          refine k_pure (g' := (mkF m 32 #[.val (.int i_155), .val (.int (Int32.ofNat q)), .val (.ref t), .val (.int i_155), .val (.int i_129), .val (.int (Int32.ofNat ((((q - 1) - 1) - 1) - 1))), .val (.int (1 : Int32))] [(.int (i_155 / (100 : Int32)))])) (fun TT HH tt kk => XS.idiv HH hx rfl (hb hby d_jdk_33_m_12_31) rfl (by decide) kk) ?_
          refine k_pure (g' := (mkF m 33 #[.val (.int i_155), .val (.int (Int32.ofNat q)), .val (.ref t), .val (.int (i_155 / (100 : Int32))), .val (.int i_129), .val (.int (Int32.ofNat ((((q - 1) - 1) - 1) - 1))), .val (.int (1 : Int32))] [])) (fun TT HH tt kk => XS.istoreN HH hx rfl (hb hby d_jdk_33_m_12_32) rfl (l' := #[.val (.int i_155), .val (.int (Int32.ofNat q)), .val (.ref t), .val (.int (i_155 / (100 : Int32))), .val (.int i_129), .val (.int (Int32.ofNat ((((q - 1) - 1) - 1) - 1))), .val (.int (1 : Int32))]) rfl kk) ?_
          refine k_pure (g' := (mkF m 34 #[.val (.int i_155), .val (.int (Int32.ofNat q)), .val (.ref t), .val (.int (i_155 / (100 : Int32))), .val (.int i_129), .val (.int (Int32.ofNat ((((q - 1) - 1) - 1) - 1))), .val (.int (1 : Int32))] [(.int (i_155 / (100 : Int32)))])) (fun TT HH tt kk => XS.iloadN HH hx rfl (hb hby d_jdk_33_m_12_33) rfl kk) ?_
          refine k_pure (g' := (mkF m 36 #[.val (.int i_155), .val (.int (Int32.ofNat q)), .val (.ref t), .val (.int (i_155 / (100 : Int32))), .val (.int i_129), .val (.int (Int32.ofNat ((((q - 1) - 1) - 1) - 1))), .val (.int (1 : Int32))] [(.int (100 : Int32)), (.int (i_155 / (100 : Int32)))])) (fun TT HH tt kk => XS.bipush HH hx rfl (hb hby d_jdk_33_m_12_34) kk) ?_
          refine k_pure (g' := (mkF m 37 #[.val (.int i_155), .val (.int (Int32.ofNat q)), .val (.ref t), .val (.int (i_155 / (100 : Int32))), .val (.int i_129), .val (.int (Int32.ofNat ((((q - 1) - 1) - 1) - 1))), .val (.int (1 : Int32))] [(.int ((i_155 / (100 : Int32)) * (100 : Int32)))])) (fun TT HH tt kk => XS.imul HH hx rfl (hb hby d_jdk_33_m_12_36) rfl kk) ?_
          refine k_pure (g' := (mkF m 38 #[.val (.int i_155), .val (.int (Int32.ofNat q)), .val (.ref t), .val (.int (i_155 / (100 : Int32))), .val (.int i_129), .val (.int (Int32.ofNat ((((q - 1) - 1) - 1) - 1))), .val (.int (1 : Int32))] [(.int i_155), (.int ((i_155 / (100 : Int32)) * (100 : Int32)))])) (fun TT HH tt kk => XS.iloadN HH hx rfl (hb hby d_jdk_33_m_12_37) rfl kk) ?_
          refine k_pure (g' := (mkF m 39 #[.val (.int i_155), .val (.int (Int32.ofNat q)), .val (.ref t), .val (.int (i_155 / (100 : Int32))), .val (.int i_129), .val (.int (Int32.ofNat ((((q - 1) - 1) - 1) - 1))), .val (.int (1 : Int32))] [(.int (((i_155 / (100 : Int32)) * (100 : Int32)) - i_155))])) (fun TT HH tt kk => XS.isub HH hx rfl (hb hby d_jdk_33_m_12_38) rfl kk) ?_
          refine k_pure (g' := (mkF m 41 #[.val (.int i_155), .val (.int (Int32.ofNat q)), .val (.ref t), .val (.int (i_155 / (100 : Int32))), .val (.int (((i_155 / (100 : Int32)) * (100 : Int32)) - i_155)), .val (.int (Int32.ofNat ((((q - 1) - 1) - 1) - 1))), .val (.int (1 : Int32))] [])) (fun TT HH tt kk => XS.istore HH hx rfl (hb hby d_jdk_33_m_12_39) rfl (l' := #[.val (.int i_155), .val (.int (Int32.ofNat q)), .val (.ref t), .val (.int (i_155 / (100 : Int32))), .val (.int (((i_155 / (100 : Int32)) * (100 : Int32)) - i_155)), .val (.int (Int32.ofNat ((((q - 1) - 1) - 1) - 1))), .val (.int (1 : Int32))]) rfl kk) ?_
          refine k_pure (g' := (mkF m 42 #[.val (.int i_155), .val (.int (Int32.ofNat q)), .val (.ref t), .val (.int (i_155 / (100 : Int32))), .val (.int (((i_155 / (100 : Int32)) * (100 : Int32)) - i_155)), .val (.int (Int32.ofNat ((((q - 1) - 1) - 1) - 1))), .val (.int (1 : Int32))] [(.int (i_155 / (100 : Int32)))])) (fun TT HH tt kk => XS.iloadN HH hx rfl (hb hby d_jdk_33_m_12_41) rfl kk) ?_
          refine k_pure (g' := (mkF m 43 #[.val (.int (i_155 / (100 : Int32))), .val (.int (Int32.ofNat q)), .val (.ref t), .val (.int (i_155 / (100 : Int32))), .val (.int (((i_155 / (100 : Int32)) * (100 : Int32)) - i_155)), .val (.int (Int32.ofNat ((((q - 1) - 1) - 1) - 1))), .val (.int (1 : Int32))] [])) (fun TT HH tt kk => XS.istoreN HH hx rfl (hb hby d_jdk_33_m_12_42) rfl (l' := #[.val (.int (i_155 / (100 : Int32))), .val (.int (Int32.ofNat q)), .val (.ref t), .val (.int (i_155 / (100 : Int32))), .val (.int (((i_155 / (100 : Int32)) * (100 : Int32)) - i_155)), .val (.int (Int32.ofNat ((((q - 1) - 1) - 1) - 1))), .val (.int (1 : Int32))]) rfl kk) ?_
          have hr_206 : 0 ≤ ((((i_155 / (100 : Int32)) * (100 : Int32)) - i_155)).toInt ∧ ((((i_155 / (100 : Int32)) * (100 : Int32)) - i_155)).toInt ≤ 99 := (by have r0 : ((-100) : Int32).toInt = (-100) := (by decide); have r1 := rng32 i_155; have r2 := c_idiv i_155 (100 : Int32) 100 (by decide) (by decide); have r3 := rng32 (i_155 / (100 : Int32)); have r4 := (by have q := c_imul (i_155 / (100 : Int32)) (100 : Int32); rw [show (100 : Int32).toInt = 100 from by decide] at q; exact q); have r5 := rng32 ((i_155 / (100 : Int32)) * (100 : Int32)); have r6 := c_isub ((i_155 / (100 : Int32)) * (100 : Int32)) i_155; have r7 := rng32 (((i_155 / (100 : Int32)) * (100 : Int32)) - i_155); have r8 : ¬ (((-100) : Int32)).toInt < (i_155).toInt := fun q => c_157 (Int32.lt_iff_toInt_lt.mpr q); have r9 := hb_156; omega)
          generalize (((i_155 / (100 : Int32)) * (100 : Int32)) - i_155) = i_205 at hr_206 ⊢
          show Run p l e _ s m _ below meth c Z EL1 _ n0 bk h_146 0 0 (mkF m 43 #[.val (.int (i_155 / (100 : Int32))), .val (.int (Int32.ofNat q)), .val (.ref t), .val (.int (i_155 / (100 : Int32))), .val (.int i_205), .val (.int (Int32.ofNat ((((q - 1) - 1) - 1) - 1))), .val (.int (1 : Int32))] []) _
          refine k_pure (g' := (mkF m 44 #[.val (.int (i_155 / (100 : Int32))), .val (.int (Int32.ofNat q)), .val (.ref t), .val (.int (i_155 / (100 : Int32))), .val (.int i_205), .val (.int (Int32.ofNat ((((q - 1) - 1) - 1) - 1))), .val (.int (1 : Int32))] [(.ref t)])) (fun TT HH tt kk => XS.aloadN HH hx rfl (hb hby d_jdk_33_m_12_43) rfl rfl kk) ?_
          refine k_pure (g' := (mkF m 47 #[.val (.int (i_155 / (100 : Int32))), .val (.int (Int32.ofNat q)), .val (.ref t), .val (.int (i_155 / (100 : Int32))), .val (.int i_205), .val (.int ((Int32.ofNat ((((q - 1) - 1) - 1) - 1)) + ((-1) : Int32))), .val (.int (1 : Int32))] [(.ref t)])) (fun TT HH tt kk => XS.iinc HH hx rfl (hb hby d_jdk_33_m_12_44) rfl (l' := #[.val (.int (i_155 / (100 : Int32))), .val (.int (Int32.ofNat q)), .val (.ref t), .val (.int (i_155 / (100 : Int32))), .val (.int i_205), .val (.int ((Int32.ofNat ((((q - 1) - 1) - 1) - 1)) + ((-1) : Int32))), .val (.int (1 : Int32))]) rfl kk) ?_
          rw [dec_ofNat (by omega) (by omega)]
          show Run p l e _ s m _ below meth c Z EL1 _ n0 bk h_146 0 0 (mkF m 47 #[.val (.int (i_155 / (100 : Int32))), .val (.int (Int32.ofNat q)), .val (.ref t), .val (.int (i_155 / (100 : Int32))), .val (.int i_205), .val (.int (Int32.ofNat (((((q - 1) - 1) - 1) - 1) - 1))), .val (.int (1 : Int32))] [(.ref t)]) _
          refine k_pure (g' := (mkF m 49 #[.val (.int (i_155 / (100 : Int32))), .val (.int (Int32.ofNat q)), .val (.ref t), .val (.int (i_155 / (100 : Int32))), .val (.int i_205), .val (.int (Int32.ofNat (((((q - 1) - 1) - 1) - 1) - 1))), .val (.int (1 : Int32))] [(.int (Int32.ofNat (((((q - 1) - 1) - 1) - 1) - 1))), (.ref t)])) (fun TT HH tt kk => XS.iload HH hx rfl (hb hby d_jdk_33_m_12_47) rfl kk) ?_
          refine k_getS hx (host := "") (Or.inl (hw _ (List.mem_of_getElem? (i := 128) rfl))) Via.refl (s_d1.ext O_147.2) rfl (hb hby d_jdk_33_m_12_49) ?_
          show Run p l e _ s m _ below meth c Z EL1 _ n0 bk h_146 0 0 (mkF m 52 #[.val (.int (i_155 / (100 : Int32))), .val (.int (Int32.ofNat q)), .val (.ref t), .val (.int (i_155 / (100 : Int32))), .val (.int i_205), .val (.int (Int32.ofNat (((((q - 1) - 1) - 1) - 1) - 1))), .val (.int (1 : Int32))] [(.ref d1), (.int (Int32.ofNat (((((q - 1) - 1) - 1) - 1) - 1))), (.ref t)]) _
          refine k_pure (g' := (mkF m 54 #[.val (.int (i_155 / (100 : Int32))), .val (.int (Int32.ofNat q)), .val (.ref t), .val (.int (i_155 / (100 : Int32))), .val (.int i_205), .val (.int (Int32.ofNat (((((q - 1) - 1) - 1) - 1) - 1))), .val (.int (1 : Int32))] [(.int i_205), (.ref d1), (.int (Int32.ofNat (((((q - 1) - 1) - 1) - 1) - 1))), (.ref t)])) (fun TT HH tt kk => XS.iload HH hx rfl (hb hby d_jdk_33_m_12_52) rfl kk) ?_
          have F_207 : Arv Z h_146 d1 kd1 .byte (100 : Int32) w1 (.int 0) := a_d1.ext O_147.2
          obtain ⟨x_208, hv_209⟩ := aget_int F_207 (i := (i_205).toNatClampNeg) (dig_lt hr_206)
          refine k_aget hx (v := (.int x_208)) F_207 (dig_in hr_206) hv_209 (Or.inr (Or.inr (Or.inr (Or.inl ⟨rfl, rfl⟩)))) rfl rfl (hb hby d_jdk_33_m_12_54) ?_
          show Run p l e _ s m _ below meth c Z EL1 _ n0 bk h_146 0 0 (mkF m 55 #[.val (.int (i_155 / (100 : Int32))), .val (.int (Int32.ofNat q)), .val (.ref t), .val (.int (i_155 / (100 : Int32))), .val (.int i_205), .val (.int (Int32.ofNat (((((q - 1) - 1) - 1) - 1) - 1))), .val (.int (1 : Int32))] [(.int x_208), (.int (Int32.ofNat (((((q - 1) - 1) - 1) - 1) - 1))), (.ref t)]) _
          refine k_stB hx V_154 (idx_ok (i := (((((q - 1) - 1) - 1) - 1) - 1)) (n := N) (by omega) (by omega)) ((((((q - 1) - 1) - 1) - 1) - 1)) (clampN (by omega)) (Nat.lt_of_lt_of_le (show (((((q - 1) - 1) - 1) - 1) - 1) < N by omega) hl_153) (by omega) nbt rfl rfl (hb hby d_jdk_33_m_12_55) ?_
          intro h_210 O_211 W_212 A_213
          have z_214 := W_212.size
          have V_215 : Arv Z h_210 t kb .byte (Int32.ofNat N) (vs_152.set ((((((q - 1) - 1) - 1) - 1) - 1)) (.int (nar .byte x_208))) (.int 0) := A_213
          show Run p l e _ s m _ below meth c Z EL1 _ n0 bk h_210 0 0 (mkF m 56 #[.val (.int (i_155 / (100 : Int32))), .val (.int (Int32.ofNat q)), .val (.ref t), .val (.int (i_155 / (100 : Int32))), .val (.int i_205), .val (.int (Int32.ofNat (((((q - 1) - 1) - 1) - 1) - 1))), .val (.int (1 : Int32))] []) _
          obtain ⟨vs_216, hl_217, V_218⟩ : ∃ ws : List Value, N ≤ ws.length ∧ Arv Z h_210 t kb .byte (Int32.ofNat N) ws (.int 0) := ⟨_, (by rw [List.length_set]; exact hl_153), V_215⟩
          refine k_pure (g' := (mkF m 57 #[.val (.int (i_155 / (100 : Int32))), .val (.int (Int32.ofNat q)), .val (.ref t), .val (.int (i_155 / (100 : Int32))), .val (.int i_205), .val (.int (Int32.ofNat (((((q - 1) - 1) - 1) - 1) - 1))), .val (.int (1 : Int32))] [(.ref t)])) (fun TT HH tt kk => XS.aloadN HH hx rfl (hb hby d_jdk_33_m_12_56) rfl rfl kk) ?_
          refine k_pure (g' := (mkF m 60 #[.val (.int (i_155 / (100 : Int32))), .val (.int (Int32.ofNat q)), .val (.ref t), .val (.int (i_155 / (100 : Int32))), .val (.int i_205), .val (.int ((Int32.ofNat (((((q - 1) - 1) - 1) - 1) - 1)) + ((-1) : Int32))), .val (.int (1 : Int32))] [(.ref t)])) (fun TT HH tt kk => XS.iinc HH hx rfl (hb hby d_jdk_33_m_12_57) rfl (l' := #[.val (.int (i_155 / (100 : Int32))), .val (.int (Int32.ofNat q)), .val (.ref t), .val (.int (i_155 / (100 : Int32))), .val (.int i_205), .val (.int ((Int32.ofNat (((((q - 1) - 1) - 1) - 1) - 1)) + ((-1) : Int32))), .val (.int (1 : Int32))]) rfl kk) ?_
          rw [dec_ofNat (by omega) (by omega)]
          show Run p l e _ s m _ below meth c Z EL1 _ n0 bk h_210 0 0 (mkF m 60 #[.val (.int (i_155 / (100 : Int32))), .val (.int (Int32.ofNat q)), .val (.ref t), .val (.int (i_155 / (100 : Int32))), .val (.int i_205), .val (.int (Int32.ofNat ((((((q - 1) - 1) - 1) - 1) - 1) - 1))), .val (.int (1 : Int32))] [(.ref t)]) _
          refine k_pure (g' := (mkF m 62 #[.val (.int (i_155 / (100 : Int32))), .val (.int (Int32.ofNat q)), .val (.ref t), .val (.int (i_155 / (100 : Int32))), .val (.int i_205), .val (.int (Int32.ofNat ((((((q - 1) - 1) - 1) - 1) - 1) - 1))), .val (.int (1 : Int32))] [(.int (Int32.ofNat ((((((q - 1) - 1) - 1) - 1) - 1) - 1))), (.ref t)])) (fun TT HH tt kk => XS.iload HH hx rfl (hb hby d_jdk_33_m_12_60) rfl kk) ?_
          refine k_getS hx (host := "") (Or.inl (hw _ (List.mem_of_getElem? (i := 199) rfl))) Via.refl (s_d2.ext O_211.2) rfl (hb hby d_jdk_33_m_12_62) ?_
          show Run p l e _ s m _ below meth c Z EL1 _ n0 bk h_210 0 0 (mkF m 65 #[.val (.int (i_155 / (100 : Int32))), .val (.int (Int32.ofNat q)), .val (.ref t), .val (.int (i_155 / (100 : Int32))), .val (.int i_205), .val (.int (Int32.ofNat ((((((q - 1) - 1) - 1) - 1) - 1) - 1))), .val (.int (1 : Int32))] [(.ref d2), (.int (Int32.ofNat ((((((q - 1) - 1) - 1) - 1) - 1) - 1))), (.ref t)]) _
          refine k_pure (g' := (mkF m 67 #[.val (.int (i_155 / (100 : Int32))), .val (.int (Int32.ofNat q)), .val (.ref t), .val (.int (i_155 / (100 : Int32))), .val (.int i_205), .val (.int (Int32.ofNat ((((((q - 1) - 1) - 1) - 1) - 1) - 1))), .val (.int (1 : Int32))] [(.int i_205), (.ref d2), (.int (Int32.ofNat ((((((q - 1) - 1) - 1) - 1) - 1) - 1))), (.ref t)])) (fun TT HH tt kk => XS.iload HH hx rfl (hb hby d_jdk_33_m_12_65) rfl kk) ?_
          have F_219 : Arv Z h_210 d2 kd2 .byte (100 : Int32) w2 (.int 0) := a_d2.ext O_211.2
          obtain ⟨x_220, hv_221⟩ := aget_int F_219 (i := (i_205).toNatClampNeg) (dig_lt hr_206)
          refine k_aget hx (v := (.int x_220)) F_219 (dig_in hr_206) hv_221 (Or.inr (Or.inr (Or.inr (Or.inl ⟨rfl, rfl⟩)))) rfl rfl (hb hby d_jdk_33_m_12_67) ?_
          show Run p l e _ s m _ below meth c Z EL1 _ n0 bk h_210 0 0 (mkF m 68 #[.val (.int (i_155 / (100 : Int32))), .val (.int (Int32.ofNat q)), .val (.ref t), .val (.int (i_155 / (100 : Int32))), .val (.int i_205), .val (.int (Int32.ofNat ((((((q - 1) - 1) - 1) - 1) - 1) - 1))), .val (.int (1 : Int32))] [(.int x_220), (.int (Int32.ofNat ((((((q - 1) - 1) - 1) - 1) - 1) - 1))), (.ref t)]) _
          refine k_stB hx V_218 (idx_ok (i := ((((((q - 1) - 1) - 1) - 1) - 1) - 1)) (n := N) (by omega) (by omega)) (((((((q - 1) - 1) - 1) - 1) - 1) - 1)) (clampN (by omega)) (Nat.lt_of_lt_of_le (show ((((((q - 1) - 1) - 1) - 1) - 1) - 1) < N by omega) hl_217) (by omega) nbt rfl rfl (hb hby d_jdk_33_m_12_68) ?_
          intro h_222 O_223 W_224 A_225
          have z_226 := W_224.size
          have V_227 : Arv Z h_222 t kb .byte (Int32.ofNat N) (vs_216.set (((((((q - 1) - 1) - 1) - 1) - 1) - 1)) (.int (nar .byte x_220))) (.int 0) := A_225
          show Run p l e _ s m _ below meth c Z EL1 _ n0 bk h_222 0 0 (mkF m 69 #[.val (.int (i_155 / (100 : Int32))), .val (.int (Int32.ofNat q)), .val (.ref t), .val (.int (i_155 / (100 : Int32))), .val (.int i_205), .val (.int (Int32.ofNat ((((((q - 1) - 1) - 1) - 1) - 1) - 1))), .val (.int (1 : Int32))] []) _
          obtain ⟨vs_228, hl_229, V_230⟩ : ∃ ws : List Value, N ≤ ws.length ∧ Arv Z h_222 t kb .byte (Int32.ofNat N) ws (.int 0) := ⟨_, (by rw [List.length_set]; exact hl_217), V_227⟩
          refine k_pure (g' := (mkF m 22 #[.val (.int (i_155 / (100 : Int32))), .val (.int (Int32.ofNat q)), .val (.ref t), .val (.int (i_155 / (100 : Int32))), .val (.int i_205), .val (.int (Int32.ofNat ((((((q - 1) - 1) - 1) - 1) - 1) - 1))), .val (.int (1 : Int32))] [])) (fun TT HH tt kk => XS.goto HH hx rfl (pc0 := 69) (pc' := 22) rfl (hb hby d_jdk_33_m_12_69) (by decide) (by decide) kk) ?_
          have hb_232 : -2147 ≤ ((i_155 / (100 : Int32))).toInt ∧ ((i_155 / (100 : Int32))).toInt ≤ 0 := (by have r0 : ((-100) : Int32).toInt = (-100) := (by decide); have r1 := rng32 i_155; have r2 := c_idiv i_155 (100 : Int32) 100 (by decide) (by decide); have r3 := rng32 (i_155 / (100 : Int32)); have r4 : ¬ (((-100) : Int32)).toInt < (i_155).toInt := fun q => c_157 (Int32.lt_iff_toInt_lt.mpr q); have r5 := hb_156; omega)
          generalize (i_155 / (100 : Int32)) = i_231 at hb_232 ⊢
          show Run p l e _ s m _ below meth c Z EL1 _ n0 bk h_222 0 0 (mkF m 22 #[.val (.int i_231), .val (.int (Int32.ofNat q)), .val (.ref t), .val (.int i_231), .val (.int i_205), .val (.int (Int32.ofNat ((((((q - 1) - 1) - 1) - 1) - 1) - 1))), .val (.int (1 : Int32))] []) _
          refine k_pure (g' := (mkF m 23 #[.val (.int i_231), .val (.int (Int32.ofNat q)), .val (.ref t), .val (.int i_231), .val (.int i_205), .val (.int (Int32.ofNat ((((((q - 1) - 1) - 1) - 1) - 1) - 1))), .val (.int (1 : Int32))] [(.int i_231)])) (fun TT HH tt kk => XS.iloadN HH hx rfl (hb hby d_jdk_33_m_12_22) rfl kk) ?_
          refine k_pure (g' := (mkF m 25 #[.val (.int i_231), .val (.int (Int32.ofNat q)), .val (.ref t), .val (.int i_231), .val (.int i_205), .val (.int (Int32.ofNat ((((((q - 1) - 1) - 1) - 1) - 1) - 1))), .val (.int (1 : Int32))] [(.int ((-100) : Int32)), (.int i_231)])) (fun TT HH tt kk => XS.bipush HH hx rfl (hb hby d_jdk_33_m_12_23) kk) ?_
          by_cases c_233 : ((-100) : Int32) < i_231
          · refine k_pure (g' := (mkF m 72 #[.val (.int i_231), .val (.int (Int32.ofNat q)), .val (.ref t), .val (.int i_231), .val (.int i_205), .val (.int (Int32.ofNat ((((((q - 1) - 1) - 1) - 1) - 1) - 1))), .val (.int (1 : Int32))] [])) (fun TT HH tt kk => XS.icmpYes HH hx rfl (pc0 := 25) (pc' := 72) rfl (hb hby d_jdk_33_m_12_25) rfl (tlt c_233).2.2.1 (by decide) (by decide) kk) ?_
            refine k_pure (g' := (mkF m 73 #[.val (.int i_231), .val (.int (Int32.ofNat q)), .val (.ref t), .val (.int i_231), .val (.int i_205), .val (.int (Int32.ofNat ((((((q - 1) - 1) - 1) - 1) - 1) - 1))), .val (.int (1 : Int32))] [(.ref t)])) (fun TT HH tt kk => XS.aloadN HH hx rfl (hb hby d_jdk_33_m_12_72) rfl rfl kk) ?_
            refine k_pure (g' := (mkF m 76 #[.val (.int i_231), .val (.int (Int32.ofNat q)), .val (.ref t), .val (.int i_231), .val (.int i_205), .val (.int ((Int32.ofNat ((((((q - 1) - 1) - 1) - 1) - 1) - 1)) + ((-1) : Int32))), .val (.int (1 : Int32))] [(.ref t)])) (fun TT HH tt kk => XS.iinc HH hx rfl (hb hby d_jdk_33_m_12_73) rfl (l' := #[.val (.int i_231), .val (.int (Int32.ofNat q)), .val (.ref t), .val (.int i_231), .val (.int i_205), .val (.int ((Int32.ofNat ((((((q - 1) - 1) - 1) - 1) - 1) - 1)) + ((-1) : Int32))), .val (.int (1 : Int32))]) rfl kk) ?_
            rw [dec_ofNat (by omega) (by omega)]
            show Run p l e _ s m _ below meth c Z EL1 _ n0 bk h_222 0 0 (mkF m 76 #[.val (.int i_231), .val (.int (Int32.ofNat q)), .val (.ref t), .val (.int i_231), .val (.int i_205), .val (.int (Int32.ofNat (((((((q - 1) - 1) - 1) - 1) - 1) - 1) - 1))), .val (.int (1 : Int32))] [(.ref t)]) _
            refine k_pure (g' := (mkF m 78 #[.val (.int i_231), .val (.int (Int32.ofNat q)), .val (.ref t), .val (.int i_231), .val (.int i_205), .val (.int (Int32.ofNat (((((((q - 1) - 1) - 1) - 1) - 1) - 1) - 1))), .val (.int (1 : Int32))] [(.int (Int32.ofNat (((((((q - 1) - 1) - 1) - 1) - 1) - 1) - 1))), (.ref t)])) (fun TT HH tt kk => XS.iload HH hx rfl (hb hby d_jdk_33_m_12_76) rfl kk) ?_
            refine k_getS hx (host := "") (Or.inl (hw _ (List.mem_of_getElem? (i := 128) rfl))) Via.refl (s_d1.ext O_223.2) rfl (hb hby d_jdk_33_m_12_78) ?_
            show Run p l e _ s m _ below meth c Z EL1 _ n0 bk h_222 0 0 (mkF m 81 #[.val (.int i_231), .val (.int (Int32.ofNat q)), .val (.ref t), .val (.int i_231), .val (.int i_205), .val (.int (Int32.ofNat (((((((q - 1) - 1) - 1) - 1) - 1) - 1) - 1))), .val (.int (1 : Int32))] [(.ref d1), (.int (Int32.ofNat (((((((q - 1) - 1) - 1) - 1) - 1) - 1) - 1))), (.ref t)]) _
            refine k_pure (g' := (mkF m 82 #[.val (.int i_231), .val (.int (Int32.ofNat q)), .val (.ref t), .val (.int i_231), .val (.int i_205), .val (.int (Int32.ofNat (((((((q - 1) - 1) - 1) - 1) - 1) - 1) - 1))), .val (.int (1 : Int32))] [(.int i_231), (.ref d1), (.int (Int32.ofNat (((((((q - 1) - 1) - 1) - 1) - 1) - 1) - 1))), (.ref t)])) (fun TT HH tt kk => XS.iloadN HH hx rfl (hb hby d_jdk_33_m_12_81) rfl kk) ?_
            refine k_pure (g' := (mkF m 83 #[.val (.int i_231), .val (.int (Int32.ofNat q)), .val (.ref t), .val (.int i_231), .val (.int i_205), .val (.int (Int32.ofNat (((((((q - 1) - 1) - 1) - 1) - 1) - 1) - 1))), .val (.int (1 : Int32))] [(.int (-i_231)), (.ref d1), (.int (Int32.ofNat (((((((q - 1) - 1) - 1) - 1) - 1) - 1) - 1))), (.ref t)])) (fun TT HH tt kk => XS.ineg HH hx rfl (hb hby d_jdk_33_m_12_82) rfl kk) ?_
            have hr_235 : 0 ≤ ((-i_231)).toInt ∧ ((-i_231)).toInt ≤ 99 := (by have r0 : ((-100) : Int32).toInt = (-100) := (by decide); have r1 := rng32 i_231; have r2 := c_ineg i_231; have r3 := rng32 (-i_231); have r4 := (Int32.lt_iff_toInt_lt.mp c_233); have r5 := hb_232; omega)
            generalize (-i_231) = i_234 at hr_235 ⊢
            show Run p l e _ s m _ below meth c Z EL1 _ n0 bk h_222 0 0 (mkF m 83 #[.val (.int i_231), .val (.int (Int32.ofNat q)), .val (.ref t), .val (.int i_231), .val (.int i_205), .val (.int (Int32.ofNat (((((((q - 1) - 1) - 1) - 1) - 1) - 1) - 1))), .val (.int (1 : Int32))] [(.int i_234), (.ref d1), (.int (Int32.ofNat (((((((q - 1) - 1) - 1) - 1) - 1) - 1) - 1))), (.ref t)]) _
            have F_236 : Arv Z h_222 d1 kd1 .byte (100 : Int32) w1 (.int 0) := a_d1.ext O_223.2
            obtain ⟨x_237, hv_238⟩ := aget_int F_236 (i := (i_234).toNatClampNeg) (dig_lt hr_235)
            refine k_aget hx (v := (.int x_237)) F_236 (dig_in hr_235) hv_238 (Or.inr (Or.inr (Or.inr (Or.inl ⟨rfl, rfl⟩)))) rfl rfl (hb hby d_jdk_33_m_12_83) ?_
            show Run p l e _ s m _ below meth c Z EL1 _ n0 bk h_222 0 0 (mkF m 84 #[.val (.int i_231), .val (.int (Int32.ofNat q)), .val (.ref t), .val (.int i_231), .val (.int i_205), .val (.int (Int32.ofNat (((((((q - 1) - 1) - 1) - 1) - 1) - 1) - 1))), .val (.int (1 : Int32))] [(.int x_237), (.int (Int32.ofNat (((((((q - 1) - 1) - 1) - 1) - 1) - 1) - 1))), (.ref t)]) _
            refine k_stB hx V_230 (idx_ok (i := (((((((q - 1) - 1) - 1) - 1) - 1) - 1) - 1)) (n := N) (by omega) (by omega)) ((((((((q - 1) - 1) - 1) - 1) - 1) - 1) - 1)) (clampN (by omega)) (Nat.lt_of_lt_of_le (show (((((((q - 1) - 1) - 1) - 1) - 1) - 1) - 1) < N by omega) hl_229) (by omega) nbt rfl rfl (hb hby d_jdk_33_m_12_84) ?_
            intro h_239 O_240 W_241 A_242
            have z_243 := W_241.size
            have V_244 : Arv Z h_239 t kb .byte (Int32.ofNat N) (vs_228.set ((((((((q - 1) - 1) - 1) - 1) - 1) - 1) - 1)) (.int (nar .byte x_237))) (.int 0) := A_242
            show Run p l e _ s m _ below meth c Z EL1 _ n0 bk h_239 0 0 (mkF m 85 #[.val (.int i_231), .val (.int (Int32.ofNat q)), .val (.ref t), .val (.int i_231), .val (.int i_205), .val (.int (Int32.ofNat (((((((q - 1) - 1) - 1) - 1) - 1) - 1) - 1))), .val (.int (1 : Int32))] []) _
            obtain ⟨vs_245, hl_246, V_247⟩ : ∃ ws : List Value, N ≤ ws.length ∧ Arv Z h_239 t kb .byte (Int32.ofNat N) ws (.int 0) := ⟨_, (by rw [List.length_set]; exact hl_229), V_244⟩
            refine k_pure (g' := (mkF m 86 #[.val (.int i_231), .val (.int (Int32.ofNat q)), .val (.ref t), .val (.int i_231), .val (.int i_205), .val (.int (Int32.ofNat (((((((q - 1) - 1) - 1) - 1) - 1) - 1) - 1))), .val (.int (1 : Int32))] [(.int i_231)])) (fun TT HH tt kk => XS.iloadN HH hx rfl (hb hby d_jdk_33_m_12_85) rfl kk) ?_
            refine k_pure (g' := (mkF m 88 #[.val (.int i_231), .val (.int (Int32.ofNat q)), .val (.ref t), .val (.int i_231), .val (.int i_205), .val (.int (Int32.ofNat (((((((q - 1) - 1) - 1) - 1) - 1) - 1) - 1))), .val (.int (1 : Int32))] [(.int ((-9) : Int32)), (.int i_231)])) (fun TT HH tt kk => XS.bipush HH hx rfl (hb hby d_jdk_33_m_12_86) kk) ?_
            by_cases c_248 : i_231 < ((-9) : Int32)
            · refine k_pure (g' := (mkF m 91 #[.val (.int i_231), .val (.int (Int32.ofNat q)), .val (.ref t), .val (.int i_231), .val (.int i_205), .val (.int (Int32.ofNat (((((((q - 1) - 1) - 1) - 1) - 1) - 1) - 1))), .val (.int (1 : Int32))] [])) (fun TT HH tt kk => XS.icmpNo HH hx rfl (hb hby d_jdk_33_m_12_88) rfl (tlt c_248).2.1 kk) ?_
              refine k_pure (g' := (mkF m 92 #[.val (.int i_231), .val (.int (Int32.ofNat q)), .val (.ref t), .val (.int i_231), .val (.int i_205), .val (.int (Int32.ofNat (((((((q - 1) - 1) - 1) - 1) - 1) - 1) - 1))), .val (.int (1 : Int32))] [(.ref t)])) (fun TT HH tt kk => XS.aloadN HH hx rfl (hb hby d_jdk_33_m_12_91) rfl rfl kk) ?_
              refine k_pure (g' := (mkF m 95 #[.val (.int i_231), .val (.int (Int32.ofNat q)), .val (.ref t), .val (.int i_231), .val (.int i_205), .val (.int ((Int32.ofNat (((((((q - 1) - 1) - 1) - 1) - 1) - 1) - 1)) + ((-1) : Int32))), .val (.int (1 : Int32))] [(.ref t)])) (fun TT HH tt kk => XS.iinc HH hx rfl (hb hby d_jdk_33_m_12_92) rfl (l' := #[.val (.int i_231), .val (.int (Int32.ofNat q)), .val (.ref t), .val (.int i_231), .val (.int i_205), .val (.int ((Int32.ofNat (((((((q - 1) - 1) - 1) - 1) - 1) - 1) - 1)) + ((-1) : Int32))), .val (.int (1 : Int32))]) rfl kk) ?_
              rw [dec_ofNat (by omega) (by omega)]
              show Run p l e _ s m _ below meth c Z EL1 _ n0 bk h_239 0 0 (mkF m 95 #[.val (.int i_231), .val (.int (Int32.ofNat q)), .val (.ref t), .val (.int i_231), .val (.int i_205), .val (.int (Int32.ofNat ((((((((q - 1) - 1) - 1) - 1) - 1) - 1) - 1) - 1))), .val (.int (1 : Int32))] [(.ref t)]) _
              refine k_pure (g' := (mkF m 97 #[.val (.int i_231), .val (.int (Int32.ofNat q)), .val (.ref t), .val (.int i_231), .val (.int i_205), .val (.int (Int32.ofNat ((((((((q - 1) - 1) - 1) - 1) - 1) - 1) - 1) - 1))), .val (.int (1 : Int32))] [(.int (Int32.ofNat ((((((((q - 1) - 1) - 1) - 1) - 1) - 1) - 1) - 1))), (.ref t)])) (fun TT HH tt kk => XS.iload HH hx rfl (hb hby d_jdk_33_m_12_95) rfl kk) ?_
              refine k_getS hx (host := "") (Or.inl (hw _ (List.mem_of_getElem? (i := 199) rfl))) Via.refl (s_d2.ext O_240.2) rfl (hb hby d_jdk_33_m_12_97) ?_
              show Run p l e _ s m _ below meth c Z EL1 _ n0 bk h_239 0 0 (mkF m 100 #[.val (.int i_231), .val (.int (Int32.ofNat q)), .val (.ref t), .val (.int i_231), .val (.int i_205), .val (.int (Int32.ofNat ((((((((q - 1) - 1) - 1) - 1) - 1) - 1) - 1) - 1))), .val (.int (1 : Int32))] [(.ref d2), (.int (Int32.ofNat ((((((((q - 1) - 1) - 1) - 1) - 1) - 1) - 1) - 1))), (.ref t)]) _
              refine k_pure (g' := (mkF m 101 #[.val (.int i_231), .val (.int (Int32.ofNat q)), .val (.ref t), .val (.int i_231), .val (.int i_205), .val (.int (Int32.ofNat ((((((((q - 1) - 1) - 1) - 1) - 1) - 1) - 1) - 1))), .val (.int (1 : Int32))] [(.int i_231), (.ref d2), (.int (Int32.ofNat ((((((((q - 1) - 1) - 1) - 1) - 1) - 1) - 1) - 1))), (.ref t)])) (fun TT HH tt kk => XS.iloadN HH hx rfl (hb hby d_jdk_33_m_12_100) rfl kk) ?_
              refine k_pure (g' := (mkF m 102 #[.val (.int i_231), .val (.int (Int32.ofNat q)), .val (.ref t), .val (.int i_231), .val (.int i_205), .val (.int (Int32.ofNat ((((((((q - 1) - 1) - 1) - 1) - 1) - 1) - 1) - 1))), .val (.int (1 : Int32))] [(.int (-i_231)), (.ref d2), (.int (Int32.ofNat ((((((((q - 1) - 1) - 1) - 1) - 1) - 1) - 1) - 1))), (.ref t)])) (fun TT HH tt kk => XS.ineg HH hx rfl (hb hby d_jdk_33_m_12_101) rfl kk) ?_
              have hr_250 : 0 ≤ ((-i_231)).toInt ∧ ((-i_231)).toInt ≤ 99 := (by have r0 : ((-100) : Int32).toInt = (-100) := (by decide); have r1 := rng32 i_231; have r2 : ((-9) : Int32).toInt = (-9) := (by decide); have r3 := c_ineg i_231; have r4 := rng32 (-i_231); have r5 := (Int32.lt_iff_toInt_lt.mp c_233); have r6 := (Int32.lt_iff_toInt_lt.mp c_248); have r7 := hb_232; omega)
              generalize (-i_231) = i_249 at hr_250 ⊢
              show Run p l e _ s m _ below meth c Z EL1 _ n0 bk h_239 0 0 (mkF m 102 #[.val (.int i_231), .val (.int (Int32.ofNat q)), .val (.ref t), .val (.int i_231), .val (.int i_205), .val (.int (Int32.ofNat ((((((((q - 1) - 1) - 1) - 1) - 1) - 1) - 1) - 1))), .val (.int (1 : Int32))] [(.int i_249), (.ref d2), (.int (Int32.ofNat ((((((((q - 1) - 1) - 1) - 1) - 1) - 1) - 1) - 1))), (.ref t)]) _
              have F_251 : Arv Z h_239 d2 kd2 .byte (100 : Int32) w2 (.int 0) := a_d2.ext O_240.2
              obtain ⟨x_252, hv_253⟩ := aget_int F_251 (i := (i_249).toNatClampNeg) (dig_lt hr_250)
              refine k_aget hx (v := (.int x_252)) F_251 (dig_in hr_250) hv_253 (Or.inr (Or.inr (Or.inr (Or.inl ⟨rfl, rfl⟩)))) rfl rfl (hb hby d_jdk_33_m_12_102) ?_
              show Run p l e _ s m _ below meth c Z EL1 _ n0 bk h_239 0 0 (mkF m 103 #[.val (.int i_231), .val (.int (Int32.ofNat q)), .val (.ref t), .val (.int i_231), .val (.int i_205), .val (.int (Int32.ofNat ((((((((q - 1) - 1) - 1) - 1) - 1) - 1) - 1) - 1))), .val (.int (1 : Int32))] [(.int x_252), (.int (Int32.ofNat ((((((((q - 1) - 1) - 1) - 1) - 1) - 1) - 1) - 1))), (.ref t)]) _
              refine k_stB hx V_247 (idx_ok (i := ((((((((q - 1) - 1) - 1) - 1) - 1) - 1) - 1) - 1)) (n := N) (by omega) (by omega)) (((((((((q - 1) - 1) - 1) - 1) - 1) - 1) - 1) - 1)) (clampN (by omega)) (Nat.lt_of_lt_of_le (show ((((((((q - 1) - 1) - 1) - 1) - 1) - 1) - 1) - 1) < N by omega) hl_246) (by omega) nbt rfl rfl (hb hby d_jdk_33_m_12_103) ?_
              intro h_254 O_255 W_256 A_257
              have z_258 := W_256.size
              have V_259 : Arv Z h_254 t kb .byte (Int32.ofNat N) (vs_245.set (((((((((q - 1) - 1) - 1) - 1) - 1) - 1) - 1) - 1)) (.int (nar .byte x_252))) (.int 0) := A_257
              show Run p l e _ s m _ below meth c Z EL1 _ n0 bk h_254 0 0 (mkF m 104 #[.val (.int i_231), .val (.int (Int32.ofNat q)), .val (.ref t), .val (.int i_231), .val (.int i_205), .val (.int (Int32.ofNat ((((((((q - 1) - 1) - 1) - 1) - 1) - 1) - 1) - 1))), .val (.int (1 : Int32))] []) _
              obtain ⟨vs_260, hl_261, V_262⟩ : ∃ ws : List Value, N ≤ ws.length ∧ Arv Z h_254 t kb .byte (Int32.ofNat N) ws (.int 0) := ⟨_, (by rw [List.length_set]; exact hl_246), V_259⟩
              refine k_pure (g' := (mkF m 106 #[.val (.int i_231), .val (.int (Int32.ofNat q)), .val (.ref t), .val (.int i_231), .val (.int i_205), .val (.int (Int32.ofNat ((((((((q - 1) - 1) - 1) - 1) - 1) - 1) - 1) - 1))), .val (.int (1 : Int32))] [(.int (1 : Int32))])) (fun TT HH tt kk => XS.iload HH hx rfl (hb hby d_jdk_33_m_12_104) rfl kk) ?_
              refine k_pure (g' := (mkF m 109 #[.val (.int i_231), .val (.int (Int32.ofNat q)), .val (.ref t), .val (.int i_231), .val (.int i_205), .val (.int (Int32.ofNat ((((((((q - 1) - 1) - 1) - 1) - 1) - 1) - 1) - 1))), .val (.int (1 : Int32))] [])) (fun TT HH tt kk => XS.ifNo HH hx rfl (hb hby d_jdk_33_m_12_106) rfl ((if0 _ _).trans (feq (by decide : ¬ ((1 : Int32) = (0 : Int32)))).1) kk) ?_
              refine k_pure (g' := (mkF m 110 #[.val (.int i_231), .val (.int (Int32.ofNat q)), .val (.ref t), .val (.int i_231), .val (.int i_205), .val (.int (Int32.ofNat ((((((((q - 1) - 1) - 1) - 1) - 1) - 1) - 1) - 1))), .val (.int (1 : Int32))] [(.ref t)])) (fun TT HH tt kk => XS.aloadN HH hx rfl (hb hby d_jdk_33_m_12_109) rfl rfl kk) ?_
              refine k_pure (g' := (mkF m 113 #[.val (.int i_231), .val (.int (Int32.ofNat q)), .val (.ref t), .val (.int i_231), .val (.int i_205), .val (.int ((Int32.ofNat ((((((((q - 1) - 1) - 1) - 1) - 1) - 1) - 1) - 1)) + ((-1) : Int32))), .val (.int (1 : Int32))] [(.ref t)])) (fun TT HH tt kk => XS.iinc HH hx rfl (hb hby d_jdk_33_m_12_110) rfl (l' := #[.val (.int i_231), .val (.int (Int32.ofNat q)), .val (.ref t), .val (.int i_231), .val (.int i_205), .val (.int ((Int32.ofNat ((((((((q - 1) - 1) - 1) - 1) - 1) - 1) - 1) - 1)) + ((-1) : Int32))), .val (.int (1 : Int32))]) rfl kk) ?_
              rw [dec_ofNat (by omega) (by omega)]
              show Run p l e _ s m _ below meth c Z EL1 _ n0 bk h_254 0 0 (mkF m 113 #[.val (.int i_231), .val (.int (Int32.ofNat q)), .val (.ref t), .val (.int i_231), .val (.int i_205), .val (.int (Int32.ofNat (((((((((q - 1) - 1) - 1) - 1) - 1) - 1) - 1) - 1) - 1))), .val (.int (1 : Int32))] [(.ref t)]) _
              refine k_pure (g' := (mkF m 115 #[.val (.int i_231), .val (.int (Int32.ofNat q)), .val (.ref t), .val (.int i_231), .val (.int i_205), .val (.int (Int32.ofNat (((((((((q - 1) - 1) - 1) - 1) - 1) - 1) - 1) - 1) - 1))), .val (.int (1 : Int32))] [(.int (Int32.ofNat (((((((((q - 1) - 1) - 1) - 1) - 1) - 1) - 1) - 1) - 1))), (.ref t)])) (fun TT HH tt kk => XS.iload HH hx rfl (hb hby d_jdk_33_m_12_113) rfl kk) ?_
              refine k_pure (g' := (mkF m 117 #[.val (.int i_231), .val (.int (Int32.ofNat q)), .val (.ref t), .val (.int i_231), .val (.int i_205), .val (.int (Int32.ofNat (((((((((q - 1) - 1) - 1) - 1) - 1) - 1) - 1) - 1) - 1))), .val (.int (1 : Int32))] [(.int (45 : Int32)), (.int (Int32.ofNat (((((((((q - 1) - 1) - 1) - 1) - 1) - 1) - 1) - 1) - 1))), (.ref t)])) (fun TT HH tt kk => XS.bipush HH hx rfl (hb hby d_jdk_33_m_12_115) kk) ?_
              refine k_stB hx V_262 (idx_ok (i := (((((((((q - 1) - 1) - 1) - 1) - 1) - 1) - 1) - 1) - 1)) (n := N) (by omega) (by omega)) ((((((((((q - 1) - 1) - 1) - 1) - 1) - 1) - 1) - 1) - 1)) (clampN (by omega)) (Nat.lt_of_lt_of_le (show (((((((((q - 1) - 1) - 1) - 1) - 1) - 1) - 1) - 1) - 1) < N by omega) hl_261) (by omega) nbt rfl rfl (hb hby d_jdk_33_m_12_117) ?_
              intro h_263 O_264 W_265 A_266
              have z_267 := W_265.size
              have V_268 : Arv Z h_263 t kb .byte (Int32.ofNat N) (vs_260.set ((((((((((q - 1) - 1) - 1) - 1) - 1) - 1) - 1) - 1) - 1)) (.int (45 : Int32))) (.int 0) := A_266
              show Run p l e _ s m _ below meth c Z EL1 _ n0 bk h_263 0 0 (mkF m 118 #[.val (.int i_231), .val (.int (Int32.ofNat q)), .val (.ref t), .val (.int i_231), .val (.int i_205), .val (.int (Int32.ofNat (((((((((q - 1) - 1) - 1) - 1) - 1) - 1) - 1) - 1) - 1))), .val (.int (1 : Int32))] []) _
              obtain ⟨vs_269, hl_270, V_271⟩ : ∃ ws : List Value, N ≤ ws.length ∧ Arv Z h_263 t kb .byte (Int32.ofNat N) ws (.int 0) := ⟨_, (by rw [List.length_set]; exact hl_261), V_268⟩
              refine k_pure (g' := (mkF m 120 #[.val (.int i_231), .val (.int (Int32.ofNat q)), .val (.ref t), .val (.int i_231), .val (.int i_205), .val (.int (Int32.ofNat (((((((((q - 1) - 1) - 1) - 1) - 1) - 1) - 1) - 1) - 1))), .val (.int (1 : Int32))] [(.int (Int32.ofNat (((((((((q - 1) - 1) - 1) - 1) - 1) - 1) - 1) - 1) - 1)))])) (fun TT HH tt kk => XS.iload HH hx rfl (hb hby d_jdk_33_m_12_118) rfl kk) ?_
              exact k_retI hx hlk hret (hb hby d_jdk_33_m_12_120) (by decide) (by decide) ⟨_, _, rfl, rfl, ((((((((((Keep.refl _ _).wr W_60 (Or.inl (by simp))).wr W_72 (Or.inl (by simp))).wr W_136 (Or.inl (by simp))).wr W_148 (Or.inl (by simp))).wr W_212 (Or.inl (by simp))).wr W_224 (Or.inl (by simp))).wr W_241 (Or.inl (by simp))).wr W_256 (Or.inl (by simp))).wr W_265 (Or.inl (by simp))), V_271⟩
            · refine k_pure (g' := (mkF m 104 #[.val (.int i_231), .val (.int (Int32.ofNat q)), .val (.ref t), .val (.int i_231), .val (.int i_205), .val (.int (Int32.ofNat (((((((q - 1) - 1) - 1) - 1) - 1) - 1) - 1))), .val (.int (1 : Int32))] [])) (fun TT HH tt kk => XS.icmpYes HH hx rfl (pc0 := 88) (pc' := 104) rfl (hb hby d_jdk_33_m_12_88) rfl (flt c_248).2.1 (by decide) (by decide) kk) ?_
              refine k_pure (g' := (mkF m 106 #[.val (.int i_231), .val (.int (Int32.ofNat q)), .val (.ref t), .val (.int i_231), .val (.int i_205), .val (.int (Int32.ofNat (((((((q - 1) - 1) - 1) - 1) - 1) - 1) - 1))), .val (.int (1 : Int32))] [(.int (1 : Int32))])) (fun TT HH tt kk => XS.iload HH hx rfl (hb hby d_jdk_33_m_12_104) rfl kk) ?_
              refine k_pure (g' := (mkF m 109 #[.val (.int i_231), .val (.int (Int32.ofNat q)), .val (.ref t), .val (.int i_231), .val (.int i_205), .val (.int (Int32.ofNat (((((((q - 1) - 1) - 1) - 1) - 1) - 1) - 1))), .val (.int (1 : Int32))] [])) (fun TT HH tt kk => XS.ifNo HH hx rfl (hb hby d_jdk_33_m_12_106) rfl ((if0 _ _).trans (feq (by decide : ¬ ((1 : Int32) = (0 : Int32)))).1) kk) ?_
              refine k_pure (g' := (mkF m 110 #[.val (.int i_231), .val (.int (Int32.ofNat q)), .val (.ref t), .val (.int i_231), .val (.int i_205), .val (.int (Int32.ofNat (((((((q - 1) - 1) - 1) - 1) - 1) - 1) - 1))), .val (.int (1 : Int32))] [(.ref t)])) (fun TT HH tt kk => XS.aloadN HH hx rfl (hb hby d_jdk_33_m_12_109) rfl rfl kk) ?_
              refine k_pure (g' := (mkF m 113 #[.val (.int i_231), .val (.int (Int32.ofNat q)), .val (.ref t), .val (.int i_231), .val (.int i_205), .val (.int ((Int32.ofNat (((((((q - 1) - 1) - 1) - 1) - 1) - 1) - 1)) + ((-1) : Int32))), .val (.int (1 : Int32))] [(.ref t)])) (fun TT HH tt kk => XS.iinc HH hx rfl (hb hby d_jdk_33_m_12_110) rfl (l' := #[.val (.int i_231), .val (.int (Int32.ofNat q)), .val (.ref t), .val (.int i_231), .val (.int i_205), .val (.int ((Int32.ofNat (((((((q - 1) - 1) - 1) - 1) - 1) - 1) - 1)) + ((-1) : Int32))), .val (.int (1 : Int32))]) rfl kk) ?_
              rw [dec_ofNat (by omega) (by omega)]
              show Run p l e _ s m _ below meth c Z EL1 _ n0 bk h_239 0 0 (mkF m 113 #[.val (.int i_231), .val (.int (Int32.ofNat q)), .val (.ref t), .val (.int i_231), .val (.int i_205), .val (.int (Int32.ofNat ((((((((q - 1) - 1) - 1) - 1) - 1) - 1) - 1) - 1))), .val (.int (1 : Int32))] [(.ref t)]) _
              refine k_pure (g' := (mkF m 115 #[.val (.int i_231), .val (.int (Int32.ofNat q)), .val (.ref t), .val (.int i_231), .val (.int i_205), .val (.int (Int32.ofNat ((((((((q - 1) - 1) - 1) - 1) - 1) - 1) - 1) - 1))), .val (.int (1 : Int32))] [(.int (Int32.ofNat ((((((((q - 1) - 1) - 1) - 1) - 1) - 1) - 1) - 1))), (.ref t)])) (fun TT HH tt kk => XS.iload HH hx rfl (hb hby d_jdk_33_m_12_113) rfl kk) ?_
              refine k_pure (g' := (mkF m 117 #[.val (.int i_231), .val (.int (Int32.ofNat q)), .val (.ref t), .val (.int i_231), .val (.int i_205), .val (.int (Int32.ofNat ((((((((q - 1) - 1) - 1) - 1) - 1) - 1) - 1) - 1))), .val (.int (1 : Int32))] [(.int (45 : Int32)), (.int (Int32.ofNat ((((((((q - 1) - 1) - 1) - 1) - 1) - 1) - 1) - 1))), (.ref t)])) (fun TT HH tt kk => XS.bipush HH hx rfl (hb hby d_jdk_33_m_12_115) kk) ?_
              refine k_stB hx V_247 (idx_ok (i := ((((((((q - 1) - 1) - 1) - 1) - 1) - 1) - 1) - 1)) (n := N) (by omega) (by omega)) (((((((((q - 1) - 1) - 1) - 1) - 1) - 1) - 1) - 1)) (clampN (by omega)) (Nat.lt_of_lt_of_le (show ((((((((q - 1) - 1) - 1) - 1) - 1) - 1) - 1) - 1) < N by omega) hl_246) (by omega) nbt rfl rfl (hb hby d_jdk_33_m_12_117) ?_
              intro h_272 O_273 W_274 A_275
              have z_276 := W_274.size
              have V_277 : Arv Z h_272 t kb .byte (Int32.ofNat N) (vs_245.set (((((((((q - 1) - 1) - 1) - 1) - 1) - 1) - 1) - 1)) (.int (45 : Int32))) (.int 0) := A_275
              show Run p l e _ s m _ below meth c Z EL1 _ n0 bk h_272 0 0 (mkF m 118 #[.val (.int i_231), .val (.int (Int32.ofNat q)), .val (.ref t), .val (.int i_231), .val (.int i_205), .val (.int (Int32.ofNat ((((((((q - 1) - 1) - 1) - 1) - 1) - 1) - 1) - 1))), .val (.int (1 : Int32))] []) _
              obtain ⟨vs_278, hl_279, V_280⟩ : ∃ ws : List Value, N ≤ ws.length ∧ Arv Z h_272 t kb .byte (Int32.ofNat N) ws (.int 0) := ⟨_, (by rw [List.length_set]; exact hl_246), V_277⟩
              refine k_pure (g' := (mkF m 120 #[.val (.int i_231), .val (.int (Int32.ofNat q)), .val (.ref t), .val (.int i_231), .val (.int i_205), .val (.int (Int32.ofNat ((((((((q - 1) - 1) - 1) - 1) - 1) - 1) - 1) - 1))), .val (.int (1 : Int32))] [(.int (Int32.ofNat ((((((((q - 1) - 1) - 1) - 1) - 1) - 1) - 1) - 1)))])) (fun TT HH tt kk => XS.iload HH hx rfl (hb hby d_jdk_33_m_12_118) rfl kk) ?_
              exact k_retI hx hlk hret (hb hby d_jdk_33_m_12_120) (by decide) (by decide) ⟨_, _, rfl, rfl, (((((((((Keep.refl _ _).wr W_60 (Or.inl (by simp))).wr W_72 (Or.inl (by simp))).wr W_136 (Or.inl (by simp))).wr W_148 (Or.inl (by simp))).wr W_212 (Or.inl (by simp))).wr W_224 (Or.inl (by simp))).wr W_241 (Or.inl (by simp))).wr W_274 (Or.inl (by simp))), V_280⟩
          · refine k_pure (g' := (mkF m 28 #[.val (.int i_231), .val (.int (Int32.ofNat q)), .val (.ref t), .val (.int i_231), .val (.int i_205), .val (.int (Int32.ofNat ((((((q - 1) - 1) - 1) - 1) - 1) - 1))), .val (.int (1 : Int32))] [])) (fun TT HH tt kk => XS.icmpNo HH hx rfl (hb hby d_jdk_33_m_12_25) rfl (flt c_233).2.2.1 kk) ?_
            refine k_pure (g' := (mkF m 29 #[.val (.int i_231), .val (.int (Int32.ofNat q)), .val (.ref t), .val (.int i_231), .val (.int i_205), .val (.int (Int32.ofNat ((((((q - 1) - 1) - 1) - 1) - 1) - 1))), .val (.int (1 : Int32))] [(.int i_231)])) (fun TT HH tt kk => XS.iloadN HH hx rfl (hb hby d_jdk_33_m_12_28) rfl kk) ?_
            refine k_pure (g' := (mkF m 31 #[.val (.int i_231), .val (.int (Int32.ofNat q)), .val (.ref t), .val (.int i_231), .val (.int i_205), .val (.int (Int32.ofNat ((((((q - 1) - 1) - 1) - 1) - 1) - 1))), .val (.int (1 : Int32))] [(.int (100 : Int32)), (.int i_231)])) (fun TT HH tt kk => XS.bipush HH hx rfl (hb hby d_jdk_33_m_12_29) kk) ?_
            refine k_pure (g' := (mkF m 32 #[.val (.int i_231), .val (.int (Int32.ofNat q)), .val (.ref t), .val (.int i_231), .val (.int i_205), .val (.int (Int32.ofNat ((((((q - 1) - 1) - 1) - 1) - 1) - 1))), .val (.int (1 : Int32))] [(.int (i_231 / (100 : Int32)))])) (fun TT HH tt kk => XS.idiv HH hx rfl (hb hby d_jdk_33_m_12_31) rfl (by decide) kk) ?_
            refine k_pure (g' := (mkF m 33 #[.val (.int i_231), .val (.int (Int32.ofNat q)), .val (.ref t), .val (.int (i_231 / (100 : Int32))), .val (.int i_205), .val (.int (Int32.ofNat ((((((q - 1) - 1) - 1) - 1) - 1) - 1))), .val (.int (1 : Int32))] [])) (fun TT HH tt kk => XS.istoreN HH hx rfl (hb hby d_jdk_33_m_12_32) rfl (l' := #[.val (.int i_231), .val (.int (Int32.ofNat q)), .val (.ref t), .val (.int (i_231 / (100 : Int32))), .val (.int i_205), .val (.int (Int32.ofNat ((((((q - 1) - 1) - 1) - 1) - 1) - 1))), .val (.int (1 : Int32))]) rfl kk) ?_
            refine k_pure (g' := (mkF m 34 #[.val (.int i_231), .val (.int (Int32.ofNat q)), .val (.ref t), .val (.int (i_231 / (100 : Int32))), .val (.int i_205), .val (.int (Int32.ofNat ((((((q - 1) - 1) - 1) - 1) - 1) - 1))), .val (.int (1 : Int32))] [(.int (i_231 / (100 : Int32)))])) (fun TT HH tt kk => XS.iloadN HH hx rfl (hb hby d_jdk_33_m_12_33) rfl kk) ?_
            refine k_pure (g' := (mkF m 36 #[.val (.int i_231), .val (.int (Int32.ofNat q)), .val (.ref t), .val (.int (i_231 / (100 : Int32))), .val (.int i_205), .val (.int (Int32.ofNat ((((((q - 1) - 1) - 1) - 1) - 1) - 1))), .val (.int (1 : Int32))] [(.int (100 : Int32)), (.int (i_231 / (100 : Int32)))])) (fun TT HH tt kk => XS.bipush HH hx rfl (hb hby d_jdk_33_m_12_34) kk) ?_
            refine k_pure (g' := (mkF m 37 #[.val (.int i_231), .val (.int (Int32.ofNat q)), .val (.ref t), .val (.int (i_231 / (100 : Int32))), .val (.int i_205), .val (.int (Int32.ofNat ((((((q - 1) - 1) - 1) - 1) - 1) - 1))), .val (.int (1 : Int32))] [(.int ((i_231 / (100 : Int32)) * (100 : Int32)))])) (fun TT HH tt kk => XS.imul HH hx rfl (hb hby d_jdk_33_m_12_36) rfl kk) ?_
            refine k_pure (g' := (mkF m 38 #[.val (.int i_231), .val (.int (Int32.ofNat q)), .val (.ref t), .val (.int (i_231 / (100 : Int32))), .val (.int i_205), .val (.int (Int32.ofNat ((((((q - 1) - 1) - 1) - 1) - 1) - 1))), .val (.int (1 : Int32))] [(.int i_231), (.int ((i_231 / (100 : Int32)) * (100 : Int32)))])) (fun TT HH tt kk => XS.iloadN HH hx rfl (hb hby d_jdk_33_m_12_37) rfl kk) ?_
            refine k_pure (g' := (mkF m 39 #[.val (.int i_231), .val (.int (Int32.ofNat q)), .val (.ref t), .val (.int (i_231 / (100 : Int32))), .val (.int i_205), .val (.int (Int32.ofNat ((((((q - 1) - 1) - 1) - 1) - 1) - 1))), .val (.int (1 : Int32))] [(.int (((i_231 / (100 : Int32)) * (100 : Int32)) - i_231))])) (fun TT HH tt kk => XS.isub HH hx rfl (hb hby d_jdk_33_m_12_38) rfl kk) ?_
            refine k_pure (g' := (mkF m 41 #[.val (.int i_231), .val (.int (Int32.ofNat q)), .val (.ref t), .val (.int (i_231 / (100 : Int32))), .val (.int (((i_231 / (100 : Int32)) * (100 : Int32)) - i_231)), .val (.int (Int32.ofNat ((((((q - 1) - 1) - 1) - 1) - 1) - 1))), .val (.int (1 : Int32))] [])) (fun TT HH tt kk => XS.istore HH hx rfl (hb hby d_jdk_33_m_12_39) rfl (l' := #[.val (.int i_231), .val (.int (Int32.ofNat q)), .val (.ref t), .val (.int (i_231 / (100 : Int32))), .val (.int (((i_231 / (100 : Int32)) * (100 : Int32)) - i_231)), .val (.int (Int32.ofNat ((((((q - 1) - 1) - 1) - 1) - 1) - 1))), .val (.int (1 : Int32))]) rfl kk) ?_
            refine k_pure (g' := (mkF m 42 #[.val (.int i_231), .val (.int (Int32.ofNat q)), .val (.ref t), .val (.int (i_231 / (100 : Int32))), .val (.int (((i_231 / (100 : Int32)) * (100 : Int32)) - i_231)), .val (.int (Int32.ofNat ((((((q - 1) - 1) - 1) - 1) - 1) - 1))), .val (.int (1 : Int32))] [(.int (i_231 / (100 : Int32)))])) (fun TT HH tt kk => XS.iloadN HH hx rfl (hb hby d_jdk_33_m_12_41) rfl kk) ?_
            refine k_pure (g' := (mkF m 43 #[.val (.int (i_231 / (100 : Int32))), .val (.int (Int32.ofNat q)), .val (.ref t), .val (.int (i_231 / (100 : Int32))), .val (.int (((i_231 / (100 : Int32)) * (100 : Int32)) - i_231)), .val (.int (Int32.ofNat ((((((q - 1) - 1) - 1) - 1) - 1) - 1))), .val (.int (1 : Int32))] [])) (fun TT HH tt kk => XS.istoreN HH hx rfl (hb hby d_jdk_33_m_12_42) rfl (l' := #[.val (.int (i_231 / (100 : Int32))), .val (.int (Int32.ofNat q)), .val (.ref t), .val (.int (i_231 / (100 : Int32))), .val (.int (((i_231 / (100 : Int32)) * (100 : Int32)) - i_231)), .val (.int (Int32.ofNat ((((((q - 1) - 1) - 1) - 1) - 1) - 1))), .val (.int (1 : Int32))]) rfl kk) ?_
            have hr_282 : 0 ≤ ((((i_231 / (100 : Int32)) * (100 : Int32)) - i_231)).toInt ∧ ((((i_231 / (100 : Int32)) * (100 : Int32)) - i_231)).toInt ≤ 99 := (by have r0 : ((-100) : Int32).toInt = (-100) := (by decide); have r1 := rng32 i_231; have r2 := c_idiv i_231 (100 : Int32) 100 (by decide) (by decide); have r3 := rng32 (i_231 / (100 : Int32)); have r4 := (by have q := c_imul (i_231 / (100 : Int32)) (100 : Int32); rw [show (100 : Int32).toInt = 100 from by decide] at q; exact q); have r5 := rng32 ((i_231 / (100 : Int32)) * (100 : Int32)); have r6 := c_isub ((i_231 / (100 : Int32)) * (100 : Int32)) i_231; have r7 := rng32 (((i_231 / (100 : Int32)) * (100 : Int32)) - i_231); have r8 : ¬ (((-100) : Int32)).toInt < (i_231).toInt := fun q => c_233 (Int32.lt_iff_toInt_lt.mpr q); have r9 := hb_232; omega)
            generalize (((i_231 / (100 : Int32)) * (100 : Int32)) - i_231) = i_281 at hr_282 ⊢
            show Run p l e _ s m _ below meth c Z EL1 _ n0 bk h_222 0 0 (mkF m 43 #[.val (.int (i_231 / (100 : Int32))), .val (.int (Int32.ofNat q)), .val (.ref t), .val (.int (i_231 / (100 : Int32))), .val (.int i_281), .val (.int (Int32.ofNat ((((((q - 1) - 1) - 1) - 1) - 1) - 1))), .val (.int (1 : Int32))] []) _
            refine k_pure (g' := (mkF m 44 #[.val (.int (i_231 / (100 : Int32))), .val (.int (Int32.ofNat q)), .val (.ref t), .val (.int (i_231 / (100 : Int32))), .val (.int i_281), .val (.int (Int32.ofNat ((((((q - 1) - 1) - 1) - 1) - 1) - 1))), .val (.int (1 : Int32))] [(.ref t)])) (fun TT HH tt kk => XS.aloadN HH hx rfl (hb hby d_jdk_33_m_12_43) rfl rfl kk) ?_
            refine k_pure (g' := (mkF m 47 #[.val (.int (i_231 / (100 : Int32))), .val (.int (Int32.ofNat q)), .val (.ref t), .val (.int (i_231 / (100 : Int32))), .val (.int i_281), .val (.int ((Int32.ofNat ((((((q - 1) - 1) - 1) - 1) - 1) - 1)) + ((-1) : Int32))), .val (.int (1 : Int32))] [(.ref t)])) (fun TT HH tt kk => XS.iinc HH hx rfl (hb hby d_jdk_33_m_12_44) rfl (l' := #[.val (.int (i_231 / (100 : Int32))), .val (.int (Int32.ofNat q)), .val (.ref t), .val (.int (i_231 / (100 : Int32))), .val (.int i_281), .val (.int ((Int32.ofNat ((((((q - 1) - 1) - 1) - 1) - 1) - 1)) + ((-1) : Int32))), .val (.int (1 : Int32))]) rfl kk) ?_
            rw [dec_ofNat (by omega) (by omega)]
            show Run p l e _ s m _ below meth c Z EL1 _ n0 bk h_222 0 0 (mkF m 47 #[.val (.int (i_231 / (100 : Int32))), .val (.int (Int32.ofNat q)), .val (.ref t), .val (.int (i_231 / (100 : Int32))), .val (.int i_281), .val (.int (Int32.ofNat (((((((q - 1) - 1) - 1) - 1) - 1) - 1) - 1))), .val (.int (1 : Int32))] [(.ref t)]) _
            refine k_pure (g' := (mkF m 49 #[.val (.int (i_231 / (100 : Int32))), .val (.int (Int32.ofNat q)), .val (.ref t), .val (.int (i_231 / (100 : Int32))), .val (.int i_281), .val (.int (Int32.ofNat (((((((q - 1) - 1) - 1) - 1) - 1) - 1) - 1))), .val (.int (1 : Int32))] [(.int (Int32.ofNat (((((((q - 1) - 1) - 1) - 1) - 1) - 1) - 1))), (.ref t)])) (fun TT HH tt kk => XS.iload HH hx rfl (hb hby d_jdk_33_m_12_47) rfl kk) ?_
            refine k_getS hx (host := "") (Or.inl (hw _ (List.mem_of_getElem? (i := 128) rfl))) Via.refl (s_d1.ext O_223.2) rfl (hb hby d_jdk_33_m_12_49) ?_
            show Run p l e _ s m _ below meth c Z EL1 _ n0 bk h_222 0 0 (mkF m 52 #[.val (.int (i_231 / (100 : Int32))), .val (.int (Int32.ofNat q)), .val (.ref t), .val (.int (i_231 / (100 : Int32))), .val (.int i_281), .val (.int (Int32.ofNat (((((((q - 1) - 1) - 1) - 1) - 1) - 1) - 1))), .val (.int (1 : Int32))] [(.ref d1), (.int (Int32.ofNat (((((((q - 1) - 1) - 1) - 1) - 1) - 1) - 1))), (.ref t)]) _
            refine k_pure (g' := (mkF m 54 #[.val (.int (i_231 / (100 : Int32))), .val (.int (Int32.ofNat q)), .val (.ref t), .val (.int (i_231 / (100 : Int32))), .val (.int i_281), .val (.int (Int32.ofNat (((((((q - 1) - 1) - 1) - 1) - 1) - 1) - 1))), .val (.int (1 : Int32))] [(.int i_281), (.ref d1), (.int (Int32.ofNat (((((((q - 1) - 1) - 1) - 1) - 1) - 1) - 1))), (.ref t)])) (fun TT HH tt kk => XS.iload HH hx rfl (hb hby d_jdk_33_m_12_52) rfl kk) ?_
            have F_283 : Arv Z h_222 d1 kd1 .byte (100 : Int32) w1 (.int 0) := a_d1.ext O_223.2
            obtain ⟨x_284, hv_285⟩ := aget_int F_283 (i := (i_281).toNatClampNeg) (dig_lt hr_282)
            refine k_aget hx (v := (.int x_284)) F_283 (dig_in hr_282) hv_285 (Or.inr (Or.inr (Or.inr (Or.inl ⟨rfl, rfl⟩)))) rfl rfl (hb hby d_jdk_33_m_12_54) ?_
            show Run p l e _ s m _ below meth c Z EL1 _ n0 bk h_222 0 0 (mkF m 55 #[.val (.int (i_231 / (100 : Int32))), .val (.int (Int32.ofNat q)), .val (.ref t), .val (.int (i_231 / (100 : Int32))), .val (.int i_281), .val (.int (Int32.ofNat (((((((q - 1) - 1) - 1) - 1) - 1) - 1) - 1))), .val (.int (1 : Int32))] [(.int x_284), (.int (Int32.ofNat (((((((q - 1) - 1) - 1) - 1) - 1) - 1) - 1))), (.ref t)]) _
            refine k_stB hx V_230 (idx_ok (i := (((((((q - 1) - 1) - 1) - 1) - 1) - 1) - 1)) (n := N) (by omega) (by omega)) ((((((((q - 1) - 1) - 1) - 1) - 1) - 1) - 1)) (clampN (by omega)) (Nat.lt_of_lt_of_le (show (((((((q - 1) - 1) - 1) - 1) - 1) - 1) - 1) < N by omega) hl_229) (by omega) nbt rfl rfl (hb hby d_jdk_33_m_12_55) ?_
            intro h_286 O_287 W_288 A_289
            have z_290 := W_288.size
            have V_291 : Arv Z h_286 t kb .byte (Int32.ofNat N) (vs_228.set ((((((((q - 1) - 1) - 1) - 1) - 1) - 1) - 1)) (.int (nar .byte x_284))) (.int 0) := A_289
            show Run p l e _ s m _ below meth c Z EL1 _ n0 bk h_286 0 0 (mkF m 56 #[.val (.int (i_231 / (100 : Int32))), .val (.int (Int32.ofNat q)), .val (.ref t), .val (.int (i_231 / (100 : Int32))), .val (.int i_281), .val (.int (Int32.ofNat (((((((q - 1) - 1) - 1) - 1) - 1) - 1) - 1))), .val (.int (1 : Int32))] []) _
            obtain ⟨vs_292, hl_293, V_294⟩ : ∃ ws : List Value, N ≤ ws.length ∧ Arv Z h_286 t kb .byte (Int32.ofNat N) ws (.int 0) := ⟨_, (by rw [List.length_set]; exact hl_229), V_291⟩
            refine k_pure (g' := (mkF m 57 #[.val (.int (i_231 / (100 : Int32))), .val (.int (Int32.ofNat q)), .val (.ref t), .val (.int (i_231 / (100 : Int32))), .val (.int i_281), .val (.int (Int32.ofNat (((((((q - 1) - 1) - 1) - 1) - 1) - 1) - 1))), .val (.int (1 : Int32))] [(.ref t)])) (fun TT HH tt kk => XS.aloadN HH hx rfl (hb hby d_jdk_33_m_12_56) rfl rfl kk) ?_
            refine k_pure (g' := (mkF m 60 #[.val (.int (i_231 / (100 : Int32))), .val (.int (Int32.ofNat q)), .val (.ref t), .val (.int (i_231 / (100 : Int32))), .val (.int i_281), .val (.int ((Int32.ofNat (((((((q - 1) - 1) - 1) - 1) - 1) - 1) - 1)) + ((-1) : Int32))), .val (.int (1 : Int32))] [(.ref t)])) (fun TT HH tt kk => XS.iinc HH hx rfl (hb hby d_jdk_33_m_12_57) rfl (l' := #[.val (.int (i_231 / (100 : Int32))), .val (.int (Int32.ofNat q)), .val (.ref t), .val (.int (i_231 / (100 : Int32))), .val (.int i_281), .val (.int ((Int32.ofNat (((((((q - 1) - 1) - 1) - 1) - 1) - 1) - 1)) + ((-1) : Int32))), .val (.int (1 : Int32))]) rfl kk) ?_
            rw [dec_ofNat (by omega) (by omega)]
            show Run p l e _ s m _ below meth c Z EL1 _ n0 bk h_286 0 0 (mkF m 60 #[.val (.int (i_231 / (100 : Int32))), .val (.int (Int32.ofNat q)), .val (.ref t), .val (.int (i_231 / (100 : Int32))), .val (.int i_281), .val (.int (Int32.ofNat ((((((((q - 1) - 1) - 1) - 1) - 1) - 1) - 1) - 1))), .val (.int (1 : Int32))] [(.ref t)]) _
            refine k_pure (g' := (mkF m 62 #[.val (.int (i_231 / (100 : Int32))), .val (.int (Int32.ofNat q)), .val (.ref t), .val (.int (i_231 / (100 : Int32))), .val (.int i_281), .val (.int (Int32.ofNat ((((((((q - 1) - 1) - 1) - 1) - 1) - 1) - 1) - 1))), .val (.int (1 : Int32))] [(.int (Int32.ofNat ((((((((q - 1) - 1) - 1) - 1) - 1) - 1) - 1) - 1))), (.ref t)])) (fun TT HH tt kk => XS.iload HH hx rfl (hb hby d_jdk_33_m_12_60) rfl kk) ?_
            refine k_getS hx (host := "") (Or.inl (hw _ (List.mem_of_getElem? (i := 199) rfl))) Via.refl (s_d2.ext O_287.2) rfl (hb hby d_jdk_33_m_12_62) ?_
            show Run p l e _ s m _ below meth c Z EL1 _ n0 bk h_286 0 0 (mkF m 65 #[.val (.int (i_231 / (100 : Int32))), .val (.int (Int32.ofNat q)), .val (.ref t), .val (.int (i_231 / (100 : Int32))), .val (.int i_281), .val (.int (Int32.ofNat ((((((((q - 1) - 1) - 1) - 1) - 1) - 1) - 1) - 1))), .val (.int (1 : Int32))] [(.ref d2), (.int (Int32.ofNat ((((((((q - 1) - 1) - 1) - 1) - 1) - 1) - 1) - 1))), (.ref t)]) _
            refine k_pure (g' := (mkF m 67 #[.val (.int (i_231 / (100 : Int32))), .val (.int (Int32.ofNat q)), .val (.ref t), .val (.int (i_231 / (100 : Int32))), .val (.int i_281), .val (.int (Int32.ofNat ((((((((q - 1) - 1) - 1) - 1) - 1) - 1) - 1) - 1))), .val (.int (1 : Int32))] [(.int i_281), (.ref d2), (.int (Int32.ofNat ((((((((q - 1) - 1) - 1) - 1) - 1) - 1) - 1) - 1))), (.ref t)])) (fun TT HH tt kk => XS.iload HH hx rfl (hb hby d_jdk_33_m_12_65) rfl kk) ?_
            have F_295 : Arv Z h_286 d2 kd2 .byte (100 : Int32) w2 (.int 0) := a_d2.ext O_287.2
            obtain ⟨x_296, hv_297⟩ := aget_int F_295 (i := (i_281).toNatClampNeg) (dig_lt hr_282)
            refine k_aget hx (v := (.int x_296)) F_295 (dig_in hr_282) hv_297 (Or.inr (Or.inr (Or.inr (Or.inl ⟨rfl, rfl⟩)))) rfl rfl (hb hby d_jdk_33_m_12_67) ?_
            show Run p l e _ s m _ below meth c Z EL1 _ n0 bk h_286 0 0 (mkF m 68 #[.val (.int (i_231 / (100 : Int32))), .val (.int (Int32.ofNat q)), .val (.ref t), .val (.int (i_231 / (100 : Int32))), .val (.int i_281), .val (.int (Int32.ofNat ((((((((q - 1) - 1) - 1) - 1) - 1) - 1) - 1) - 1))), .val (.int (1 : Int32))] [(.int x_296), (.int (Int32.ofNat ((((((((q - 1) - 1) - 1) - 1) - 1) - 1) - 1) - 1))), (.ref t)]) _
            refine k_stB hx V_294 (idx_ok (i := ((((((((q - 1) - 1) - 1) - 1) - 1) - 1) - 1) - 1)) (n := N) (by omega) (by omega)) (((((((((q - 1) - 1) - 1) - 1) - 1) - 1) - 1) - 1)) (clampN (by omega)) (Nat.lt_of_lt_of_le (show ((((((((q - 1) - 1) - 1) - 1) - 1) - 1) - 1) - 1) < N by omega) hl_293) (by omega) nbt rfl rfl (hb hby d_jdk_33_m_12_68) ?_
            intro h_298 O_299 W_300 A_301
            have z_302 := W_300.size
            have V_303 : Arv Z h_298 t kb .byte (Int32.ofNat N) (vs_292.set (((((((((q - 1) - 1) - 1) - 1) - 1) - 1) - 1) - 1)) (.int (nar .byte x_296))) (.int 0) := A_301
            show Run p l e _ s m _ below meth c Z EL1 _ n0 bk h_298 0 0 (mkF m 69 #[.val (.int (i_231 / (100 : Int32))), .val (.int (Int32.ofNat q)), .val (.ref t), .val (.int (i_231 / (100 : Int32))), .val (.int i_281), .val (.int (Int32.ofNat ((((((((q - 1) - 1) - 1) - 1) - 1) - 1) - 1) - 1))), .val (.int (1 : Int32))] []) _
            obtain ⟨vs_304, hl_305, V_306⟩ : ∃ ws : List Value, N ≤ ws.length ∧ Arv Z h_298 t kb .byte (Int32.ofNat N) ws (.int 0) := ⟨_, (by rw [List.length_set]; exact hl_293), V_303⟩
            refine k_pure (g' := (mkF m 22 #[.val (.int (i_231 / (100 : Int32))), .val (.int (Int32.ofNat q)), .val (.ref t), .val (.int (i_231 / (100 : Int32))), .val (.int i_281), .val (.int (Int32.ofNat ((((((((q - 1) - 1) - 1) - 1) - 1) - 1) - 1) - 1))), .val (.int (1 : Int32))] [])) (fun TT HH tt kk => XS.goto HH hx rfl (pc0 := 69) (pc' := 22) rfl (hb hby d_jdk_33_m_12_69) (by decide) (by decide) kk) ?_
            have hb_308 : -21 ≤ ((i_231 / (100 : Int32))).toInt ∧ ((i_231 / (100 : Int32))).toInt ≤ 0 := (by have r0 : ((-100) : Int32).toInt = (-100) := (by decide); have r1 := rng32 i_231; have r2 := c_idiv i_231 (100 : Int32) 100 (by decide) (by decide); have r3 := rng32 (i_231 / (100 : Int32)); have r4 : ¬ (((-100) : Int32)).toInt < (i_231).toInt := fun q => c_233 (Int32.lt_iff_toInt_lt.mpr q); have r5 := hb_232; omega)
            generalize (i_231 / (100 : Int32)) = i_307 at hb_308 ⊢
            show Run p l e _ s m _ below meth c Z EL1 _ n0 bk h_298 0 0 (mkF m 22 #[.val (.int i_307), .val (.int (Int32.ofNat q)), .val (.ref t), .val (.int i_307), .val (.int i_281), .val (.int (Int32.ofNat ((((((((q - 1) - 1) - 1) - 1) - 1) - 1) - 1) - 1))), .val (.int (1 : Int32))] []) _
            refine k_pure (g' := (mkF m 23 #[.val (.int i_307), .val (.int (Int32.ofNat q)), .val (.ref t), .val (.int i_307), .val (.int i_281), .val (.int (Int32.ofNat ((((((((q - 1) - 1) - 1) - 1) - 1) - 1) - 1) - 1))), .val (.int (1 : Int32))] [(.int i_307)])) (fun TT HH tt kk => XS.iloadN HH hx rfl (hb hby d_jdk_33_m_12_22) rfl kk) ?_
            refine k_pure (g' := (mkF m 25 #[.val (.int i_307), .val (.int (Int32.ofNat q)), .val (.ref t), .val (.int i_307), .val (.int i_281), .val (.int (Int32.ofNat ((((((((q - 1) - 1) - 1) - 1) - 1) - 1) - 1) - 1))), .val (.int (1 : Int32))] [(.int ((-100) : Int32)), (.int i_307)])) (fun TT HH tt kk => XS.bipush HH hx rfl (hb hby d_jdk_33_m_12_23) kk) ?_
            refine k_pure (g' := (mkF m 72 #[.val (.int i_307), .val (.int (Int32.ofNat q)), .val (.ref t), .val (.int i_307), .val (.int i_281), .val (.int (Int32.ofNat ((((((((q - 1) - 1) - 1) - 1) - 1) - 1) - 1) - 1))), .val (.int (1 : Int32))] [])) (fun TT HH tt kk => XS.icmpYes HH hx rfl (pc0 := 25) (pc' := 72) rfl (hb hby d_jdk_33_m_12_25) rfl (tlt (by have r0 : ((-100) : Int32).toInt = (-100) := (by decide); have r1 := rng32 i_307; have r2 := hb_308; rw [Int32.lt_iff_toInt_lt]; omega)).2.2.1 (by decide) (by decide) kk) ?_
            refine k_pure (g' := (mkF m 73 #[.val (.int i_307), .val (.int (Int32.ofNat q)), .val (.ref t), .val (.int i_307), .val (.int i_281), .val (.int (Int32.ofNat ((((((((q - 1) - 1) - 1) - 1) - 1) - 1) - 1) - 1))), .val (.int (1 : Int32))] [(.ref t)])) (fun TT HH tt kk => XS.aloadN HH hx rfl (hb hby d_jdk_33_m_12_72) rfl rfl kk) ?_
            refine k_pure (g' := (mkF m 76 #[.val (.int i_307), .val (.int (Int32.ofNat q)), .val (.ref t), .val (.int i_307), .val (.int i_281), .val (.int ((Int32.ofNat ((((((((q - 1) - 1) - 1) - 1) - 1) - 1) - 1) - 1)) + ((-1) : Int32))), .val (.int (1 : Int32))] [(.ref t)])) (fun TT HH tt kk => XS.iinc HH hx rfl (hb hby d_jdk_33_m_12_73) rfl (l' := #[.val (.int i_307), .val (.int (Int32.ofNat q)), .val (.ref t), .val (.int i_307), .val (.int i_281), .val (.int ((Int32.ofNat ((((((((q - 1) - 1) - 1) - 1) - 1) - 1) - 1) - 1)) + ((-1) : Int32))), .val (.int (1 : Int32))]) rfl kk) ?_
            rw [dec_ofNat (by omega) (by omega)]
            show Run p l e _ s m _ below meth c Z EL1 _ n0 bk h_298 0 0 (mkF m 76 #[.val (.int i_307), .val (.int (Int32.ofNat q)), .val (.ref t), .val (.int i_307), .val (.int i_281), .val (.int (Int32.ofNat (((((((((q - 1) - 1) - 1) - 1) - 1) - 1) - 1) - 1) - 1))), .val (.int (1 : Int32))] [(.ref t)]) _
            refine k_pure (g' := (mkF m 78 #[.val (.int i_307), .val (.int (Int32.ofNat q)), .val (.ref t), .val (.int i_307), .val (.int i_281), .val (.int (Int32.ofNat (((((((((q - 1) - 1) - 1) - 1) - 1) - 1) - 1) - 1) - 1))), .val (.int (1 : Int32))] [(.int (Int32.ofNat (((((((((q - 1) - 1) - 1) - 1) - 1) - 1) - 1) - 1) - 1))), (.ref t)])) (fun TT HH tt kk => XS.iload HH hx rfl (hb hby d_jdk_33_m_12_76) rfl kk) ?_
            refine k_getS hx (host := "") (Or.inl (hw _ (List.mem_of_getElem? (i := 128) rfl))) Via.refl (s_d1.ext O_299.2) rfl (hb hby d_jdk_33_m_12_78) ?_
            show Run p l e _ s m _ below meth c Z EL1 _ n0 bk h_298 0 0 (mkF m 81 #[.val (.int i_307), .val (.int (Int32.ofNat q)), .val (.ref t), .val (.int i_307), .val (.int i_281), .val (.int (Int32.ofNat (((((((((q - 1) - 1) - 1) - 1) - 1) - 1) - 1) - 1) - 1))), .val (.int (1 : Int32))] [(.ref d1), (.int (Int32.ofNat (((((((((q - 1) - 1) - 1) - 1) - 1) - 1) - 1) - 1) - 1))), (.ref t)]) _
            refine k_pure (g' := (mkF m 82 #[.val (.int i_307), .val (.int (Int32.ofNat q)), .val (.ref t), .val (.int i_307), .val (.int i_281), .val (.int (Int32.ofNat (((((((((q - 1) - 1) - 1) - 1) - 1) - 1) - 1) - 1) - 1))), .val (.int (1 : Int32))] [(.int i_307), (.ref d1), (.int (Int32.ofNat (((((((((q - 1) - 1) - 1) - 1) - 1) - 1) - 1) - 1) - 1))), (.ref t)])) (fun TT HH tt kk => XS.iloadN HH hx rfl (hb hby d_jdk_33_m_12_81) rfl kk) ?_
            refine k_pure (g' := (mkF m 83 #[.val (.int i_307), .val (.int (Int32.ofNat q)), .val (.ref t), .val (.int i_307), .val (.int i_281), .val (.int (Int32.ofNat (((((((((q - 1) - 1) - 1) - 1) - 1) - 1) - 1) - 1) - 1))), .val (.int (1 : Int32))] [(.int (-i_307)), (.ref d1), (.int (Int32.ofNat (((((((((q - 1) - 1) - 1) - 1) - 1) - 1) - 1) - 1) - 1))), (.ref t)])) (fun TT HH tt kk => XS.ineg HH hx rfl (hb hby d_jdk_33_m_12_82) rfl kk) ?_
            have hr_310 : 0 ≤ ((-i_307)).toInt ∧ ((-i_307)).toInt ≤ 99 := (by have r0 := rng32 i_307; have r1 := c_ineg i_307; have r2 := rng32 (-i_307); have r3 := hb_308; omega)
            generalize (-i_307) = i_309 at hr_310 ⊢
            show Run p l e _ s m _ below meth c Z EL1 _ n0 bk h_298 0 0 (mkF m 83 #[.val (.int i_307), .val (.int (Int32.ofNat q)), .val (.ref t), .val (.int i_307), .val (.int i_281), .val (.int (Int32.ofNat (((((((((q - 1) - 1) - 1) - 1) - 1) - 1) - 1) - 1) - 1))), .val (.int (1 : Int32))] [(.int i_309), (.ref d1), (.int (Int32.ofNat (((((((((q - 1) - 1) - 1) - 1) - 1) - 1) - 1) - 1) - 1))), (.ref t)]) _
            have F_311 : Arv Z h_298 d1 kd1 .byte (100 : Int32) w1 (.int 0) := a_d1.ext O_299.2
            obtain ⟨x_312, hv_313⟩ := aget_int F_311 (i := (i_309).toNatClampNeg) (dig_lt hr_310)
            refine k_aget hx (v := (.int x_312)) F_311 (dig_in hr_310) hv_313 (Or.inr (Or.inr (Or.inr (Or.inl ⟨rfl, rfl⟩)))) rfl rfl (hb hby d_jdk_33_m_12_83) ?_
            show Run p l e _ s m _ below meth c Z EL1 _ n0 bk h_298 0 0 (mkF m 84 #[.val (.int i_307), .val (.int (Int32.ofNat q)), .val (.ref t), .val (.int i_307), .val (.int i_281), .val (.int (Int32.ofNat (((((((((q - 1) - 1) - 1) - 1) - 1) - 1) - 1) - 1) - 1))), .val (.int (1 : Int32))] [(.int x_312), (.int (Int32.ofNat (((((((((q - 1) - 1) - 1) - 1) - 1) - 1) - 1) - 1) - 1))), (.ref t)]) _
            refine k_stB hx V_306 (idx_ok (i := (((((((((q - 1) - 1) - 1) - 1) - 1) - 1) - 1) - 1) - 1)) (n := N) (by omega) (by omega)) ((((((((((q - 1) - 1) - 1) - 1) - 1) - 1) - 1) - 1) - 1)) (clampN (by omega)) (Nat.lt_of_lt_of_le (show (((((((((q - 1) - 1) - 1) - 1) - 1) - 1) - 1) - 1) - 1) < N by omega) hl_305) (by omega) nbt rfl rfl (hb hby d_jdk_33_m_12_84) ?_
            intro h_314 O_315 W_316 A_317
            have z_318 := W_316.size
            have V_319 : Arv Z h_314 t kb .byte (Int32.ofNat N) (vs_304.set ((((((((((q - 1) - 1) - 1) - 1) - 1) - 1) - 1) - 1) - 1)) (.int (nar .byte x_312))) (.int 0) := A_317
            show Run p l e _ s m _ below meth c Z EL1 _ n0 bk h_314 0 0 (mkF m 85 #[.val (.int i_307), .val (.int (Int32.ofNat q)), .val (.ref t), .val (.int i_307), .val (.int i_281), .val (.int (Int32.ofNat (((((((((q - 1) - 1) - 1) - 1) - 1) - 1) - 1) - 1) - 1))), .val (.int (1 : Int32))] []) _
            obtain ⟨vs_320, hl_321, V_322⟩ : ∃ ws : List Value, N ≤ ws.length ∧ Arv Z h_314 t kb .byte (Int32.ofNat N) ws (.int 0) := ⟨_, (by rw [List.length_set]; exact hl_305), V_319⟩
            refine k_pure (g' := (mkF m 86 #[.val (.int i_307), .val (.int (Int32.ofNat q)), .val (.ref t), .val (.int i_307), .val (.int i_281), .val (.int (Int32.ofNat (((((((((q - 1) - 1) - 1) - 1) - 1) - 1) - 1) - 1) - 1))), .val (.int (1 : Int32))] [(.int i_307)])) (fun TT HH tt kk => XS.iloadN HH hx rfl (hb hby d_jdk_33_m_12_85) rfl kk) ?_
            refine k_pure (g' := (mkF m 88 #[.val (.int i_307), .val (.int (Int32.ofNat q)), .val (.ref t), .val (.int i_307), .val (.int i_281), .val (.int (Int32.ofNat (((((((((q - 1) - 1) - 1) - 1) - 1) - 1) - 1) - 1) - 1))), .val (.int (1 : Int32))] [(.int ((-9) : Int32)), (.int i_307)])) (fun TT HH tt kk => XS.bipush HH hx rfl (hb hby d_jdk_33_m_12_86) kk) ?_
            by_cases c_323 : i_307 < ((-9) : Int32)
            · refine k_pure (g' := (mkF m 91 #[.val (.int i_307), .val (.int (Int32.ofNat q)), .val (.ref t), .val (.int i_307), .val (.int i_281), .val (.int (Int32.ofNat (((((((((q - 1) - 1) - 1) - 1) - 1) - 1) - 1) - 1) - 1))), .val (.int (1 : Int32))] [])) (fun TT HH tt kk => XS.icmpNo HH hx rfl (hb hby d_jdk_33_m_12_88) rfl (tlt c_323).2.1 kk) ?_
              refine k_pure (g' := (mkF m 92 #[.val (.int i_307), .val (.int (Int32.ofNat q)), .val (.ref t), .val (.int i_307), .val (.int i_281), .val (.int (Int32.ofNat (((((((((q - 1) - 1) - 1) - 1) - 1) - 1) - 1) - 1) - 1))), .val (.int (1 : Int32))] [(.ref t)])) (fun TT HH tt kk => XS.aloadN HH hx rfl (hb hby d_jdk_33_m_12_91) rfl rfl kk) ?_
              refine k_pure (g' := (mkF m 95 #[.val (.int i_307), .val (.int (Int32.ofNat q)), .val (.ref t), .val (.int i_307), .val (.int i_281), .val (.int ((Int32.ofNat (((((((((q - 1) - 1) - 1) - 1) - 1) - 1) - 1) - 1) - 1)) + ((-1) : Int32))), .val (.int (1 : Int32))] [(.ref t)])) (fun TT HH tt kk => XS.iinc HH hx rfl (hb hby d_jdk_33_m_12_92) rfl (l' := #[.val (.int i_307), .val (.int (Int32.ofNat q)), .val (.ref t), .val (.int i_307), .val (.int i_281), .val (.int ((Int32.ofNat (((((((((q - 1) - 1) - 1) - 1) - 1) - 1) - 1) - 1) - 1)) + ((-1) : Int32))), .val (.int (1 : Int32))]) rfl kk) ?_
              rw [dec_ofNat (by omega) (by omega)]
              show Run p l e _ s m _ below meth c Z EL1 _ n0 bk h_314 0 0 (mkF m 95 #[.val (.int i_307), .val (.int (Int32.ofNat q)), .val (.ref t), .val (.int i_307), .val (.int i_281), .val (.int (Int32.ofNat ((((((((((q - 1) - 1) - 1) - 1) - 1) - 1) - 1) - 1) - 1) - 1))), .val (.int (1 : Int32))] [(.ref t)]) _
              refine k_pure (g' := (mkF m 97 #[.val (.int i_307), .val (.int (Int32.ofNat q)), .val (.ref t), .val (.int i_307), .val (.int i_281), .val (.int (Int32.ofNat ((((((((((q - 1) - 1) - 1) - 1) - 1) - 1) - 1) - 1) - 1) - 1))), .val (.int (1 : Int32))] [(.int (Int32.ofNat ((((((((((q - 1) - 1) - 1) - 1) - 1) - 1) - 1) - 1) - 1) - 1))), (.ref t)])) (fun TT HH tt kk => XS.iload HH hx rfl (hb hby d_jdk_33_m_12_95) rfl kk) ?_
              refine k_getS hx (host := "") (Or.inl (hw _ (List.mem_of_getElem? (i := 199) rfl))) Via.refl (s_d2.ext O_315.2) rfl (hb hby d_jdk_33_m_12_97) ?_
              show Run p l e _ s m _ below meth c Z EL1 _ n0 bk h_314 0 0 (mkF m 100 #[.val (.int i_307), .val (.int (Int32.ofNat q)), .val (.ref t), .val (.int i_307), .val (.int i_281), .val (.int (Int32.ofNat ((((((((((q - 1) - 1) - 1) - 1) - 1) - 1) - 1) - 1) - 1) - 1))), .val (.int (1 : Int32))] [(.ref d2), (.int (Int32.ofNat ((((((((((q - 1) - 1) - 1) - 1) - 1) - 1) - 1) - 1) - 1) - 1))), (.ref t)]) _
              refine k_pure (g' := (mkF m 101 #[.val (.int i_307), .val (.int (Int32.ofNat q)), .val (.ref t), .val (.int i_307), .val (.int i_281), .val (.int (Int32.ofNat ((((((((((q - 1) - 1) - 1) - 1) - 1) - 1) - 1) - 1) - 1) - 1))), .val (.int (1 : Int32))] [(.int i_307), (.ref d2), (.int (Int32.ofNat ((((((((((q - 1) - 1) - 1) - 1) - 1) - 1) - 1) - 1) - 1) - 1))), (.ref t)])) (fun TT HH tt kk => XS.iloadN HH hx rfl (hb hby d_jdk_33_m_12_100) rfl kk) ?_
              refine k_pure (g' := (mkF m 102 #[.val (.int i_307), .val (.int (Int32.ofNat q)), .val (.ref t), .val (.int i_307), .val (.int i_281), .val (.int (Int32.ofNat ((((((((((q - 1) - 1) - 1) - 1) - 1) - 1) - 1) - 1) - 1) - 1))), .val (.int (1 : Int32))] [(.int (-i_307)), (.ref d2), (.int (Int32.ofNat ((((((((((q - 1) - 1) - 1) - 1) - 1) - 1) - 1) - 1) - 1) - 1))), (.ref t)])) (fun TT HH tt kk => XS.ineg HH hx rfl (hb hby d_jdk_33_m_12_101) rfl kk) ?_
              have hr_325 : 0 ≤ ((-i_307)).toInt ∧ ((-i_307)).toInt ≤ 99 := (by have r0 := rng32 i_307; have r1 : ((-9) : Int32).toInt = (-9) := (by decide); have r2 := c_ineg i_307; have r3 := rng32 (-i_307); have r4 := (Int32.lt_iff_toInt_lt.mp c_323); have r5 := hb_308; omega)
              generalize (-i_307) = i_324 at hr_325 ⊢
              show Run p l e _ s m _ below meth c Z EL1 _ n0 bk h_314 0 0 (mkF m 102 #[.val (.int i_307), .val (.int (Int32.ofNat q)), .val (.ref t), .val (.int i_307), .val (.int i_281), .val (.int (Int32.ofNat ((((((((((q - 1) - 1) - 1) - 1) - 1) - 1) - 1) - 1) - 1) - 1))), .val (.int (1 : Int32))] [(.int i_324), (.ref d2), (.int (Int32.ofNat ((((((((((q - 1) - 1) - 1) - 1) - 1) - 1) - 1) - 1) - 1) - 1))), (.ref t)]) _
              have F_326 : Arv Z h_314 d2 kd2 .byte (100 : Int32) w2 (.int 0) := a_d2.ext O_315.2
              obtain ⟨x_327, hv_328⟩ := aget_int F_326 (i := (i_324).toNatClampNeg) (dig_lt hr_325)
              refine k_aget hx (v := (.int x_327)) F_326 (dig_in hr_325) hv_328 (Or.inr (Or.inr (Or.inr (Or.inl ⟨rfl, rfl⟩)))) rfl rfl (hb hby d_jdk_33_m_12_102) ?_
              show Run p l e _ s m _ below meth c Z EL1 _ n0 bk h_314 0 0 (mkF m 103 #[.val (.int i_307), .val (.int (Int32.ofNat q)), .val (.ref t), .val (.int i_307), .val (.int i_281), .val (.int (Int32.ofNat ((((((((((q - 1) - 1) - 1) - 1) - 1) - 1) - 1) - 1) - 1) - 1))), .val (.int (1 : Int32))] [(.int x_327), (.int (Int32.ofNat ((((((((((q - 1) - 1) - 1) - 1) - 1) - 1) - 1) - 1) - 1) - 1))), (.ref t)]) _
              refine k_stB hx V_322 (idx_ok (i := ((((((((((q - 1) - 1) - 1) - 1) - 1) - 1) - 1) - 1) - 1) - 1)) (n := N) (by omega) (by omega)) (((((((((((q - 1) - 1) - 1) - 1) - 1) - 1) - 1) - 1) - 1) - 1)) (clampN (by omega)) (Nat.lt_of_lt_of_le (show ((((((((((q - 1) - 1) - 1) - 1) - 1) - 1) - 1) - 1) - 1) - 1) < N by omega) hl_321) (by omega) nbt rfl rfl (hb hby d_jdk_33_m_12_103) ?_
              intro h_329 O_330 W_331 A_332
              have z_333 := W_331.size
              have V_334 : Arv Z h_329 t kb .byte (Int32.ofNat N) (vs_320.set (((((((((((q - 1) - 1) - 1) - 1) - 1) - 1) - 1) - 1) - 1) - 1)) (.int (nar .byte x_327))) (.int 0) := A_332
              show Run p l e _ s m _ below meth c Z EL1 _ n0 bk h_329 0 0 (mkF m 104 #[.val (.int i_307), .val (.int (Int32.ofNat q)), .val (.ref t), .val (.int i_307), .val (.int i_281), .val (.int (Int32.ofNat ((((((((((q - 1) - 1) - 1) - 1) - 1) - 1) - 1) - 1) - 1) - 1))), .val (.int (1 : Int32))] []) _
              obtain ⟨vs_335, hl_336, V_337⟩ : ∃ ws : List Value, N ≤ ws.length ∧ Arv Z h_329 t kb .byte (Int32.ofNat N) ws (.int 0) := ⟨_, (by rw [List.length_set]; exact hl_321), V_334⟩
              refine k_pure (g' := (mkF m 106 #[.val (.int i_307), .val (.int (Int32.ofNat q)), .val (.ref t), .val (.int i_307), .val (.int i_281), .val (.int (Int32.ofNat ((((((((((q - 1) - 1) - 1) - 1) - 1) - 1) - 1) - 1) - 1) - 1))), .val (.int (1 : Int32))] [(.int (1 : Int32))])) (fun TT HH tt kk => XS.iload HH hx rfl (hb hby d_jdk_33_m_12_104) rfl kk) ?_
              refine k_pure (g' := (mkF m 109 #[.val (.int i_307), .val (.int (Int32.ofNat q)), .val (.ref t), .val (.int i_307), .val (.int i_281), .val (.int (Int32.ofNat ((((((((((q - 1) - 1) - 1) - 1) - 1) - 1) - 1) - 1) - 1) - 1))), .val (.int (1 : Int32))] [])) (fun TT HH tt kk => XS.ifNo HH hx rfl (hb hby d_jdk_33_m_12_106) rfl ((if0 _ _).trans (feq (by decide : ¬ ((1 : Int32) = (0 : Int32)))).1) kk) ?_
              refine k_pure (g' := (mkF m 110 #[.val (.int i_307), .val (.int (Int32.ofNat q)), .val (.ref t), .val (.int i_307), .val (.int i_281), .val (.int (Int32.ofNat ((((((((((q - 1) - 1) - 1) - 1) - 1) - 1) - 1) - 1) - 1) - 1))), .val (.int (1 : Int32))] [(.ref t)])) (fun TT HH tt kk => XS.aloadN HH hx rfl (hb hby d_jdk_33_m_12_109) rfl rfl kk) ?_
              refine k_pure (g' := (mkF m 113 #[.val (.int i_307), .val (.int (Int32.ofNat q)), .val (.ref t), .val (.int i_307), .val (.int i_281), .val (.int ((Int32.ofNat ((((((((((q - 1) - 1) - 1) - 1) - 1) - 1) - 1) - 1) - 1) - 1)) + ((-1) : Int32))), .val (.int (1 : Int32))] [(.ref t)])) (fun TT HH tt kk => XS.iinc HH hx rfl (hb hby d_jdk_33_m_12_110) rfl (l' := #[.val (.int i_307), .val (.int (Int32.ofNat q)), .val (.ref t), .val (.int i_307), .val (.int i_281), .val (.int ((Int32.ofNat ((((((((((q - 1) - 1) - 1) - 1) - 1) - 1) - 1) - 1) - 1) - 1)) + ((-1) : Int32))), .val (.int (1 : Int32))]) rfl kk) ?_
              rw [dec_ofNat (by omega) (by omega)]
              show Run p l e _ s m _ below meth c Z EL1 _ n0 bk h_329 0 0 (mkF m 113 #[.val (.int i_307), .val (.int (Int32.ofNat q)), .val (.ref t), .val (.int i_307), .val (.int i_281), .val (.int (Int32.ofNat (((((((((((q - 1) - 1) - 1) - 1) - 1) - 1) - 1) - 1) - 1) - 1) - 1))), .val (.int (1 : Int32))] [(.ref t)]) _
              refine k_pure (g' := (mkF m 115 #[.val (.int i_307), .val (.int (Int32.ofNat q)), .val (.ref t), .val (.int i_307), .val (.int i_281), .val (.int (Int32.ofNat (((((((((((q - 1) - 1) - 1) - 1) - 1) - 1) - 1) - 1) - 1) - 1) - 1))), .val (.int (1 : Int32))] [(.int (Int32.ofNat (((((((((((q - 1) - 1) - 1) - 1) - 1) - 1) - 1) - 1) - 1) - 1) - 1))), (.ref t)])) (fun TT HH tt kk => XS.iload HH hx rfl (hb hby d_jdk_33_m_12_113) rfl kk) ?_
              refine k_pure (g' := (mkF m 117 #[.val (.int i_307), .val (.int (Int32.ofNat q)), .val (.ref t), .val (.int i_307), .val (.int i_281), .val (.int (Int32.ofNat (((((((((((q - 1) - 1) - 1) - 1) - 1) - 1) - 1) - 1) - 1) - 1) - 1))), .val (.int (1 : Int32))] [(.int (45 : Int32)), (.int (Int32.ofNat (((((((((((q - 1) - 1) - 1) - 1) - 1) - 1) - 1) - 1) - 1) - 1) - 1))), (.ref t)])) (fun TT HH tt kk => XS.bipush HH hx rfl (hb hby d_jdk_33_m_12_115) kk) ?_
              refine k_stB hx V_337 (idx_ok (i := (((((((((((q - 1) - 1) - 1) - 1) - 1) - 1) - 1) - 1) - 1) - 1) - 1)) (n := N) (by omega) (by omega)) ((((((((((((q - 1) - 1) - 1) - 1) - 1) - 1) - 1) - 1) - 1) - 1) - 1)) (clampN (by omega)) (Nat.lt_of_lt_of_le (show (((((((((((q - 1) - 1) - 1) - 1) - 1) - 1) - 1) - 1) - 1) - 1) - 1) < N by omega) hl_336) (by omega) nbt rfl rfl (hb hby d_jdk_33_m_12_117) ?_
              intro h_338 O_339 W_340 A_341
              have z_342 := W_340.size
              have V_343 : Arv Z h_338 t kb .byte (Int32.ofNat N) (vs_335.set ((((((((((((q - 1) - 1) - 1) - 1) - 1) - 1) - 1) - 1) - 1) - 1) - 1)) (.int (45 : Int32))) (.int 0) := A_341
              show Run p l e _ s m _ below meth c Z EL1 _ n0 bk h_338 0 0 (mkF m 118 #[.val (.int i_307), .val (.int (Int32.ofNat q)), .val (.ref t), .val (.int i_307), .val (.int i_281), .val (.int (Int32.ofNat (((((((((((q - 1) - 1) - 1) - 1) - 1) - 1) - 1) - 1) - 1) - 1) - 1))), .val (.int (1 : Int32))] []) _
              obtain ⟨vs_344, hl_345, V_346⟩ : ∃ ws : List Value, N ≤ ws.length ∧ Arv Z h_338 t kb .byte (Int32.ofNat N) ws (.int 0) := ⟨_, (by rw [List.length_set]; exact hl_336), V_343⟩
              refine k_pure (g' := (mkF m 120 #[.val (.int i_307), .val (.int (Int32.ofNat q)), .val (.ref t), .val (.int i_307), .val (.int i_281), .val (.int (Int32.ofNat (((((((((((q - 1) - 1) - 1) - 1) - 1) - 1) - 1) - 1) - 1) - 1) - 1))), .val (.int (1 : Int32))] [(.int (Int32.ofNat (((((((((((q - 1) - 1) - 1) - 1) - 1) - 1) - 1) - 1) - 1) - 1) - 1)))])) (fun TT HH tt kk => XS.iload HH hx rfl (hb hby d_jdk_33_m_12_118) rfl kk) ?_
              exact k_retI hx hlk hret (hb hby d_jdk_33_m_12_120) (by decide) (by decide) ⟨_, _, rfl, rfl, ((((((((((((Keep.refl _ _).wr W_60 (Or.inl (by simp))).wr W_72 (Or.inl (by simp))).wr W_136 (Or.inl (by simp))).wr W_148 (Or.inl (by simp))).wr W_212 (Or.inl (by simp))).wr W_224 (Or.inl (by simp))).wr W_288 (Or.inl (by simp))).wr W_300 (Or.inl (by simp))).wr W_316 (Or.inl (by simp))).wr W_331 (Or.inl (by simp))).wr W_340 (Or.inl (by simp))), V_346⟩
            · refine k_pure (g' := (mkF m 104 #[.val (.int i_307), .val (.int (Int32.ofNat q)), .val (.ref t), .val (.int i_307), .val (.int i_281), .val (.int (Int32.ofNat (((((((((q - 1) - 1) - 1) - 1) - 1) - 1) - 1) - 1) - 1))), .val (.int (1 : Int32))] [])) (fun TT HH tt kk => XS.icmpYes HH hx rfl (pc0 := 88) (pc' := 104) rfl (hb hby d_jdk_33_m_12_88) rfl (flt c_323).2.1 (by decide) (by decide) kk) ?_
              refine k_pure (g' := (mkF m 106 #[.val (.int i_307), .val (.int (Int32.ofNat q)), .val (.ref t), .val (.int i_307), .val (.int i_281), .val (.int (Int32.ofNat (((((((((q - 1) - 1) - 1) - 1) - 1) - 1) - 1) - 1) - 1))), .val (.int (1 : Int32))] [(.int (1 : Int32))])) (fun TT HH tt kk => XS.iload HH hx rfl (hb hby d_jdk_33_m_12_104) rfl kk) ?_
              refine k_pure (g' := (mkF m 109 #[.val (.int i_307), .val (.int (Int32.ofNat q)), .val (.ref t), .val (.int i_307), .val (.int i_281), .val (.int (Int32.ofNat (((((((((q - 1) - 1) - 1) - 1) - 1) - 1) - 1) - 1) - 1))), .val (.int (1 : Int32))] [])) (fun TT HH tt kk => XS.ifNo HH hx rfl (hb hby d_jdk_33_m_12_106) rfl ((if0 _ _).trans (feq (by decide : ¬ ((1 : Int32) = (0 : Int32)))).1) kk) ?_
              refine k_pure (g' := (mkF m 110 #[.val (.int i_307), .val (.int (Int32.ofNat q)), .val (.ref t), .val (.int i_307), .val (.int i_281), .val (.int (Int32.ofNat (((((((((q - 1) - 1) - 1) - 1) - 1) - 1) - 1) - 1) - 1))), .val (.int (1 : Int32))] [(.ref t)])) (fun TT HH tt kk => XS.aloadN HH hx rfl (hb hby d_jdk_33_m_12_109) rfl rfl kk) ?_
              refine k_pure (g' := (mkF m 113 #[.val (.int i_307), .val (.int (Int32.ofNat q)), .val (.ref t), .val (.int i_307), .val (.int i_281), .val (.int ((Int32.ofNat (((((((((q - 1) - 1) - 1) - 1) - 1) - 1) - 1) - 1) - 1)) + ((-1) : Int32))), .val (.int (1 : Int32))] [(.ref t)])) (fun TT HH tt kk => XS.iinc HH hx rfl (hb hby d_jdk_33_m_12_110) rfl (l' := #[.val (.int i_307), .val (.int (Int32.ofNat q)), .val (.ref t), .val (.int i_307), .val (.int i_281), .val (.int ((Int32.ofNat (((((((((q - 1) - 1) - 1) - 1) - 1) - 1) - 1) - 1) - 1)) + ((-1) : Int32))), .val (.int (1 : Int32))]) rfl kk) ?_
              rw [dec_ofNat (by omega) (by omega)]
              show Run p l e _ s m _ below meth c Z EL1 _ n0 bk h_314 0 0 (mkF m 113 #[.val (.int i_307), .val (.int (Int32.ofNat q)), .val (.ref t), .val (.int i_307), .val (.int i_281), .val (.int (Int32.ofNat ((((((((((q - 1) - 1) - 1) - 1) - 1) - 1) - 1) - 1) - 1) - 1))), .val (.int (1 : Int32))] [(.ref t)]) _
              refine k_pure (g' := (mkF m 115 #[.val (.int i_307), .val (.int (Int32.ofNat q)), .val (.ref t), .val (.int i_307), .val (.int i_281), .val (.int (Int32.ofNat ((((((((((q - 1) - 1) - 1) - 1) - 1) - 1) - 1) - 1) - 1) - 1))), .val (.int (1 : Int32))] [(.int (Int32.ofNat ((((((((((q - 1) - 1) - 1) - 1) - 1) - 1) - 1) - 1) - 1) - 1))), (.ref t)])) (fun TT HH tt kk => XS.iload HH hx rfl (hb hby d_jdk_33_m_12_113) rfl kk) ?_
              refine k_pure (g' := (mkF m 117 #[.val (.int i_307), .val (.int (Int32.ofNat q)), .val (.ref t), .val (.int i_307), .val (.int i_281), .val (.int (Int32.ofNat ((((((((((q - 1) - 1) - 1) - 1) - 1) - 1) - 1) - 1) - 1) - 1))), .val (.int (1 : Int32))] [(.int (45 : Int32)), (.int (Int32.ofNat ((((((((((q - 1) - 1) - 1) - 1) - 1) - 1) - 1) - 1) - 1) - 1))), (.ref t)])) (fun TT HH tt kk => XS.bipush HH hx rfl (hb hby d_jdk_33_m_12_115) kk) ?_
              refine k_stB hx V_322 (idx_ok (i := ((((((((((q - 1) - 1) - 1) - 1) - 1) - 1) - 1) - 1) - 1) - 1)) (n := N) (by omega) (by omega)) (((((((((((q - 1) - 1) - 1) - 1) - 1) - 1) - 1) - 1) - 1) - 1)) (clampN (by omega)) (Nat.lt_of_lt_of_le (show ((((((((((q - 1) - 1) - 1) - 1) - 1) - 1) - 1) - 1) - 1) - 1) < N by omega) hl_321) (by omega) nbt rfl rfl (hb hby d_jdk_33_m_12_117) ?_
              intro h_347 O_348 W_349 A_350
              have z_351 := W_349.size
              have V_352 : Arv Z h_347 t kb .byte (Int32.ofNat N) (vs_320.set (((((((((((q - 1) - 1) - 1) - 1) - 1) - 1) - 1) - 1) - 1) - 1)) (.int (45 : Int32))) (.int 0) := A_350
              show Run p l e _ s m _ below meth c Z EL1 _ n0 bk h_347 0 0 (mkF m 118 #[.val (.int i_307), .val (.int (Int32.ofNat q)), .val (.ref t), .val (.int i_307), .val (.int i_281), .val (.int (Int32.ofNat ((((((((((q - 1) - 1) - 1) - 1) - 1) - 1) - 1) - 1) - 1) - 1))), .val (.int (1 : Int32))] []) _
              obtain ⟨vs_353, hl_354, V_355⟩ : ∃ ws : List Value, N ≤ ws.length ∧ Arv Z h_347 t kb .byte (Int32.ofNat N) ws (.int 0) := ⟨_, (by rw [List.length_set]; exact hl_321), V_352⟩
              refine k_pure (g' := (mkF m 120 #[.val (.int i_307), .val (.int (Int32.ofNat q)), .val (.ref t), .val (.int i_307), .val (.int i_281), .val (.int (Int32.ofNat ((((((((((q - 1) - 1) - 1) - 1) - 1) - 1) - 1) - 1) - 1) - 1))), .val (.int (1 : Int32))] [(.int (Int32.ofNat ((((((((((q - 1) - 1) - 1) - 1) - 1) - 1) - 1) - 1) - 1) - 1)))])) (fun TT HH tt kk => XS.iload HH hx rfl (hb hby d_jdk_33_m_12_118) rfl kk) ?_
              exact k_retI hx hlk hret (hb hby d_jdk_33_m_12_120) (by decide) (by decide) ⟨_, _, rfl, rfl, (((((((((((Keep.refl _ _).wr W_60 (Or.inl (by simp))).wr W_72 (Or.inl (by simp))).wr W_136 (Or.inl (by simp))).wr W_148 (Or.inl (by simp))).wr W_212 (Or.inl (by simp))).wr W_224 (Or.inl (by simp))).wr W_288 (Or.inl (by simp))).wr W_300 (Or.inl (by simp))).wr W_316 (Or.inl (by simp))).wr W_349 (Or.inl (by simp))), V_355⟩
  · refine k_pure (g' := (mkF m 11 #[.val (.int x), .val (.int (Int32.ofNat q)), .val (.ref t), .unset, .unset, .val (.int (Int32.ofNat q)), .unset] [])) (fun TT HH tt kk => XS.ifYes HH hx rfl (pc0 := 4) (pc' := 11) rfl (hb hby d_jdk_33_m_12_4) rfl ((if0 _ _).trans (flt c_2).2.1) (by decide) (by decide) kk) ?_
    refine k_pure (g' := (mkF m 12 #[.val (.int x), .val (.int (Int32.ofNat q)), .val (.ref t), .unset, .unset, .val (.int (Int32.ofNat q)), .unset] [(.int (0 : Int32))])) (fun TT HH tt kk => XS.iconst HH hx rfl (hb hby d_jdk_33_m_12_11) kk) ?_
    refine k_pure (g' := (mkF m 14 #[.val (.int x), .val (.int (Int32.ofNat q)), .val (.ref t), .unset, .unset, .val (.int (Int32.ofNat q)), .val (.int (0 : Int32))] [])) (fun TT HH tt kk => XS.istore HH hx rfl (hb hby d_jdk_33_m_12_12) rfl (l' := #[.val (.int x), .val (.int (Int32.ofNat q)), .val (.ref t), .unset, .unset, .val (.int (Int32.ofNat q)), .val (.int (0 : Int32))]) rfl kk) ?_
    refine k_pure (g' := (mkF m 16 #[.val (.int x), .val (.int (Int32.ofNat q)), .val (.ref t), .unset, .unset, .val (.int (Int32.ofNat q)), .val (.int (0 : Int32))] [(.int (0 : Int32))])) (fun TT HH tt kk => XS.iload HH hx rfl (hb hby d_jdk_33_m_12_14) rfl kk) ?_
    refine k_pure (g' := (mkF m 19 #[.val (.int x), .val (.int (Int32.ofNat q)), .val (.ref t), .unset, .unset, .val (.int (Int32.ofNat q)), .val (.int (0 : Int32))] [])) (fun TT HH tt kk => XS.ifNo HH hx rfl (hb hby d_jdk_33_m_12_16) rfl ((if0 _ _).trans (teq (by decide : ((0 : Int32) = (0 : Int32)))).2) kk) ?_
    refine k_pure (g' := (mkF m 20 #[.val (.int x), .val (.int (Int32.ofNat q)), .val (.ref t), .unset, .unset, .val (.int (Int32.ofNat q)), .val (.int (0 : Int32))] [(.int x)])) (fun TT HH tt kk => XS.iloadN HH hx rfl (hb hby d_jdk_33_m_12_19) rfl kk) ?_
    refine k_pure (g' := (mkF m 21 #[.val (.int x), .val (.int (Int32.ofNat q)), .val (.ref t), .unset, .unset, .val (.int (Int32.ofNat q)), .val (.int (0 : Int32))] [(.int (-x))])) (fun TT HH tt kk => XS.ineg HH hx rfl (hb hby d_jdk_33_m_12_20) rfl kk) ?_
    refine k_pure (g' := (mkF m 22 #[.val (.int (-x)), .val (.int (Int32.ofNat q)), .val (.ref t), .unset, .unset, .val (.int (Int32.ofNat q)), .val (.int (0 : Int32))] [])) (fun TT HH tt kk => XS.istoreN HH hx rfl (hb hby d_jdk_33_m_12_21) rfl (l' := #[.val (.int (-x)), .val (.int (Int32.ofNat q)), .val (.ref t), .unset, .unset, .val (.int (Int32.ofNat q)), .val (.int (0 : Int32))]) rfl kk) ?_
    have hb_357 : -2147483648 ≤ ((-x)).toInt ∧ ((-x)).toInt ≤ 0 := (by have r0 := rng32 x; have r1 : (0 : Int32).toInt = 0 := (by decide); have r2 := c_ineg x; have r3 := rng32 (-x); have r4 : ¬ (x).toInt < ((0 : Int32)).toInt := fun q => c_2 (Int32.lt_iff_toInt_lt.mpr q); omega)
    generalize (-x) = i_356 at hb_357 ⊢
    show Run p l e _ s m _ below meth c Z EL1 _ n0 bk h0 0 0 (mkF m 22 #[.val (.int i_356), .val (.int (Int32.ofNat q)), .val (.ref t), .unset, .unset, .val (.int (Int32.ofNat q)), .val (.int (0 : Int32))] []) _
    refine k_pure (g' := (mkF m 23 #[.val (.int i_356), .val (.int (Int32.ofNat q)), .val (.ref t), .unset, .unset, .val (.int (Int32.ofNat q)), .val (.int (0 : Int32))] [(.int i_356)])) (fun TT HH tt kk => XS.iloadN HH hx rfl (hb hby d_jdk_33_m_12_22) rfl kk) ?_
    refine k_pure (g' := (mkF m 25 #[.val (.int i_356), .val (.int (Int32.ofNat q)), .val (.ref t), .unset, .unset, .val (.int (Int32.ofNat q)), .val (.int (0 : Int32))] [(.int ((-100) : Int32)), (.int i_356)])) (fun TT HH tt kk => XS.bipush HH hx rfl (hb hby d_jdk_33_m_12_23) kk) ?_
    by_cases c_358 : ((-100) : Int32) < i_356
    · refine k_pure (g' := (mkF m 72 #[.val (.int i_356), .val (.int (Int32.ofNat q)), .val (.ref t), .unset, .unset, .val (.int (Int32.ofNat q)), .val (.int (0 : Int32))] [])) (fun TT HH tt kk => XS.icmpYes HH hx rfl (pc0 := 25) (pc' := 72) rfl (hb hby d_jdk_33_m_12_25) rfl (tlt c_358).2.2.1 (by decide) (by decide) kk) ?_
      refine k_pure (g' := (mkF m 73 #[.val (.int i_356), .val (.int (Int32.ofNat q)), .val (.ref t), .unset, .unset, .val (.int (Int32.ofNat q)), .val (.int (0 : Int32))] [(.ref t)])) (fun TT HH tt kk => XS.aloadN HH hx rfl (hb hby d_jdk_33_m_12_72) rfl rfl kk) ?_
      refine k_pure (g' := (mkF m 76 #[.val (.int i_356), .val (.int (Int32.ofNat q)), .val (.ref t), .unset, .unset, .val (.int ((Int32.ofNat q) + ((-1) : Int32))), .val (.int (0 : Int32))] [(.ref t)])) (fun TT HH tt kk => XS.iinc HH hx rfl (hb hby d_jdk_33_m_12_73) rfl (l' := #[.val (.int i_356), .val (.int (Int32.ofNat q)), .val (.ref t), .unset, .unset, .val (.int ((Int32.ofNat q) + ((-1) : Int32))), .val (.int (0 : Int32))]) rfl kk) ?_
      rw [dec_ofNat (by omega) (by omega)]
      show Run p l e _ s m _ below meth c Z EL1 _ n0 bk h0 0 0 (mkF m 76 #[.val (.int i_356), .val (.int (Int32.ofNat q)), .val (.ref t), .unset, .unset, .val (.int (Int32.ofNat (q - 1))), .val (.int (0 : Int32))] [(.ref t)]) _
      refine k_pure (g' := (mkF m 78 #[.val (.int i_356), .val (.int (Int32.ofNat q)), .val (.ref t), .unset, .unset, .val (.int (Int32.ofNat (q - 1))), .val (.int (0 : Int32))] [(.int (Int32.ofNat (q - 1))), (.ref t)])) (fun TT HH tt kk => XS.iload HH hx rfl (hb hby d_jdk_33_m_12_76) rfl kk) ?_
      refine k_getS hx (host := "") (Or.inl (hw _ (List.mem_of_getElem? (i := 128) rfl))) Via.refl (s_d1.ext O0.2) rfl (hb hby d_jdk_33_m_12_78) ?_
      show Run p l e _ s m _ below meth c Z EL1 _ n0 bk h0 0 0 (mkF m 81 #[.val (.int i_356), .val (.int (Int32.ofNat q)), .val (.ref t), .unset, .unset, .val (.int (Int32.ofNat (q - 1))), .val (.int (0 : Int32))] [(.ref d1), (.int (Int32.ofNat (q - 1))), (.ref t)]) _
      refine k_pure (g' := (mkF m 82 #[.val (.int i_356), .val (.int (Int32.ofNat q)), .val (.ref t), .unset, .unset, .val (.int (Int32.ofNat (q - 1))), .val (.int (0 : Int32))] [(.int i_356), (.ref d1), (.int (Int32.ofNat (q - 1))), (.ref t)])) (fun TT HH tt kk => XS.iloadN HH hx rfl (hb hby d_jdk_33_m_12_81) rfl kk) ?_
      refine k_pure (g' := (mkF m 83 #[.val (.int i_356), .val (.int (Int32.ofNat q)), .val (.ref t), .unset, .unset, .val (.int (Int32.ofNat (q - 1))), .val (.int (0 : Int32))] [(.int (-i_356)), (.ref d1), (.int (Int32.ofNat (q - 1))), (.ref t)])) (fun TT HH tt kk => XS.ineg HH hx rfl (hb hby d_jdk_33_m_12_82) rfl kk) ?_
      have hr_360 : 0 ≤ ((-i_356)).toInt ∧ ((-i_356)).toInt ≤ 99 := (by have r0 : ((-100) : Int32).toInt = (-100) := (by decide); have r1 := rng32 i_356; have r2 := c_ineg i_356; have r3 := rng32 (-i_356); have r4 := (Int32.lt_iff_toInt_lt.mp c_358); have r5 := hb_357; omega)
      generalize (-i_356) = i_359 at hr_360 ⊢
      show Run p l e _ s m _ below meth c Z EL1 _ n0 bk h0 0 0 (mkF m 83 #[.val (.int i_356), .val (.int (Int32.ofNat q)), .val (.ref t), .unset, .unset, .val (.int (Int32.ofNat (q - 1))), .val (.int (0 : Int32))] [(.int i_359), (.ref d1), (.int (Int32.ofNat (q - 1))), (.ref t)]) _
      have F_361 : Arv Z h0 d1 kd1 .byte (100 : Int32) w1 (.int 0) := a_d1.ext O0.2
      obtain ⟨x_362, hv_363⟩ := aget_int F_361 (i := (i_359).toNatClampNeg) (dig_lt hr_360)
      refine k_aget hx (v := (.int x_362)) F_361 (dig_in hr_360) hv_363 (Or.inr (Or.inr (Or.inr (Or.inl ⟨rfl, rfl⟩)))) rfl rfl (hb hby d_jdk_33_m_12_83) ?_
      show Run p l e _ s m _ below meth c Z EL1 _ n0 bk h0 0 0 (mkF m 84 #[.val (.int i_356), .val (.int (Int32.ofNat q)), .val (.ref t), .unset, .unset, .val (.int (Int32.ofNat (q - 1))), .val (.int (0 : Int32))] [(.int x_362), (.int (Int32.ofNat (q - 1))), (.ref t)]) _
      refine k_stB hx pp (idx_ok (i := (q - 1)) (n := N) (by omega) (by omega)) ((q - 1)) (clampN (by omega)) (Nat.lt_of_lt_of_le (show (q - 1) < N by omega) hl0) (by omega) nbt rfl rfl (hb hby d_jdk_33_m_12_84) ?_
      intro h_364 O_365 W_366 A_367
      have z_368 := W_366.size
      have V_369 : Arv Z h_364 t kb .byte (Int32.ofNat N) (vs0.set ((q - 1)) (.int (nar .byte x_362))) (.int 0) := A_367
      show Run p l e _ s m _ below meth c Z EL1 _ n0 bk h_364 0 0 (mkF m 85 #[.val (.int i_356), .val (.int (Int32.ofNat q)), .val (.ref t), .unset, .unset, .val (.int (Int32.ofNat (q - 1))), .val (.int (0 : Int32))] []) _
      obtain ⟨vs_370, hl_371, V_372⟩ : ∃ ws : List Value, N ≤ ws.length ∧ Arv Z h_364 t kb .byte (Int32.ofNat N) ws (.int 0) := ⟨_, (by rw [List.length_set]; exact hl0), V_369⟩
      refine k_pure (g' := (mkF m 86 #[.val (.int i_356), .val (.int (Int32.ofNat q)), .val (.ref t), .unset, .unset, .val (.int (Int32.ofNat (q - 1))), .val (.int (0 : Int32))] [(.int i_356)])) (fun TT HH tt kk => XS.iloadN HH hx rfl (hb hby d_jdk_33_m_12_85) rfl kk) ?_
      refine k_pure (g' := (mkF m 88 #[.val (.int i_356), .val (.int (Int32.ofNat q)), .val (.ref t), .unset, .unset, .val (.int (Int32.ofNat (q - 1))), .val (.int (0 : Int32))] [(.int ((-9) : Int32)), (.int i_356)])) (fun TT HH tt kk => XS.bipush HH hx rfl (hb hby d_jdk_33_m_12_86) kk) ?_
      by_cases c_373 : i_356 < ((-9) : Int32)
      · refine k_pure (g' := (mkF m 91 #[.val (.int i_356), .val (.int (Int32.ofNat q)), .val (.ref t), .unset, .unset, .val (.int (Int32.ofNat (q - 1))), .val (.int (0 : Int32))] [])) (fun TT HH tt kk => XS.icmpNo HH hx rfl (hb hby d_jdk_33_m_12_88) rfl (tlt c_373).2.1 kk) ?_
        refine k_pure (g' := (mkF m 92 #[.val (.int i_356), .val (.int (Int32.ofNat q)), .val (.ref t), .unset, .unset, .val (.int (Int32.ofNat (q - 1))), .val (.int (0 : Int32))] [(.ref t)])) (fun TT HH tt kk => XS.aloadN HH hx rfl (hb hby d_jdk_33_m_12_91) rfl rfl kk) ?_
        refine k_pure (g' := (mkF m 95 #[.val (.int i_356), .val (.int (Int32.ofNat q)), .val (.ref t), .unset, .unset, .val (.int ((Int32.ofNat (q - 1)) + ((-1) : Int32))), .val (.int (0 : Int32))] [(.ref t)])) (fun TT HH tt kk => XS.iinc HH hx rfl (hb hby d_jdk_33_m_12_92) rfl (l' := #[.val (.int i_356), .val (.int (Int32.ofNat q)), .val (.ref t), .unset, .unset, .val (.int ((Int32.ofNat (q - 1)) + ((-1) : Int32))), .val (.int (0 : Int32))]) rfl kk) ?_
        rw [dec_ofNat (by omega) (by omega)]
        show Run p l e _ s m _ below meth c Z EL1 _ n0 bk h_364 0 0 (mkF m 95 #[.val (.int i_356), .val (.int (Int32.ofNat q)), .val (.ref t), .unset, .unset, .val (.int (Int32.ofNat ((q - 1) - 1))), .val (.int (0 : Int32))] [(.ref t)]) _
        refine k_pure (g' := (mkF m 97 #[.val (.int i_356), .val (.int (Int32.ofNat q)), .val (.ref t), .unset, .unset, .val (.int (Int32.ofNat ((q - 1) - 1))), .val (.int (0 : Int32))] [(.int (Int32.ofNat ((q - 1) - 1))), (.ref t)])) (fun TT HH tt kk => XS.iload HH hx rfl (hb hby d_jdk_33_m_12_95) rfl kk) ?_
        refine k_getS hx (host := "") (Or.inl (hw _ (List.mem_of_getElem? (i := 199) rfl))) Via.refl (s_d2.ext O_365.2) rfl (hb hby d_jdk_33_m_12_97) ?_
        show Run p l e _ s m _ below meth c Z EL1 _ n0 bk h_364 0 0 (mkF m 100 #[.val (.int i_356), .val (.int (Int32.ofNat q)), .val (.ref t), .unset, .unset, .val (.int (Int32.ofNat ((q - 1) - 1))), .val (.int (0 : Int32))] [(.ref d2), (.int (Int32.ofNat ((q - 1) - 1))), (.ref t)]) _
        refine k_pure (g' := (mkF m 101 #[.val (.int i_356), .val (.int (Int32.ofNat q)), .val (.ref t), .unset, .unset, .val (.int (Int32.ofNat ((q - 1) - 1))), .val (.int (0 : Int32))] [(.int i_356), (.ref d2), (.int (Int32.ofNat ((q - 1) - 1))), (.ref t)])) (fun TT HH tt kk => XS.iloadN HH hx rfl (hb hby d_jdk_33_m_12_100) rfl kk) ?_
        refine k_pure (g' := (mkF m 102 #[.val (.int i_356), .val (.int (Int32.ofNat q)), .val (.ref t), .unset, .unset, .val (.int (Int32.ofNat ((q - 1) - 1))), .val (.int (0 : Int32))] [(.int (-i_356)), (.ref d2), (.int (Int32.ofNat ((q - 1) - 1))), (.ref t)])) (fun TT HH tt kk => XS.ineg HH hx rfl (hb hby d_jdk_33_m_12_101) rfl kk) ?_
        have hr_375 : 0 ≤ ((-i_356)).toInt ∧ ((-i_356)).toInt ≤ 99 := (by have r0 : ((-100) : Int32).toInt = (-100) := (by decide); have r1 := rng32 i_356; have r2 : ((-9) : Int32).toInt = (-9) := (by decide); have r3 := c_ineg i_356; have r4 := rng32 (-i_356); have r5 := (Int32.lt_iff_toInt_lt.mp c_358); have r6 := (Int32.lt_iff_toInt_lt.mp c_373); have r7 := hb_357; omega)
        generalize (-i_356) = i_374 at hr_375 ⊢
        show Run p l e _ s m _ below meth c Z EL1 _ n0 bk h_364 0 0 (mkF m 102 #[.val (.int i_356), .val (.int (Int32.ofNat q)), .val (.ref t), .unset, .unset, .val (.int (Int32.ofNat ((q - 1) - 1))), .val (.int (0 : Int32))] [(.int i_374), (.ref d2), (.int (Int32.ofNat ((q - 1) - 1))), (.ref t)]) _
        have F_376 : Arv Z h_364 d2 kd2 .byte (100 : Int32) w2 (.int 0) := a_d2.ext O_365.2
        obtain ⟨x_377, hv_378⟩ := aget_int F_376 (i := (i_374).toNatClampNeg) (dig_lt hr_375)
        refine k_aget hx (v := (.int x_377)) F_376 (dig_in hr_375) hv_378 (Or.inr (Or.inr (Or.inr (Or.inl ⟨rfl, rfl⟩)))) rfl rfl (hb hby d_jdk_33_m_12_102) ?_
        show Run p l e _ s m _ below meth c Z EL1 _ n0 bk h_364 0 0 (mkF m 103 #[.val (.int i_356), .val (.int (Int32.ofNat q)), .val (.ref t), .unset, .unset, .val (.int (Int32.ofNat ((q - 1) - 1))), .val (.int (0 : Int32))] [(.int x_377), (.int (Int32.ofNat ((q - 1) - 1))), (.ref t)]) _
        refine k_stB hx V_372 (idx_ok (i := ((q - 1) - 1)) (n := N) (by omega) (by omega)) (((q - 1) - 1)) (clampN (by omega)) (Nat.lt_of_lt_of_le (show ((q - 1) - 1) < N by omega) hl_371) (by omega) nbt rfl rfl (hb hby d_jdk_33_m_12_103) ?_
        intro h_379 O_380 W_381 A_382
        have z_383 := W_381.size
        have V_384 : Arv Z h_379 t kb .byte (Int32.ofNat N) (vs_370.set (((q - 1) - 1)) (.int (nar .byte x_377))) (.int 0) := A_382
        show Run p l e _ s m _ below meth c Z EL1 _ n0 bk h_379 0 0 (mkF m 104 #[.val (.int i_356), .val (.int (Int32.ofNat q)), .val (.ref t), .unset, .unset, .val (.int (Int32.ofNat ((q - 1) - 1))), .val (.int (0 : Int32))] []) _
        obtain ⟨vs_385, hl_386, V_387⟩ : ∃ ws : List Value, N ≤ ws.length ∧ Arv Z h_379 t kb .byte (Int32.ofNat N) ws (.int 0) := ⟨_, (by rw [List.length_set]; exact hl_371), V_384⟩
        refine k_pure (g' := (mkF m 106 #[.val (.int i_356), .val (.int (Int32.ofNat q)), .val (.ref t), .unset, .unset, .val (.int (Int32.ofNat ((q - 1) - 1))), .val (.int (0 : Int32))] [(.int (0 : Int32))])) (fun TT HH tt kk => XS.iload HH hx rfl (hb hby d_jdk_33_m_12_104) rfl kk) ?_
        refine k_pure (g' := (mkF m 118 #[.val (.int i_356), .val (.int (Int32.ofNat q)), .val (.ref t), .unset, .unset, .val (.int (Int32.ofNat ((q - 1) - 1))), .val (.int (0 : Int32))] [])) (fun TT HH tt kk => XS.ifYes HH hx rfl (pc0 := 106) (pc' := 118) rfl (hb hby d_jdk_33_m_12_106) rfl ((if0 _ _).trans (teq (by decide : ((0 : Int32) = (0 : Int32)))).1) (by decide) (by decide) kk) ?_
        refine k_pure (g' := (mkF m 120 #[.val (.int i_356), .val (.int (Int32.ofNat q)), .val (.ref t), .unset, .unset, .val (.int (Int32.ofNat ((q - 1) - 1))), .val (.int (0 : Int32))] [(.int (Int32.ofNat ((q - 1) - 1)))])) (fun TT HH tt kk => XS.iload HH hx rfl (hb hby d_jdk_33_m_12_118) rfl kk) ?_
        exact k_retI hx hlk hret (hb hby d_jdk_33_m_12_120) (by decide) (by decide) ⟨_, _, rfl, rfl, (((Keep.refl _ _).wr W_366 (Or.inl (by simp))).wr W_381 (Or.inl (by simp))), V_387⟩
      · refine k_pure (g' := (mkF m 104 #[.val (.int i_356), .val (.int (Int32.ofNat q)), .val (.ref t), .unset, .unset, .val (.int (Int32.ofNat (q - 1))), .val (.int (0 : Int32))] [])) (fun TT HH tt kk => XS.icmpYes HH hx rfl (pc0 := 88) (pc' := 104) rfl (hb hby d_jdk_33_m_12_88) rfl (flt c_373).2.1 (by decide) (by decide) kk) ?_
        refine k_pure (g' := (mkF m 106 #[.val (.int i_356), .val (.int (Int32.ofNat q)), .val (.ref t), .unset, .unset, .val (.int (Int32.ofNat (q - 1))), .val (.int (0 : Int32))] [(.int (0 : Int32))])) (fun TT HH tt kk => XS.iload HH hx rfl (hb hby d_jdk_33_m_12_104) rfl kk) ?_
        refine k_pure (g' := (mkF m 118 #[.val (.int i_356), .val (.int (Int32.ofNat q)), .val (.ref t), .unset, .unset, .val (.int (Int32.ofNat (q - 1))), .val (.int (0 : Int32))] [])) (fun TT HH tt kk => XS.ifYes HH hx rfl (pc0 := 106) (pc' := 118) rfl (hb hby d_jdk_33_m_12_106) rfl ((if0 _ _).trans (teq (by decide : ((0 : Int32) = (0 : Int32)))).1) (by decide) (by decide) kk) ?_
        refine k_pure (g' := (mkF m 120 #[.val (.int i_356), .val (.int (Int32.ofNat q)), .val (.ref t), .unset, .unset, .val (.int (Int32.ofNat (q - 1))), .val (.int (0 : Int32))] [(.int (Int32.ofNat (q - 1)))])) (fun TT HH tt kk => XS.iload HH hx rfl (hb hby d_jdk_33_m_12_118) rfl kk) ?_
        exact k_retI hx hlk hret (hb hby d_jdk_33_m_12_120) (by decide) (by decide) ⟨_, _, rfl, rfl, ((Keep.refl _ _).wr W_366 (Or.inl (by simp))), V_372⟩
    · refine k_pure (g' := (mkF m 28 #[.val (.int i_356), .val (.int (Int32.ofNat q)), .val (.ref t), .unset, .unset, .val (.int (Int32.ofNat q)), .val (.int (0 : Int32))] [])) (fun TT HH tt kk => XS.icmpNo HH hx rfl (hb hby d_jdk_33_m_12_25) rfl (flt c_358).2.2.1 kk) ?_
      refine k_pure (g' := (mkF m 29 #[.val (.int i_356), .val (.int (Int32.ofNat q)), .val (.ref t), .unset, .unset, .val (.int (Int32.ofNat q)), .val (.int (0 : Int32))] [(.int i_356)])) (fun TT HH tt kk => XS.iloadN HH hx rfl (hb hby d_jdk_33_m_12_28) rfl kk) ?_
      refine k_pure (g' := (mkF m 31 #[.val (.int i_356), .val (.int (Int32.ofNat q)), .val (.ref t), .unset, .unset, .val (.int (Int32.ofNat q)), .val (.int (0 : Int32))] [(.int (100 : Int32)), (.int i_356)])) (fun TT HH tt kk => XS.bipush HH hx rfl (hb hby d_jdk_33_m_12_29) kk) ?_
      refine k_pure (g' := (mkF m 32 #[.val (.int i_356), .val (.int (Int32.ofNat q)), .val (.ref t), .unset, .unset, .val (.int (Int32.ofNat q)), .val (.int (0 : Int32))] [(.int (i_356 / (100 : Int32)))])) (fun TT HH tt kk => XS.idiv HH hx rfl (hb hby d_jdk_33_m_12_31) rfl (by decide) kk) ?_
      refine k_pure (g' := (mkF m 33 #[.val (.int i_356), .val (.int (Int32.ofNat q)), .val (.ref t), .val (.int (i_356 / (100 : Int32))), .unset, .val (.int (Int32.ofNat q)), .val (.int (0 : Int32))] [])) (fun TT HH tt kk => XS.istoreN HH hx rfl (hb hby d_jdk_33_m_12_32) rfl (l' := #[.val (.int i_356), .val (.int (Int32.ofNat q)), .val (.ref t), .val (.int (i_356 / (100 : Int32))), .unset, .val (.int (Int32.ofNat q)), .val (.int (0 : Int32))]) rfl kk) ?_
      refine k_pure (g' := (mkF m 34 #[.val (.int i_356), .val (.int (Int32.ofNat q)), .val (.ref t), .val (.int (i_356 / (100 : Int32))), .unset, .val (.int (Int32.ofNat q)), .val (.int (0 : Int32))] [(.int (i_356 / (100 : Int32)))])) (fun TT HH tt kk => XS.iloadN HH hx rfl (hb hby d_jdk_33_m_12_33) rfl kk) ?_
      refine k_pure (g' := (mkF m 36 #[.val (.int i_356), .val (.int (Int32.ofNat q)), .val (.ref t), .val (.int (i_356 / (100 : Int32))), .unset, .val (.int (Int32.ofNat q)), .val (.int (0 : Int32))] [(.int (100 : Int32)), (.int (i_356 / (100 : Int32)))])) (fun TT HH tt kk => XS.bipush HH hx rfl (hb hby d_jdk_33_m_12_34) kk) ?_
      refine k_pure (g' := (mkF m 37 #[.val (.int i_356), .val (.int (Int32.ofNat q)), .val (.ref t), .val (.int (i_356 / (100 : Int32))), .unset, .val (.int (Int32.ofNat q)), .val (.int (0 : Int32))] [(.int ((i_356 / (100 : Int32)) * (100 : Int32)))])) (fun TT HH tt kk => XS.imul HH hx rfl (hb hby d_jdk_33_m_12_36) rfl kk) ?_
      refine k_pure (g' := (mkF m 38 #[.val (.int i_356), .val (.int (Int32.ofNat q)), .val (.ref t), .val (.int (i_356 / (100 : Int32))), .unset, .val (.int (Int32.ofNat q)), .val (.int (0 : Int32))] [(.int i_356), (.int ((i_356 / (100 : Int32)) * (100 : Int32)))])) (fun TT HH tt kk => XS.iloadN HH hx rfl (hb hby d_jdk_33_m_12_37) rfl kk) ?_
      refine k_pure (g' := (mkF m 39 #[.val (.int i_356), .val (.int (Int32.ofNat q)), .val (.ref t), .val (.int (i_356 / (100 : Int32))), .unset, .val (.int (Int32.ofNat q)), .val (.int (0 : Int32))] [(.int (((i_356 / (100 : Int32)) * (100 : Int32)) - i_356))])) (fun TT HH tt kk => XS.isub HH hx rfl (hb hby d_jdk_33_m_12_38) rfl kk) ?_
      refine k_pure (g' := (mkF m 41 #[.val (.int i_356), .val (.int (Int32.ofNat q)), .val (.ref t), .val (.int (i_356 / (100 : Int32))), .val (.int (((i_356 / (100 : Int32)) * (100 : Int32)) - i_356)), .val (.int (Int32.ofNat q)), .val (.int (0 : Int32))] [])) (fun TT HH tt kk => XS.istore HH hx rfl (hb hby d_jdk_33_m_12_39) rfl (l' := #[.val (.int i_356), .val (.int (Int32.ofNat q)), .val (.ref t), .val (.int (i_356 / (100 : Int32))), .val (.int (((i_356 / (100 : Int32)) * (100 : Int32)) - i_356)), .val (.int (Int32.ofNat q)), .val (.int (0 : Int32))]) rfl kk) ?_
      refine k_pure (g' := (mkF m 42 #[.val (.int i_356), .val (.int (Int32.ofNat q)), .val (.ref t), .val (.int (i_356 / (100 : Int32))), .val (.int (((i_356 / (100 : Int32)) * (100 : Int32)) - i_356)), .val (.int (Int32.ofNat q)), .val (.int (0 : Int32))] [(.int (i_356 / (100 : Int32)))])) (fun TT HH tt kk => XS.iloadN HH hx rfl (hb hby d_jdk_33_m_12_41) rfl kk) ?_
      refine k_pure (g' := (mkF m 43 #[.val (.int (i_356 / (100 : Int32))), .val (.int (Int32.ofNat q)), .val (.ref t), .val (.int (i_356 / (100 : Int32))), .val (.int (((i_356 / (100 : Int32)) * (100 : Int32)) - i_356)), .val (.int (Int32.ofNat q)), .val (.int (0 : Int32))] [])) (fun TT HH tt kk => XS.istoreN HH hx rfl (hb hby d_jdk_33_m_12_42) rfl (l' := #[.val (.int (i_356 / (100 : Int32))), .val (.int (Int32.ofNat q)), .val (.ref t), .val (.int (i_356 / (100 : Int32))), .val (.int (((i_356 / (100 : Int32)) * (100 : Int32)) - i_356)), .val (.int (Int32.ofNat q)), .val (.int (0 : Int32))]) rfl kk) ?_
      have hr_389 : 0 ≤ ((((i_356 / (100 : Int32)) * (100 : Int32)) - i_356)).toInt ∧ ((((i_356 / (100 : Int32)) * (100 : Int32)) - i_356)).toInt ≤ 99 := (by have r0 : ((-100) : Int32).toInt = (-100) := (by decide); have r1 := rng32 i_356; have r2 := c_idiv i_356 (100 : Int32) 100 (by decide) (by decide); have r3 := rng32 (i_356 / (100 : Int32)); have r4 := (by have q := c_imul (i_356 / (100 : Int32)) (100 : Int32); rw [show (100 : Int32).toInt = 100 from by decide] at q; exact q); have r5 := rng32 ((i_356 / (100 : Int32)) * (100 : Int32)); have r6 := c_isub ((i_356 / (100 : Int32)) * (100 : Int32)) i_356; have r7 := rng32 (((i_356 / (100 : Int32)) * (100 : Int32)) - i_356); have r8 : ¬ (((-100) : Int32)).toInt < (i_356).toInt := fun q => c_358 (Int32.lt_iff_toInt_lt.mpr q); have r9 := hb_357; omega)
      generalize (((i_356 / (100 : Int32)) * (100 : Int32)) - i_356) = i_388 at hr_389 ⊢
      show Run p l e _ s m _ below meth c Z EL1 _ n0 bk h0 0 0 (mkF m 43 #[.val (.int (i_356 / (100 : Int32))), .val (.int (Int32.ofNat q)), .val (.ref t), .val (.int (i_356 / (100 : Int32))), .val (.int i_388), .val (.int (Int32.ofNat q)), .val (.int (0 : Int32))] []) _
      refine k_pure (g' := (mkF m 44 #[.val (.int (i_356 / (100 : Int32))), .val (.int (Int32.ofNat q)), .val (.ref t), .val (.int (i_356 / (100 : Int32))), .val (.int i_388), .val (.int (Int32.ofNat q)), .val (.int (0 : Int32))] [(.ref t)])) (fun TT HH tt kk => XS.aloadN HH hx rfl (hb hby d_jdk_33_m_12_43) rfl rfl kk) ?_
      refine k_pure (g' := (mkF m 47 #[.val (.int (i_356 / (100 : Int32))), .val (.int (Int32.ofNat q)), .val (.ref t), .val (.int (i_356 / (100 : Int32))), .val (.int i_388), .val (.int ((Int32.ofNat q) + ((-1) : Int32))), .val (.int (0 : Int32))] [(.ref t)])) (fun TT HH tt kk => XS.iinc HH hx rfl (hb hby d_jdk_33_m_12_44) rfl (l' := #[.val (.int (i_356 / (100 : Int32))), .val (.int (Int32.ofNat q)), .val (.ref t), .val (.int (i_356 / (100 : Int32))), .val (.int i_388), .val (.int ((Int32.ofNat q) + ((-1) : Int32))), .val (.int (0 : Int32))]) rfl kk) ?_
      rw [dec_ofNat (by omega) (by omega)]
      show Run p l e _ s m _ below meth c Z EL1 _ n0 bk h0 0 0 (mkF m 47 #[.val (.int (i_356 / (100 : Int32))), .val (.int (Int32.ofNat q)), .val (.ref t), .val (.int (i_356 / (100 : Int32))), .val (.int i_388), .val (.int (Int32.ofNat (q - 1))), .val (.int (0 : Int32))] [(.ref t)]) _
      refine k_pure (g' := (mkF m 49 #[.val (.int (i_356 / (100 : Int32))), .val (.int (Int32.ofNat q)), .val (.ref t), .val (.int (i_356 / (100 : Int32))), .val (.int i_388), .val (.int (Int32.ofNat (q - 1))), .val (.int (0 : Int32))] [(.int (Int32.ofNat (q - 1))), (.ref t)])) (fun TT HH tt kk => XS.iload HH hx rfl (hb hby d_jdk_33_m_12_47) rfl kk) ?_
      refine k_getS hx (host := "") (Or.inl (hw _ (List.mem_of_getElem? (i := 128) rfl))) Via.refl (s_d1.ext O0.2) rfl (hb hby d_jdk_33_m_12_49) ?_
      show Run p l e _ s m _ below meth c Z EL1 _ n0 bk h0 0 0 (mkF m 52 #[.val (.int (i_356 / (100 : Int32))), .val (.int (Int32.ofNat q)), .val (.ref t), .val (.int (i_356 / (100 : Int32))), .val (.int i_388), .val (.int (Int32.ofNat (q - 1))), .val (.int (0 : Int32))] [(.ref d1), (.int (Int32.ofNat (q - 1))), (.ref t)]) _
      refine k_pure (g' := (mkF m 54 #[.val (.int (i_356 / (100 : Int32))), .val (.int (Int32.ofNat q)), .val (.ref t), .val (.int (i_356 / (100 : Int32))), .val (.int i_388), .val (.int (Int32.ofNat (q - 1))), .val (.int (0 : Int32))] [(.int i_388), (.ref d1), (.int (Int32.ofNat (q - 1))), (.ref t)])) (fun TT HH tt kk => XS.iload HH hx rfl (hb hby d_jdk_33_m_12_52) rfl kk) ?_
      have F_390 : Arv Z h0 d1 kd1 .byte (100 : Int32) w1 (.int 0) := a_d1.ext O0.2
      obtain ⟨x_391, hv_392⟩ := aget_int F_390 (i := (i_388).toNatClampNeg) (dig_lt hr_389)
      refine k_aget hx (v := (.int x_391)) F_390 (dig_in hr_389) hv_392 (Or.inr (Or.inr (Or.inr (Or.inl ⟨rfl, rfl⟩)))) rfl rfl (hb hby d_jdk_33_m_12_54) ?_
      show Run p l e _ s m _ below meth c Z EL1 _ n0 bk h0 0 0 (mkF m 55 #[.val (.int (i_356 / (100 : Int32))), .val (.int (Int32.ofNat q)), .val (.ref t), .val (.int (i_356 / (100 : Int32))), .val (.int i_388), .val (.int (Int32.ofNat (q - 1))), .val (.int (0 : Int32))] [(.int x_391), (.int (Int32.ofNat (q - 1))), (.ref t)]) _
      refine k_stB hx pp (idx_ok (i := (q - 1)) (n := N) (by omega) (by omega)) ((q - 1)) (clampN (by omega)) (Nat.lt_of_lt_of_le (show (q - 1) < N by omega) hl0) (by omega) nbt rfl rfl (hb hby d_jdk_33_m_12_55) ?_
      intro h_393 O_394 W_395 A_396
      have z_397 := W_395.size
      have V_398 : Arv Z h_393 t kb .byte (Int32.ofNat N) (vs0.set ((q - 1)) (.int (nar .byte x_391))) (.int 0) := A_396
      show Run p l e _ s m _ below meth c Z EL1 _ n0 bk h_393 0 0 (mkF m 56 #[.val (.int (i_356 / (100 : Int32))), .val (.int (Int32.ofNat q)), .val (.ref t), .val (.int (i_356 / (100 : Int32))), .val (.int i_388), .val (.int (Int32.ofNat (q - 1))), .val (.int (0 : Int32))] []) _
      obtain ⟨vs_399, hl_400, V_401⟩ : ∃ ws : List Value, N ≤ ws.length ∧ Arv Z h_393 t kb .byte (Int32.ofNat N) ws (.int 0) := ⟨_, (by rw [List.length_set]; exact hl0), V_398⟩
      refine k_pure (g' := (mkF m 57 #[.val (.int (i_356 / (100 : Int32))), .val (.int (Int32.ofNat q)), .val (.ref t), .val (.int (i_356 / (100 : Int32))), .val (.int i_388), .val (.int (Int32.ofNat (q - 1))), .val (.int (0 : Int32))] [(.ref t)])) (fun TT HH tt kk => XS.aloadN HH hx rfl (hb hby d_jdk_33_m_12_56) rfl rfl kk) ?_
      refine k_pure (g' := (mkF m 60 #[.val (.int (i_356 / (100 : Int32))), .val (.int (Int32.ofNat q)), .val (.ref t), .val (.int (i_356 / (100 : Int32))), .val (.int i_388), .val (.int ((Int32.ofNat (q - 1)) + ((-1) : Int32))), .val (.int (0 : Int32))] [(.ref t)])) (fun TT HH tt kk => XS.iinc HH hx rfl (hb hby d_jdk_33_m_12_57) rfl (l' := #[.val (.int (i_356 / (100 : Int32))), .val (.int (Int32.ofNat q)), .val (.ref t), .val (.int (i_356 / (100 : Int32))), .val (.int i_388), .val (.int ((Int32.ofNat (q - 1)) + ((-1) : Int32))), .val (.int (0 : Int32))]) rfl kk) ?_
      rw [dec_ofNat (by omega) (by omega)]
      show Run p l e _ s m _ below meth c Z EL1 _ n0 bk h_393 0 0 (mkF m 60 #[.val (.int (i_356 / (100 : Int32))), .val (.int (Int32.ofNat q)), .val (.ref t), .val (.int (i_356 / (100 : Int32))), .val (.int i_388), .val (.int (Int32.ofNat ((q - 1) - 1))), .val (.int (0 : Int32))] [(.ref t)]) _
      refine k_pure (g' := (mkF m 62 #[.val (.int (i_356 / (100 : Int32))), .val (.int (Int32.ofNat q)), .val (.ref t), .val (.int (i_356 / (100 : Int32))), .val (.int i_388), .val (.int (Int32.ofNat ((q - 1) - 1))), .val (.int (0 : Int32))] [(.int (Int32.ofNat ((q - 1) - 1))), (.ref t)])) (fun TT HH tt kk => XS.iload HH hx rfl (hb hby d_jdk_33_m_12_60) rfl kk) ?_
      refine k_getS hx (host := "") (Or.inl (hw _ (List.mem_of_getElem? (i := 199) rfl))) Via.refl (s_d2.ext O_394.2) rfl (hb hby d_jdk_33_m_12_62) ?_
      show Run p l e _ s m _ below meth c Z EL1 _ n0 bk h_393 0 0 (mkF m 65 #[.val (.int (i_356 / (100 : Int32))), .val (.int (Int32.ofNat q)), .val (.ref t), .val (.int (i_356 / (100 : Int32))), .val (.int i_388), .val (.int (Int32.ofNat ((q - 1) - 1))), .val (.int (0 : Int32))] [(.ref d2), (.int (Int32.ofNat ((q - 1) - 1))), (.ref t)]) _
      refine k_pure (g' := (mkF m 67 #[.val (.int (i_356 / (100 : Int32))), .val (.int (Int32.ofNat q)), .val (.ref t), .val (.int (i_356 / (100 : Int32))), .val (.int i_388), .val (.int (Int32.ofNat ((q - 1) - 1))), .val (.int (0 : Int32))] [(.int i_388), (.ref d2), (.int (Int32.ofNat ((q - 1) - 1))), (.ref t)])) (fun TT HH tt kk => XS.iload HH hx rfl (hb hby d_jdk_33_m_12_65) rfl kk) ?_
      have F_402 : Arv Z h_393 d2 kd2 .byte (100 : Int32) w2 (.int 0) := a_d2.ext O_394.2
      obtain ⟨x_403, hv_404⟩ := aget_int F_402 (i := (i_388).toNatClampNeg) (dig_lt hr_389)
      refine k_aget hx (v := (.int x_403)) F_402 (dig_in hr_389) hv_404 (Or.inr (Or.inr (Or.inr (Or.inl ⟨rfl, rfl⟩)))) rfl rfl (hb hby d_jdk_33_m_12_67) ?_
      show Run p l e _ s m _ below meth c Z EL1 _ n0 bk h_393 0 0 (mkF m 68 #[.val (.int (i_356 / (100 : Int32))), .val (.int (Int32.ofNat q)), .val (.ref t), .val (.int (i_356 / (100 : Int32))), .val (.int i_388), .val (.int (Int32.ofNat ((q - 1) - 1))), .val (.int (0 : Int32))] [(.int x_403), (.int (Int32.ofNat ((q - 1) - 1))), (.ref t)]) _
      refine k_stB hx V_401 (idx_ok (i := ((q - 1) - 1)) (n := N) (by omega) (by omega)) (((q - 1) - 1)) (clampN (by omega)) (Nat.lt_of_lt_of_le (show ((q - 1) - 1) < N by omega) hl_400) (by omega) nbt rfl rfl (hb hby d_jdk_33_m_12_68) ?_
      intro h_405 O_406 W_407 A_408
      have z_409 := W_407.size
      have V_410 : Arv Z h_405 t kb .byte (Int32.ofNat N) (vs_399.set (((q - 1) - 1)) (.int (nar .byte x_403))) (.int 0) := A_408
      show Run p l e _ s m _ below meth c Z EL1 _ n0 bk h_405 0 0 (mkF m 69 #[.val (.int (i_356 / (100 : Int32))), .val (.int (Int32.ofNat q)), .val (.ref t), .val (.int (i_356 / (100 : Int32))), .val (.int i_388), .val (.int (Int32.ofNat ((q - 1) - 1))), .val (.int (0 : Int32))] []) _
      obtain ⟨vs_411, hl_412, V_413⟩ : ∃ ws : List Value, N ≤ ws.length ∧ Arv Z h_405 t kb .byte (Int32.ofNat N) ws (.int 0) := ⟨_, (by rw [List.length_set]; exact hl_400), V_410⟩
      refine k_pure (g' := (mkF m 22 #[.val (.int (i_356 / (100 : Int32))), .val (.int (Int32.ofNat q)), .val (.ref t), .val (.int (i_356 / (100 : Int32))), .val (.int i_388), .val (.int (Int32.ofNat ((q - 1) - 1))), .val (.int (0 : Int32))] [])) (fun TT HH tt kk => XS.goto HH hx rfl (pc0 := 69) (pc' := 22) rfl (hb hby d_jdk_33_m_12_69) (by decide) (by decide) kk) ?_
      have hb_415 : -21474836 ≤ ((i_356 / (100 : Int32))).toInt ∧ ((i_356 / (100 : Int32))).toInt ≤ 0 := (by have r0 : ((-100) : Int32).toInt = (-100) := (by decide); have r1 := rng32 i_356; have r2 := c_idiv i_356 (100 : Int32) 100 (by decide) (by decide); have r3 := rng32 (i_356 / (100 : Int32)); have r4 : ¬ (((-100) : Int32)).toInt < (i_356).toInt := fun q => c_358 (Int32.lt_iff_toInt_lt.mpr q); have r5 := hb_357; omega)
      generalize (i_356 / (100 : Int32)) = i_414 at hb_415 ⊢
      show Run p l e _ s m _ below meth c Z EL1 _ n0 bk h_405 0 0 (mkF m 22 #[.val (.int i_414), .val (.int (Int32.ofNat q)), .val (.ref t), .val (.int i_414), .val (.int i_388), .val (.int (Int32.ofNat ((q - 1) - 1))), .val (.int (0 : Int32))] []) _
      refine k_pure (g' := (mkF m 23 #[.val (.int i_414), .val (.int (Int32.ofNat q)), .val (.ref t), .val (.int i_414), .val (.int i_388), .val (.int (Int32.ofNat ((q - 1) - 1))), .val (.int (0 : Int32))] [(.int i_414)])) (fun TT HH tt kk => XS.iloadN HH hx rfl (hb hby d_jdk_33_m_12_22) rfl kk) ?_
      refine k_pure (g' := (mkF m 25 #[.val (.int i_414), .val (.int (Int32.ofNat q)), .val (.ref t), .val (.int i_414), .val (.int i_388), .val (.int (Int32.ofNat ((q - 1) - 1))), .val (.int (0 : Int32))] [(.int ((-100) : Int32)), (.int i_414)])) (fun TT HH tt kk => XS.bipush HH hx rfl (hb hby d_jdk_33_m_12_23) kk) ?_
      by_cases c_416 : ((-100) : Int32) < i_414
      · refine k_pure (g' := (mkF m 72 #[.val (.int i_414), .val (.int (Int32.ofNat q)), .val (.ref t), .val (.int i_414), .val (.int i_388), .val (.int (Int32.ofNat ((q - 1) - 1))), .val (.int (0 : Int32))] [])) (fun TT HH tt kk => XS.icmpYes HH hx rfl (pc0 := 25) (pc' := 72) rfl (hb hby d_jdk_33_m_12_25) rfl (tlt c_416).2.2.1 (by decide) (by decide) kk) ?_
        refine k_pure (g' := (mkF m 73 #[.val (.int i_414), .val (.int (Int32.ofNat q)), .val (.ref t), .val (.int i_414), .val (.int i_388), .val (.int (Int32.ofNat ((q - 1) - 1))), .val (.int (0 : Int32))] [(.ref t)])) (fun TT HH tt kk => XS.aloadN HH hx rfl (hb hby d_jdk_33_m_12_72) rfl rfl kk) ?_
        refine k_pure (g' := (mkF m 76 #[.val (.int i_414), .val (.int (Int32.ofNat q)), .val (.ref t), .val (.int i_414), .val (.int i_388), .val (.int ((Int32.ofNat ((q - 1) - 1)) + ((-1) : Int32))), .val (.int (0 : Int32))] [(.ref t)])) (fun TT HH tt kk => XS.iinc HH hx rfl (hb hby d_jdk_33_m_12_73) rfl (l' := #[.val (.int i_414), .val (.int (Int32.ofNat q)), .val (.ref t), .val (.int i_414), .val (.int i_388), .val (.int ((Int32.ofNat ((q - 1) - 1)) + ((-1) : Int32))), .val (.int (0 : Int32))]) rfl kk) ?_
        rw [dec_ofNat (by omega) (by omega)]
        show Run p l e _ s m _ below meth c Z EL1 _ n0 bk h_405 0 0 (mkF m 76 #[.val (.int i_414), .val (.int (Int32.ofNat q)), .val (.ref t), .val (.int i_414), .val (.int i_388), .val (.int (Int32.ofNat (((q - 1) - 1) - 1))), .val (.int (0 : Int32))] [(.ref t)]) _
        refine k_pure (g' := (mkF m 78 #[.val (.int i_414), .val (.int (Int32.ofNat q)), .val (.ref t), .val (.int i_414), .val (.int i_388), .val (.int (Int32.ofNat (((q - 1) - 1) - 1))), .val (.int (0 : Int32))] [(.int (Int32.ofNat (((q - 1) - 1) - 1))), (.ref t)])) (fun TT HH tt kk => XS.iload HH hx rfl (hb hby d_jdk_33_m_12_76) rfl kk) ?_
        refine k_getS hx (host := "") (Or.inl (hw _ (List.mem_of_getElem? (i := 128) rfl))) Via.refl (s_d1.ext O_406.2) rfl (hb hby d_jdk_33_m_12_78) ?_
        show Run p l e _ s m _ below meth c Z EL1 _ n0 bk h_405 0 0 (mkF m 81 #[.val (.int i_414), .val (.int (Int32.ofNat q)), .val (.ref t), .val (.int i_414), .val (.int i_388), .val (.int (Int32.ofNat (((q - 1) - 1) - 1))), .val (.int (0 : Int32))] [(.ref d1), (.int (Int32.ofNat (((q - 1) - 1) - 1))), (.ref t)]) _
        refine k_pure (g' := (mkF m 82 #[.val (.int i_414), .val (.int (Int32.ofNat q)), .val (.ref t), .val (.int i_414), .val (.int i_388), .val (.int (Int32.ofNat (((q - 1) - 1) - 1))), .val (.int (0 : Int32))] [(.int i_414), (.ref d1), (.int (Int32.ofNat (((q - 1) - 1) - 1))), (.ref t)])) (fun TT HH tt kk => XS.iloadN HH hx rfl (hb hby d_jdk_33_m_12_81) rfl kk) ?_
        refine k_pure (g' := (mkF m 83 #[.val (.int i_414), .val (.int (Int32.ofNat q)), .val (.ref t), .val (.int i_414), .val (.int i_388), .val (.int (Int32.ofNat (((q - 1) - 1) - 1))), .val (.int (0 : Int32))] [(.int (-i_414)), (.ref d1), (.int (Int32.ofNat (((q - 1) - 1) - 1))), (.ref t)])) (fun TT HH tt kk => XS.ineg HH hx rfl (hb hby d_jdk_33_m_12_82) rfl kk) ?_
        have hr_418 : 0 ≤ ((-i_414)).toInt ∧ ((-i_414)).toInt ≤ 99 := (by have r0 : ((-100) : Int32).toInt = (-100) := (by decide); have r1 := rng32 i_414; have r2 := c_ineg i_414; have r3 := rng32 (-i_414); have r4 := (Int32.lt_iff_toInt_lt.mp c_416); have r5 := hb_415; omega)
        generalize (-i_414) = i_417 at hr_418 ⊢
        show Run p l e _ s m _ below meth c Z EL1 _ n0 bk h_405 0 0 (mkF m 83 #[.val (.int i_414), .val (.int (Int32.ofNat q)), .val (.ref t), .val (.int i_414), .val (.int i_388), .val (.int (Int32.ofNat (((q - 1) - 1) - 1))), .val (.int (0 : Int32))] [(.int i_417), (.ref d1), (.int (Int32.ofNat (((q - 1) - 1) - 1))), (.ref t)]) _
        have F_419 : Arv Z h_405 d1 kd1 .byte (100 : Int32) w1 (.int 0) := a_d1.ext O_406.2
        obtain ⟨x_420, hv_421⟩ := aget_int F_419 (i := (i_417).toNatClampNeg) (dig_lt hr_418)
        refine k_aget hx (v := (.int x_420)) F_419 (dig_in hr_418) hv_421 (Or.inr (Or.inr (Or.inr (Or.inl ⟨rfl, rfl⟩)))) rfl rfl (hb hby d_jdk_33_m_12_83) ?_
        show Run p l e _ s m _ below meth c Z EL1 _ n0 bk h_405 0 0 (mkF m 84 #[.val (.int i_414), .val (.int (Int32.ofNat q)), .val (.ref t), .val (.int i_414), .val (.int i_388), .val (.int (Int32.ofNat (((q - 1) - 1) - 1))), .val (.int (0 : Int32))] [(.int x_420), (.int (Int32.ofNat (((q - 1) - 1) - 1))), (.ref t)]) _
        refine k_stB hx V_413 (idx_ok (i := (((q - 1) - 1) - 1)) (n := N) (by omega) (by omega)) ((((q - 1) - 1) - 1)) (clampN (by omega)) (Nat.lt_of_lt_of_le (show (((q - 1) - 1) - 1) < N by omega) hl_412) (by omega) nbt rfl rfl (hb hby d_jdk_33_m_12_84) ?_
        intro h_422 O_423 W_424 A_425
        have z_426 := W_424.size
        have V_427 : Arv Z h_422 t kb .byte (Int32.ofNat N) (vs_411.set ((((q - 1) - 1) - 1)) (.int (nar .byte x_420))) (.int 0) := A_425
        show Run p l e _ s m _ below meth c Z EL1 _ n0 bk h_422 0 0 (mkF m 85 #[.val (.int i_414), .val (.int (Int32.ofNat q)), .val (.ref t), .val (.int i_414), .val (.int i_388), .val (.int (Int32.ofNat (((q - 1) - 1) - 1))), .val (.int (0 : Int32))] []) _
        obtain ⟨vs_428, hl_429, V_430⟩ : ∃ ws : List Value, N ≤ ws.length ∧ Arv Z h_422 t kb .byte (Int32.ofNat N) ws (.int 0) := ⟨_, (by rw [List.length_set]; exact hl_412), V_427⟩
        refine k_pure (g' := (mkF m 86 #[.val (.int i_414), .val (.int (Int32.ofNat q)), .val (.ref t), .val (.int i_414), .val (.int i_388), .val (.int (Int32.ofNat (((q - 1) - 1) - 1))), .val (.int (0 : Int32))] [(.int i_414)])) (fun TT HH tt kk => XS.iloadN HH hx rfl (hb hby d_jdk_33_m_12_85) rfl kk) ?_
        refine k_pure (g' := (mkF m 88 #[.val (.int i_414), .val (.int (Int32.ofNat q)), .val (.ref t), .val (.int i_414), .val (.int i_388), .val (.int (Int32.ofNat (((q - 1) - 1) - 1))), .val (.int (0 : Int32))] [(.int ((-9) : Int32)), (.int i_414)])) (fun TT HH tt kk => XS.bipush HH hx rfl (hb hby d_jdk_33_m_12_86) kk) ?_
        by_cases c_431 : i_414 < ((-9) : Int32)
        · refine k_pure (g' := (mkF m 91 #[.val (.int i_414), .val (.int (Int32.ofNat q)), .val (.ref t), .val (.int i_414), .val (.int i_388), .val (.int (Int32.ofNat (((q - 1) - 1) - 1))), .val (.int (0 : Int32))] [])) (fun TT HH tt kk => XS.icmpNo HH hx rfl (hb hby d_jdk_33_m_12_88) rfl (tlt c_431).2.1 kk) ?_
          refine k_pure (g' := (mkF m 92 #[.val (.int i_414), .val (.int (Int32.ofNat q)), .val (.ref t), .val (.int i_414), .val (.int i_388), .val (.int (Int32.ofNat (((q - 1) - 1) - 1))), .val (.int (0 : Int32))] [(.ref t)])) (fun TT HH tt kk => XS.aloadN HH hx rfl (hb hby d_jdk_33_m_12_91) rfl rfl kk) ?_
          refine k_pure (g' := (mkF m 95 #[.val (.int i_414), .val (.int (Int32.ofNat q)), .val (.ref t), .val (.int i_414), .val (.int i_388), .val (.int ((Int32.ofNat (((q - 1) - 1) - 1)) + ((-1) : Int32))), .val (.int (0 : Int32))] [(.ref t)])) (fun TT HH tt kk => XS.iinc HH hx rfl (hb hby d_jdk_33_m_12_92) rfl (l' := #[.val (.int i_414), .val (.int (Int32.ofNat q)), .val (.ref t), .val (.int i_414), .val (.int i_388), .val (.int ((Int32.ofNat (((q - 1) - 1) - 1)) + ((-1) : Int32))), .val (.int (0 : Int32))]) rfl kk) ?_
          rw [dec_ofNat (by omega) (by omega)]
          show Run p l e _ s m _ below meth c Z EL1 _ n0 bk h_422 0 0 (mkF m 95 #[.val (.int i_414), .val (.int (Int32.ofNat q)), .val (.ref t), .val (.int i_414), .val (.int i_388), .val (.int (Int32.ofNat ((((q - 1) - 1) - 1) - 1))), .val (.int (0 : Int32))] [(.ref t)]) _
          refine k_pure (g' := (mkF m 97 #[.val (.int i_414), .val (.int (Int32.ofNat q)), .val (.ref t), .val (.int i_414), .val (.int i_388), .val (.int (Int32.ofNat ((((q - 1) - 1) - 1) - 1))), .val (.int (0 : Int32))] [(.int (Int32.ofNat ((((q - 1) - 1) - 1) - 1))), (.ref t)])) (fun TT HH tt kk => XS.iload HH hx rfl (hb hby d_jdk_33_m_12_95) rfl kk) ?_
          refine k_getS hx (host := "") (Or.inl (hw _ (List.mem_of_getElem? (i := 199) rfl))) Via.refl (s_d2.ext O_423.2) rfl (hb hby d_jdk_33_m_12_97) ?_
          show Run p l e _ s m _ below meth c Z EL1 _ n0 bk h_422 0 0 (mkF m 100 #[.val (.int i_414), .val (.int (Int32.ofNat q)), .val (.ref t), .val (.int i_414), .val (.int i_388), .val (.int (Int32.ofNat ((((q - 1) - 1) - 1) - 1))), .val (.int (0 : Int32))] [(.ref d2), (.int (Int32.ofNat ((((q - 1) - 1) - 1) - 1))), (.ref t)]) _
          refine k_pure (g' := (mkF m 101 #[.val (.int i_414), .val (.int (Int32.ofNat q)), .val (.ref t), .val (.int i_414), .val (.int i_388), .val (.int (Int32.ofNat ((((q - 1) - 1) - 1) - 1))), .val (.int (0 : Int32))] [(.int i_414), (.ref d2), (.int (Int32.ofNat ((((q - 1) - 1) - 1) - 1))), (.ref t)])) (fun TT HH tt kk => XS.iloadN HH hx rfl (hb hby d_jdk_33_m_12_100) rfl kk) ?_
          refine k_pure (g' := (mkF m 102 #[.val (.int i_414), .val (.int (Int32.ofNat q)), .val (.ref t), .val (.int i_414), .val (.int i_388), .val (.int (Int32.ofNat ((((q - 1) - 1) - 1) - 1))), .val (.int (0 : Int32))] [(.int (-i_414)), (.ref d2), (.int (Int32.ofNat ((((q - 1) - 1) - 1) - 1))), (.ref t)])) (fun TT HH tt kk => XS.ineg HH hx rfl (hb hby d_jdk_33_m_12_101) rfl kk) ?_
          have hr_433 : 0 ≤ ((-i_414)).toInt ∧ ((-i_414)).toInt ≤ 99 := (by have r0 : ((-100) : Int32).toInt = (-100) := (by decide); have r1 := rng32 i_414; have r2 : ((-9) : Int32).toInt = (-9) := (by decide); have r3 := c_ineg i_414; have r4 := rng32 (-i_414); have r5 := (Int32.lt_iff_toInt_lt.mp c_416); have r6 := (Int32.lt_iff_toInt_lt.mp c_431); have r7 := hb_415; omega)
          generalize (-i_414) = i_432 at hr_433 ⊢
          show Run p l e _ s m _ below meth c Z EL1 _ n0 bk h_422 0 0 (mkF m 102 #[.val (.int i_414), .val (.int (Int32.ofNat q)), .val (.ref t), .val (.int i_414), .val (.int i_388), .val (.int (Int32.ofNat ((((q - 1) - 1) - 1) - 1))), .val (.int (0 : Int32))] [(.int i_432), (.ref d2), (.int (Int32.ofNat ((((q - 1) - 1) - 1) - 1))), (.ref t)]) _
          have F_434 : Arv Z h_422 d2 kd2 .byte (100 : Int32) w2 (.int 0) := a_d2.ext O_423.2
          obtain ⟨x_435, hv_436⟩ := aget_int F_434 (i := (i_432).toNatClampNeg) (dig_lt hr_433)
          refine k_aget hx (v := (.int x_435)) F_434 (dig_in hr_433) hv_436 (Or.inr (Or.inr (Or.inr (Or.inl ⟨rfl, rfl⟩)))) rfl rfl (hb hby d_jdk_33_m_12_102) ?_
          show Run p l e _ s m _ below meth c Z EL1 _ n0 bk h_422 0 0 (mkF m 103 #[.val (.int i_414), .val (.int (Int32.ofNat q)), .val (.ref t), .val (.int i_414), .val (.int i_388), .val (.int (Int32.ofNat ((((q - 1) - 1) - 1) - 1))), .val (.int (0 : Int32))] [(.int x_435), (.int (Int32.ofNat ((((q - 1) - 1) - 1) - 1))), (.ref t)]) _
          refine k_stB hx V_430 (idx_ok (i := ((((q - 1) - 1) - 1) - 1)) (n := N) (by omega) (by omega)) (((((q - 1) - 1) - 1) - 1)) (clampN (by omega)) (Nat.lt_of_lt_of_le (show ((((q - 1) - 1) - 1) - 1) < N by omega) hl_429) (by omega) nbt rfl rfl (hb hby d_jdk_33_m_12_103) ?_
          intro h_437 O_438 W_439 A_440
          have z_441 := W_439.size
          have V_442 : Arv Z h_437 t kb .byte (Int32.ofNat N) (vs_428.set (((((q - 1) - 1) - 1) - 1)) (.int (nar .byte x_435))) (.int 0) := A_440
          show Run p l e _ s m _ below meth c Z EL1 _ n0 bk h_437 0 0 (mkF m 104 #[.val (.int i_414), .val (.int (Int32.ofNat q)), .val (.ref t), .val (.int i_414), .val (.int i_388), .val (.int (Int32.ofNat ((((q - 1) - 1) - 1) - 1))), .val (.int (0 : Int32))] []) _
          obtain ⟨vs_443, hl_444, V_445⟩ : ∃ ws : List Value, N ≤ ws.length ∧ Arv Z h_437 t kb .byte (Int32.ofNat N) ws (.int 0) := ⟨_, (by rw [List.length_set]; exact hl_429), V_442⟩
          refine k_pure (g' := (mkF m 106 #[.val (.int i_414), .val (.int (Int32.ofNat q)), .val (.ref t), .val (.int i_414), .val (.int i_388), .val (.int (Int32.ofNat ((((q - 1) - 1) - 1) - 1))), .val (.int (0 : Int32))] [(.int (0 : Int32))])) (fun TT HH tt kk => XS.iload HH hx rfl (hb hby d_jdk_33_m_12_104) rfl kk) ?_
          refine k_pure (g' := (mkF m 118 #[.val (.int i_414), .val (.int (Int32.ofNat q)), .val (.ref t), .val (.int i_414), .val (.int i_388), .val (.int (Int32.ofNat ((((q - 1) - 1) - 1) - 1))), .val (.int (0 : Int32))] [])) (fun TT HH tt kk => XS.ifYes HH hx rfl (pc0 := 106) (pc' := 118) rfl (hb hby d_jdk_33_m_12_106) rfl ((if0 _ _).trans (teq (by decide : ((0 : Int32) = (0 : Int32)))).1) (by decide) (by decide) kk) ?_
          refine k_pure (g' := (mkF m 120 #[.val (.int i_414), .val (.int (Int32.ofNat q)), .val (.ref t), .val (.int i_414), .val (.int i_388), .val (.int (Int32.ofNat ((((q - 1) - 1) - 1) - 1))), .val (.int (0 : Int32))] [(.int (Int32.ofNat ((((q - 1) - 1) - 1) - 1)))])) (fun TT HH tt kk => XS.iload HH hx rfl (hb hby d_jdk_33_m_12_118) rfl kk) ?_
          exact k_retI hx hlk hret (hb hby d_jdk_33_m_12_120) (by decide) (by decide) ⟨_, _, rfl, rfl, (((((Keep.refl _ _).wr W_395 (Or.inl (by simp))).wr W_407 (Or.inl (by simp))).wr W_424 (Or.inl (by simp))).wr W_439 (Or.inl (by simp))), V_445⟩
        · refine k_pure (g' := (mkF m 104 #[.val (.int i_414), .val (.int (Int32.ofNat q)), .val (.ref t), .val (.int i_414), .val (.int i_388), .val (.int (Int32.ofNat (((q - 1) - 1) - 1))), .val (.int (0 : Int32))] [])) (fun TT HH tt kk => XS.icmpYes HH hx rfl (pc0 := 88) (pc' := 104) rfl (hb hby d_jdk_33_m_12_88) rfl (flt c_431).2.1 (by decide) (by decide) kk) ?_
          refine k_pure (g' := (mkF m 106 #[.val (.int i_414), .val (.int (Int32.ofNat q)), .val (.ref t), .val (.int i_414), .val (.int i_388), .val (.int (Int32.ofNat (((q - 1) - 1) - 1))), .val (.int (0 : Int32))] [(.int (0 : Int32))])) (fun TT HH tt kk => XS.iload HH hx rfl (hb hby d_jdk_33_m_12_104) rfl kk) ?_
          refine k_pure (g' := (mkF m 118 #[.val (.int i_414), .val (.int (Int32.ofNat q)), .val (.ref t), .val (.int i_414), .val (.int i_388), .val (.int (Int32.ofNat (((q - 1) - 1) - 1))), .val (.int (0 : Int32))] [])) (fun TT HH tt kk => XS.ifYes HH hx rfl (pc0 := 106) (pc' := 118) rfl (hb hby d_jdk_33_m_12_106) rfl ((if0 _ _).trans (teq (by decide : ((0 : Int32) = (0 : Int32)))).1) (by decide) (by decide) kk) ?_
          refine k_pure (g' := (mkF m 120 #[.val (.int i_414), .val (.int (Int32.ofNat q)), .val (.ref t), .val (.int i_414), .val (.int i_388), .val (.int (Int32.ofNat (((q - 1) - 1) - 1))), .val (.int (0 : Int32))] [(.int (Int32.ofNat (((q - 1) - 1) - 1)))])) (fun TT HH tt kk => XS.iload HH hx rfl (hb hby d_jdk_33_m_12_118) rfl kk) ?_
          exact k_retI hx hlk hret (hb hby d_jdk_33_m_12_120) (by decide) (by decide) ⟨_, _, rfl, rfl, ((((Keep.refl _ _).wr W_395 (Or.inl (by simp))).wr W_407 (Or.inl (by simp))).wr W_424 (Or.inl (by simp))), V_430⟩
      · refine k_pure (g' := (mkF m 28 #[.val (.int i_414), .val (.int (Int32.ofNat q)), .val (.ref t), .val (.int i_414), .val (.int i_388), .val (.int (Int32.ofNat ((q - 1) - 1))), .val (.int (0 : Int32))] [])) (fun TT HH tt kk => XS.icmpNo HH hx rfl (hb hby d_jdk_33_m_12_25) rfl (flt c_416).2.2.1 kk) ?_
        refine k_pure (g' := (mkF m 29 #[.val (.int i_414), .val (.int (Int32.ofNat q)), .val (.ref t), .val (.int i_414), .val (.int i_388), .val (.int (Int32.ofNat ((q - 1) - 1))), .val (.int (0 : Int32))] [(.int i_414)])) (fun TT HH tt kk => XS.iloadN HH hx rfl (hb hby d_jdk_33_m_12_28) rfl kk) ?_
        refine k_pure (g' := (mkF m 31 #[.val (.int i_414), .val (.int (Int32.ofNat q)), .val (.ref t), .val (.int i_414), .val (.int i_388), .val (.int (Int32.ofNat ((q - 1) - 1))), .val (.int (0 : Int32))] [(.int (100 : Int32)), (.int i_414)])) (fun TT HH tt kk => XS.bipush HH hx rfl (hb hby d_jdk_33_m_12_29) kk) ?_
        refine k_pure (g' := (mkF m 32 #[.val (.int i_414), .val (.int (Int32.ofNat q)), .val (.ref t), .val (.int i_414), .val (.int i_388), .val (.int (Int32.ofNat ((q - 1) - 1))), .val (.int (0 : Int32))] [(.int (i_414 / (100 : Int32)))])) (fun TT HH tt kk => XS.idiv HH hx rfl (hb hby d_jdk_33_m_12_31) rfl (by decide) kk) ?_
        refine k_pure (g' := (mkF m 33 #[.val (.int i_414), .val (.int (Int32.ofNat q)), .val (.ref t), .val (.int (i_414 / (100 : Int32))), .val (.int i_388), .val (.int (Int32.ofNat ((q - 1) - 1))), .val (.int (0 : Int32))] [])) (fun TT HH tt kk => XS.istoreN HH hx rfl (hb hby d_jdk_33_m_12_32) rfl (l' := #[.val (.int i_414), .val (.int (Int32.ofNat q)), .val (.ref t), .val (.int (i_414 / (100 : Int32))), .val (.int i_388), .val (.int (Int32.ofNat ((q - 1) - 1))), .val (.int (0 : Int32))]) rfl kk) ?_
        refine k_pure (g' := (mkF m 34 #[.val (.int i_414), .val (.int (Int32.ofNat q)), .val (.ref t), .val (.int (i_414 / (100 : Int32))), .val (.int i_388), .val (.int (Int32.ofNat ((q - 1) - 1))), .val (.int (0 : Int32))] [(.int (i_414 / (100 : Int32)))])) (fun TT HH tt kk => XS.iloadN HH hx rfl (hb hby d_jdk_33_m_12_33) rfl kk) ?_
        refine k_pure (g' := (mkF m 36 #[.val (.int i_414), .val (.int (Int32.ofNat q)), .val (.ref t), .val (.int (i_414 / (100 : Int32))), .val (.int i_388), .val (.int (Int32.ofNat ((q - 1) - 1))), .val (.int (0 : Int32))] [(.int (100 : Int32)), (.int (i_414 / (100 : Int32)))])) (fun TT HH tt kk => XS.bipush HH hx rfl (hb hby d_jdk_33_m_12_34) kk) ?_
        refine k_pure (g' := (mkF m 37 #[.val (.int i_414), .val (.int (Int32.ofNat q)), .val (.ref t), .val (.int (i_414 / (100 : Int32))), .val (.int i_388), .val (.int (Int32.ofNat ((q - 1) - 1))), .val (.int (0 : Int32))] [(.int ((i_414 / (100 : Int32)) * (100 : Int32)))])) (fun TT HH tt kk => XS.imul HH hx rfl (hb hby d_jdk_33_m_12_36) rfl kk) ?_
        refine k_pure (g' := (mkF m 38 #[.val (.int i_414), .val (.int (Int32.ofNat q)), .val (.ref t), .val (.int (i_414 / (100 : Int32))), .val (.int i_388), .val (.int (Int32.ofNat ((q - 1) - 1))), .val (.int (0 : Int32))] [(.int i_414), (.int ((i_414 / (100 : Int32)) * (100 : Int32)))])) (fun TT HH tt kk => XS.iloadN HH hx rfl (hb hby d_jdk_33_m_12_37) rfl kk) ?_
        refine k_pure (g' := (mkF m 39 #[.val (.int i_414), .val (.int (Int32.ofNat q)), .val (.ref t), .val (.int (i_414 / (100 : Int32))), .val (.int i_388), .val (.int (Int32.ofNat ((q - 1) - 1))), .val (.int (0 : Int32))] [(.int (((i_414 / (100 : Int32)) * (100 : Int32)) - i_414))])) (fun TT HH tt kk => XS.isub HH hx rfl (hb hby d_jdk_33_m_12_38) rfl kk) ?_
        refine k_pure (g' := (mkF m 41 #[.val (.int i_414), .val (.int (Int32.ofNat q)), .val (.ref t), .val (.int (i_414 / (100 : Int32))), .val (.int (((i_414 / (100 : Int32)) * (100 : Int32)) - i_414)), .val (.int (Int32.ofNat ((q - 1) - 1))), .val (.int (0 : Int32))] [])) (fun TT HH tt kk => XS.istore HH hx rfl (hb hby d_jdk_33_m_12_39) rfl (l' := #[.val (.int i_414), .val (.int (Int32.ofNat q)), .val (.ref t), .val (.int (i_414 / (100 : Int32))), .val (.int (((i_414 / (100 : Int32)) * (100 : Int32)) - i_414)), .val (.int (Int32.ofNat ((q - 1) - 1))), .val (.int (0 : Int32))]) rfl kk) ?_
        refine k_pure (g' := (mkF m 42 #[.val (.int i_414), .val (.int (Int32.ofNat q)), .val (.ref t), .val (.int (i_414 / (100 : Int32))), .val (.int (((i_414 / (100 : Int32)) * (100 : Int32)) - i_414)), .val (.int (Int32.ofNat ((q - 1) - 1))), .val (.int (0 : Int32))] [(.int (i_414 / (100 : Int32)))])) (fun TT HH tt kk => XS.iloadN HH hx rfl (hb hby d_jdk_33_m_12_41) rfl kk) ?_
        refine k_pure (g' := (mkF m 43 #[.val (.int (i_414 / (100 : Int32))), .val (.int (Int32.ofNat q)), .val (.ref t), .val (.int (i_414 / (100 : Int32))), .val (.int (((i_414 / (100 : Int32)) * (100 : Int32)) - i_414)), .val (.int (Int32.ofNat ((q - 1) - 1))), .val (.int (0 : Int32))] [])) (fun TT HH tt kk => XS.istoreN HH hx rfl (hb hby d_jdk_33_m_12_42) rfl (l' := #[.val (.int (i_414 / (100 : Int32))), .val (.int (Int32.ofNat q)), .val (.ref t), .val (.int (i_414 / (100 : Int32))), .val (.int (((i_414 / (100 : Int32)) * (100 : Int32)) - i_414)), .val (.int (Int32.ofNat ((q - 1) - 1))), .val (.int (0 : Int32))]) rfl kk) ?_
        have hr_447 : 0 ≤ ((((i_414 / (100 : Int32)) * (100 : Int32)) - i_414)).toInt ∧ ((((i_414 / (100 : Int32)) * (100 : Int32)) - i_414)).toInt ≤ 99 := (by have r0 : ((-100) : Int32).toInt = (-100) := (by decide); have r1 := rng32 i_414; have r2 := c_idiv i_414 (100 : Int32) 100 (by decide) (by decide); have r3 := rng32 (i_414 / (100 : Int32)); have r4 := (by have q := c_imul (i_414 / (100 : Int32)) (100 : Int32); rw [show (100 : Int32).toInt = 100 from by decide] at q; exact q); have r5 := rng32 ((i_414 / (100 : Int32)) * (100 : Int32)); have r6 := c_isub ((i_414 / (100 : Int32)) * (100 : Int32)) i_414; have r7 := rng32 (((i_414 / (100 : Int32)) * (100 : Int32)) - i_414); have r8 : ¬ (((-100) : Int32)).toInt < (i_414).toInt := fun q => c_416 (Int32.lt_iff_toInt_lt.mpr q); have r9 := hb_415; omega)
        generalize (((i_414 / (100 : Int32)) * (100 : Int32)) - i_414) = i_446 at hr_447 ⊢
        show Run p l e _ s m _ below meth c Z EL1 _ n0 bk h_405 0 0 (mkF m 43 #[.val (.int (i_414 / (100 : Int32))), .val (.int (Int32.ofNat q)), .val (.ref t), .val (.int (i_414 / (100 : Int32))), .val (.int i_446), .val (.int (Int32.ofNat ((q - 1) - 1))), .val (.int (0 : Int32))] []) _
        refine k_pure (g' := (mkF m 44 #[.val (.int (i_414 / (100 : Int32))), .val (.int (Int32.ofNat q)), .val (.ref t), .val (.int (i_414 / (100 : Int32))), .val (.int i_446), .val (.int (Int32.ofNat ((q - 1) - 1))), .val (.int (0 : Int32))] [(.ref t)])) (fun TT HH tt kk => XS.aloadN HH hx rfl (hb hby d_jdk_33_m_12_43) rfl rfl kk) ?_
        refine k_pure (g' := (mkF m 47 #[.val (.int (i_414 / (100 : Int32))), .val (.int (Int32.ofNat q)), .val (.ref t), .val (.int (i_414 / (100 : Int32))), .val (.int i_446), .val (.int ((Int32.ofNat ((q - 1) - 1)) + ((-1) : Int32))), .val (.int (0 : Int32))] [(.ref t)])) (fun TT HH tt kk => XS.iinc HH hx rfl (hb hby d_jdk_33_m_12_44) rfl (l' := #[.val (.int (i_414 / (100 : Int32))), .val (.int (Int32.ofNat q)), .val (.ref t), .val (.int (i_414 / (100 : Int32))), .val (.int i_446), .val (.int ((Int32.ofNat ((q - 1) - 1)) + ((-1) : Int32))), .val (.int (0 : Int32))]) rfl kk) ?_
        rw [dec_ofNat (by omega) (by omega)]
        show Run p l e _ s m _ below meth c Z EL1 _ n0 bk h_405 0 0 (mkF m 47 #[.val (.int (i_414 / (100 : Int32))), .val (.int (Int32.ofNat q)), .val (.ref t), .val (.int (i_414 / (100 : Int32))), .val (.int i_446), .val (.int (Int32.ofNat (((q - 1) - 1) - 1))), .val (.int (0 : Int32))] [(.ref t)]) _
        refine k_pure (g' := (mkF m 49 #[.val (.int (i_414 / (100 : Int32))), .val (.int (Int32.ofNat q)), .val (.ref t), .val (.int (i_414 / (100 : Int32))), .val (.int i_446), .val (.int (Int32.ofNat (((q - 1) - 1) - 1))), .val (.int (0 : Int32))] [(.int (Int32.ofNat (((q - 1) - 1) - 1))), (.ref t)])) (fun TT HH tt kk => XS.iload HH hx rfl (hb hby d_jdk_33_m_12_47) rfl kk) ?_
        refine k_getS hx (host := "") (Or.inl (hw _ (List.mem_of_getElem? (i := 128) rfl))) Via.refl (s_d1.ext O_406.2) rfl (hb hby d_jdk_33_m_12_49) ?_
        show Run p l e _ s m _ below meth c Z EL1 _ n0 bk h_405 0 0 (mkF m 52 #[.val (.int (i_414 / (100 : Int32))), .val (.int (Int32.ofNat q)), .val (.ref t), .val (.int (i_414 / (100 : Int32))), .val (.int i_446), .val (.int (Int32.ofNat (((q - 1) - 1) - 1))), .val (.int (0 : Int32))] [(.ref d1), (.int (Int32.ofNat (((q - 1) - 1) - 1))), (.ref t)]) _
        refine k_pure (g' := (mkF m 54 #[.val (.int (i_414 / (100 : Int32))), .val (.int (Int32.ofNat q)), .val (.ref t), .val (.int (i_414 / (100 : Int32))), .val (.int i_446), .val (.int (Int32.ofNat (((q - 1) - 1) - 1))), .val (.int (0 : Int32))] [(.int i_446), (.ref d1), (.int (Int32.ofNat (((q - 1) - 1) - 1))), (.ref t)])) (fun TT HH tt kk => XS.iload HH hx rfl (hb hby d_jdk_33_m_12_52) rfl kk) ?_
        have F_448 : Arv Z h_405 d1 kd1 .byte (100 : Int32) w1 (.int 0) := a_d1.ext O_406.2
        obtain ⟨x_449, hv_450⟩ := aget_int F_448 (i := (i_446).toNatClampNeg) (dig_lt hr_447)
        refine k_aget hx (v := (.int x_449)) F_448 (dig_in hr_447) hv_450 (Or.inr (Or.inr (Or.inr (Or.inl ⟨rfl, rfl⟩)))) rfl rfl (hb hby d_jdk_33_m_12_54) ?_
        show Run p l e _ s m _ below meth c Z EL1 _ n0 bk h_405 0 0 (mkF m 55 #[.val (.int (i_414 / (100 : Int32))), .val (.int (Int32.ofNat q)), .val (.ref t), .val (.int (i_414 / (100 : Int32))), .val (.int i_446), .val (.int (Int32.ofNat (((q - 1) - 1) - 1))), .val (.int (0 : Int32))] [(.int x_449), (.int (Int32.ofNat (((q - 1) - 1) - 1))), (.ref t)]) _
        refine k_stB hx V_413 (idx_ok (i := (((q - 1) - 1) - 1)) (n := N) (by omega) (by omega)) ((((q - 1) - 1) - 1)) (clampN (by omega)) (Nat.lt_of_lt_of_le (show (((q - 1) - 1) - 1) < N by omega) hl_412) (by omega) nbt rfl rfl (hb hby d_jdk_33_m_12_55) ?_
        intro h_451 O_452 W_453 A_454
        have z_455 := W_453.size
        have V_456 : Arv Z h_451 t kb .byte (Int32.ofNat N) (vs_411.set ((((q - 1) - 1) - 1)) (.int (nar .byte x_449))) (.int 0) := A_454
        show Run p l e _ s m _ below meth c Z EL1 _ n0 bk h_451 0 0 (mkF m 56 #[.val (.int (i_414 / (100 : Int32))), .val (.int (Int32.ofNat q)), .val (.ref t), .val (.int (i_414 / (100 : Int32))), .val (.int i_446), .val (.int (Int32.ofNat (((q - 1) - 1) - 1))), .val (.int (0 : Int32))] []) _
        obtain ⟨vs_457, hl_458, V_459⟩ : ∃ ws : List Value, N ≤ ws.length ∧ Arv Z h_451 t kb .byte (Int32.ofNat N) ws (.int 0) := ⟨_, (by rw [List.length_set]; exact hl_412), V_456⟩
        refine k_pure (g' := (mkF m 57 #[.val (.int (i_414 / (100 : Int32))), .val (.int (Int32.ofNat q)), .val (.ref t), .val (.int (i_414 / (100 : Int32))), .val (.int i_446), .val (.int (Int32.ofNat (((q - 1) - 1) - 1))), .val (.int (0 : Int32))] [(.ref t)])) (fun TT HH tt kk => XS.aloadN HH hx rfl (hb hby d_jdk_33_m_12_56) rfl rfl kk) ?_
        refine k_pure (g' := (mkF m 60 #[.val (.int (i_414 / (100 : Int32))), .val (.int (Int32.ofNat q)), .val (.ref t), .val (.int (i_414 / (100 : Int32))), .val (.int i_446), .val (.int ((Int32.ofNat (((q - 1) - 1) - 1)) + ((-1) : Int32))), .val (.int (0 : Int32))] [(.ref t)])) (fun TT HH tt kk => XS.iinc HH hx rfl (hb hby d_jdk_33_m_12_57) rfl (l' := #[.val (.int (i_414 / (100 : Int32))), .val (.int (Int32.ofNat q)), .val (.ref t), .val (.int (i_414 / (100 : Int32))), .val (.int i_446), .val (.int ((Int32.ofNat (((q - 1) - 1) - 1)) + ((-1) : Int32))), .val (.int (0 : Int32))]) rfl kk) ?_
        rw [dec_ofNat (by omega) (by omega)]
        show Run p l e _ s m _ below meth c Z EL1 _ n0 bk h_451 0 0 (mkF m 60 #[.val (.int (i_414 / (100 : Int32))), .val (.int (Int32.ofNat q)), .val (.ref t), .val (.int (i_414 / (100 : Int32))), .val (.int i_446), .val (.int (Int32.ofNat ((((q - 1) - 1) - 1) - 1))), .val (.int (0 : Int32))] [(.ref t)]) _
        refine k_pure (g' := (mkF m 62 #[.val (.int (i_414 / (100 : Int32))), .val (.int (Int32.ofNat q)), .val (.ref t), .val (.int (i_414 / (100 : Int32))), .val (.int i_446), .val (.int (Int32.ofNat ((((q - 1) - 1) - 1) - 1))), .val (.int (0 : Int32))] [(.int (Int32.ofNat ((((q - 1) - 1) - 1) - 1))), (.ref t)])) (fun TT HH tt kk => XS.iload HH hx rfl (hb hby d_jdk_33_m_12_60) rfl kk) ?_
        refine k_getS hx (host := "") (Or.inl (hw _ (List.mem_of_getElem? (i := 199) rfl))) Via.refl (s_d2.ext O_452.2) rfl (hb hby d_jdk_33_m_12_62) ?_
        show Run p l e _ s m _ below meth c Z EL1 _ n0 bk h_451 0 0 (mkF m 65 #[.val (.int (i_414 / (100 : Int32))), .val (.int (Int32.ofNat q)), .val (.ref t), .val (.int (i_414 / (100 : Int32))), .val (.int i_446), .val (.int (Int32.ofNat ((((q - 1) - 1) - 1) - 1))), .val (.int (0 : Int32))] [(.ref d2), (.int (Int32.ofNat ((((q - 1) - 1) - 1) - 1))), (.ref t)]) _
        refine k_pure (g' := (mkF m 67 #[.val (.int (i_414 / (100 : Int32))), .val (.int (Int32.ofNat q)), .val (.ref t), .val (.int (i_414 / (100 : Int32))), .val (.int i_446), .val (.int (Int32.ofNat ((((q - 1) - 1) - 1) - 1))), .val (.int (0 : Int32))] [(.int i_446), (.ref d2), (.int (Int32.ofNat ((((q - 1) - 1) - 1) - 1))), (.ref t)])) (fun TT HH tt kk => XS.iload HH hx rfl (hb hby d_jdk_33_m_12_65) rfl kk) ?_
        have F_460 : Arv Z h_451 d2 kd2 .byte (100 : Int32) w2 (.int 0) := a_d2.ext O_452.2
        obtain ⟨x_461, hv_462⟩ := aget_int F_460 (i := (i_446).toNatClampNeg) (dig_lt hr_447)
        refine k_aget hx (v := (.int x_461)) F_460 (dig_in hr_447) hv_462 (Or.inr (Or.inr (Or.inr (Or.inl ⟨rfl, rfl⟩)))) rfl rfl (hb hby d_jdk_33_m_12_67) ?_
        show Run p l e _ s m _ below meth c Z EL1 _ n0 bk h_451 0 0 (mkF m 68 #[.val (.int (i_414 / (100 : Int32))), .val (.int (Int32.ofNat q)), .val (.ref t), .val (.int (i_414 / (100 : Int32))), .val (.int i_446), .val (.int (Int32.ofNat ((((q - 1) - 1) - 1) - 1))), .val (.int (0 : Int32))] [(.int x_461), (.int (Int32.ofNat ((((q - 1) - 1) - 1) - 1))), (.ref t)]) _
        refine k_stB hx V_459 (idx_ok (i := ((((q - 1) - 1) - 1) - 1)) (n := N) (by omega) (by omega)) (((((q - 1) - 1) - 1) - 1)) (clampN (by omega)) (Nat.lt_of_lt_of_le (show ((((q - 1) - 1) - 1) - 1) < N by omega) hl_458) (by omega) nbt rfl rfl (hb hby d_jdk_33_m_12_68) ?_
        intro h_463 O_464 W_465 A_466
        have z_467 := W_465.size
        have V_468 : Arv Z h_463 t kb .byte (Int32.ofNat N) (vs_457.set (((((q - 1) - 1) - 1) - 1)) (.int (nar .byte x_461))) (.int 0) := A_466
        show Run p l e _ s m _ below meth c Z EL1 _ n0 bk h_463 0 0 (mkF m 69 #[.val (.int (i_414 / (100 : Int32))), .val (.int (Int32.ofNat q)), .val (.ref t), .val (.int (i_414 / (100 : Int32))), .val (.int i_446), .val (.int (Int32.ofNat ((((q - 1) - 1) - 1) - 1))), .val (.int (0 : Int32))] []) _
        obtain ⟨vs_469, hl_470, V_471⟩ : ∃ ws : List Value, N ≤ ws.length ∧ Arv Z h_463 t kb .byte (Int32.ofNat N) ws (.int 0) := ⟨_, (by rw [List.length_set]; exact hl_458), V_468⟩
        refine k_pure (g' := (mkF m 22 #[.val (.int (i_414 / (100 : Int32))), .val (.int (Int32.ofNat q)), .val (.ref t), .val (.int (i_414 / (100 : Int32))), .val (.int i_446), .val (.int (Int32.ofNat ((((q - 1) - 1) - 1) - 1))), .val (.int (0 : Int32))] [])) (fun TT HH tt kk => XS.goto HH hx rfl (pc0 := 69) (pc' := 22) rfl (hb hby d_jdk_33_m_12_69) (by decide) (by decide) kk) ?_
        have hb_473 : -214748 ≤ ((i_414 / (100 : Int32))).toInt ∧ ((i_414 / (100 : Int32))).toInt ≤ 0 := (by have r0 : ((-100) : Int32).toInt = (-100) := (by decide); have r1 := rng32 i_414; have r2 := c_idiv i_414 (100 : Int32) 100 (by decide) (by decide); have r3 := rng32 (i_414 / (100 : Int32)); have r4 : ¬ (((-100) : Int32)).toInt < (i_414).toInt := fun q => c_416 (Int32.lt_iff_toInt_lt.mpr q); have r5 := hb_415; omega)
        generalize (i_414 / (100 : Int32)) = i_472 at hb_473 ⊢
        show Run p l e _ s m _ below meth c Z EL1 _ n0 bk h_463 0 0 (mkF m 22 #[.val (.int i_472), .val (.int (Int32.ofNat q)), .val (.ref t), .val (.int i_472), .val (.int i_446), .val (.int (Int32.ofNat ((((q - 1) - 1) - 1) - 1))), .val (.int (0 : Int32))] []) _
        refine k_pure (g' := (mkF m 23 #[.val (.int i_472), .val (.int (Int32.ofNat q)), .val (.ref t), .val (.int i_472), .val (.int i_446), .val (.int (Int32.ofNat ((((q - 1) - 1) - 1) - 1))), .val (.int (0 : Int32))] [(.int i_472)])) (fun TT HH tt kk => XS.iloadN HH hx rfl (hb hby d_jdk_33_m_12_22) rfl kk) ?_
        refine k_pure (g' := (mkF m 25 #[.val (.int i_472), .val (.int (Int32.ofNat q)), .val (.ref t), .val (.int i_472), .val (.int i_446), .val (.int (Int32.ofNat ((((q - 1) - 1) - 1) - 1))), .val (.int (0 : Int32))] [(.int ((-100) : Int32)), (.int i_472)])) (fun TT HH tt kk => XS.bipush HH hx rfl (hb hby d_jdk_33_m_12_23) kk) ?_
        by_cases c_474 : ((-100) : Int32) < i_472
        · refine k_pure (g' := (mkF m 72 #[.val (.int i_472), .val (.int (Int32.ofNat q)), .val (.ref t), .val (.int i_472), .val (.int i_446), .val (.int (Int32.ofNat ((((q - 1) - 1) - 1) - 1))), .val (.int (0 : Int32))] [])) (fun TT HH tt kk => XS.icmpYes HH hx rfl (pc0 := 25) (pc' := 72) rfl (hb hby d_jdk_33_m_12_25) rfl (tlt c_474).2.2.1 (by decide) (by decide) kk) ?_
          refine k_pure (g' := (mkF m 73 #[.val (.int i_472), .val (.int (Int32.ofNat q)), .val (.ref t), .val (.int i_472), .val (.int i_446), .val (.int (Int32.ofNat ((((q - 1) - 1) - 1) - 1))), .val (.int (0 : Int32))] [(.ref t)])) (fun TT HH tt kk => XS.aloadN HH hx rfl (hb hby d_jdk_33_m_12_72) rfl rfl kk) ?_
          refine k_pure (g' := (mkF m 76 #[.val (.int i_472), .val (.int (Int32.ofNat q)), .val (.ref t), .val (.int i_472), .val (.int i_446), .val (.int ((Int32.ofNat ((((q - 1) - 1) - 1) - 1)) + ((-1) : Int32))), .val (.int (0 : Int32))] [(.ref t)])) (fun TT HH tt kk => XS.iinc HH hx rfl (hb hby d_jdk_33_m_12_73) rfl (l' := #[.val (.int i_472), .val (.int (Int32.ofNat q)), .val (.ref t), .val (.int i_472), .val (.int i_446), .val (.int ((Int32.ofNat ((((q - 1) - 1) - 1) - 1)) + ((-1) : Int32))), .val (.int (0 : Int32))]) rfl kk) ?_
          rw [dec_ofNat (by omega) (by omega)]
          show Run p l e _ s m _ below meth c Z EL1 _ n0 bk h_463 0 0 (mkF m 76 #[.val (.int i_472), .val (.int (Int32.ofNat q)), .val (.ref t), .val (.int i_472), .val (.int i_446), .val (.int (Int32.ofNat (((((q - 1) - 1) - 1) - 1) - 1))), .val (.int (0 : Int32))] [(.ref t)]) _
          refine k_pure (g' := (mkF m 78 #[.val (.int i_472), .val (.int (Int32.ofNat q)), .val (.ref t), .val (.int i_472), .val (.int i_446), .val (.int (Int32.ofNat (((((q - 1) - 1) - 1) - 1) - 1))), .val (.int (0 : Int32))] [(.int (Int32.ofNat (((((q - 1) - 1) - 1) - 1) - 1))), (.ref t)])) (fun TT HH tt kk => XS.iload HH hx rfl (hb hby d_jdk_33_m_12_76) rfl kk) ?_
          refine k_getS hx (host := "") (Or.inl (hw _ (List.mem_of_getElem? (i := 128) rfl))) Via.refl (s_d1.ext O_464.2) rfl (hb hby d_jdk_33_m_12_78) ?_
          show Run p l e _ s m _ below meth c Z EL1 _ n0 bk h_463 0 0 (mkF m 81 #[.val (.int i_472), .val (.int (Int32.ofNat q)), .val (.ref t), .val (.int i_472), .val (.int i_446), .val (.int (Int32.ofNat (((((q - 1) - 1) - 1) - 1) - 1))), .val (.int (0 : Int32))] [(.ref d1), (.int (Int32.ofNat (((((q - 1) - 1) - 1) - 1) - 1))), (.ref t)]) _
          refine k_pure (g' := (mkF m 82 #[.val (.int i_472), .val (.int (Int32.ofNat q)), .val (.ref t), .val (.int i_472), .val (.int i_446), .val (.int (Int32.ofNat (((((q - 1) - 1) - 1) - 1) - 1))), .val (.int (0 : Int32))] [(.int i_472), (.ref d1), (.int (Int32.ofNat (((((q - 1) - 1) - 1) - 1) - 1))), (.ref t)])) (fun TT HH tt kk => XS.iloadN HH hx rfl (hb hby d_jdk_33_m_12_81) rfl kk) ?_
          refine k_pure (g' := (mkF m 83 #[.val (.int i_472), .val (.int (Int32.ofNat q)), .val (.ref t), .val (.int i_472), .val (.int i_446), .val (.int (Int32.ofNat (((((q - 1) - 1) - 1) - 1) - 1))), .val (.int (0 : Int32))] [(.int (-i_472)), (.ref d1), (.int (Int32.ofNat (((((q - 1) - 1) - 1) - 1) - 1))), (.ref t)])) (fun TT HH tt kk => XS.ineg HH hx rfl (hb hby d_jdk_33_m_12_82) rfl kk) ?_
          have hr_476 : 0 ≤ ((-i_472)).toInt ∧ ((-i_472)).toInt ≤ 99 := (by have r0 : ((-100) : Int32).toInt = (-100) := (by decide); have r1 := rng32 i_472; have r2 := c_ineg i_472; have r3 := rng32 (-i_472); have r4 := (Int32.lt_iff_toInt_lt.mp c_474); have r5 := hb_473; omega)
          generalize (-i_472) = i_475 at hr_476 ⊢
          show Run p l e _ s m _ below meth c Z EL1 _ n0 bk h_463 0 0 (mkF m 83 #[.val (.int i_472), .val (.int (Int32.ofNat q)), .val (.ref t), .val (.int i_472), .val (.int i_446), .val (.int (Int32.ofNat (((((q - 1) - 1) - 1) - 1) - 1))), .val (.int (0 : Int32))] [(.int i_475), (.ref d1), (.int (Int32.ofNat (((((q - 1) - 1) - 1) - 1) - 1))), (.ref t)]) _
          have F_477 : Arv Z h_463 d1 kd1 .byte (100 : Int32) w1 (.int 0) := a_d1.ext O_464.2
          obtain ⟨x_478, hv_479⟩ := aget_int F_477 (i := (i_475).toNatClampNeg) (dig_lt hr_476)
          refine k_aget hx (v := (.int x_478)) F_477 (dig_in hr_476) hv_479 (Or.inr (Or.inr (Or.inr (Or.inl ⟨rfl, rfl⟩)))) rfl rfl (hb hby d_jdk_33_m_12_83) ?_
          show Run p l e _ s m _ below meth c Z EL1 _ n0 bk h_463 0 0 (mkF m 84 #[.val (.int i_472), .val (.int (Int32.ofNat q)), .val (.ref t), .val (.int i_472), .val (.int i_446), .val (.int (Int32.ofNat (((((q - 1) - 1) - 1) - 1) - 1))), .val (.int (0 : Int32))] [(.int x_478), (.int (Int32.ofNat (((((q - 1) - 1) - 1) - 1) - 1))), (.ref t)]) _
          refine k_stB hx V_471 (idx_ok (i := (((((q - 1) - 1) - 1) - 1) - 1)) (n := N) (by omega) (by omega)) ((((((q - 1) - 1) - 1) - 1) - 1)) (clampN (by omega)) (Nat.lt_of_lt_of_le (show (((((q - 1) - 1) - 1) - 1) - 1) < N by omega) hl_470) (by omega) nbt rfl rfl (hb hby d_jdk_33_m_12_84) ?_
          intro h_480 O_481 W_482 A_483
          have z_484 := W_482.size
          have V_485 : Arv Z h_480 t kb .byte (Int32.ofNat N) (vs_469.set ((((((q - 1) - 1) - 1) - 1) - 1)) (.int (nar .byte x_478))) (.int 0) := A_483
          show Run p l e _ s m _ below meth c Z EL1 _ n0 bk h_480 0 0 (mkF m 85 #[.val (.int i_472), .val (.int (Int32.ofNat q)), .val (.ref t), .val (.int i_472), .val (.int i_446), .val (.int (Int32.ofNat (((((q - 1) - 1) - 1) - 1) - 1))), .val (.int (0 : Int32))] []) _
          obtain ⟨vs_486, hl_487, V_488⟩ : ∃ ws : List Value, N ≤ ws.length ∧ Arv Z h_480 t kb .byte (Int32.ofNat N) ws (.int 0) := ⟨_, (by rw [List.length_set]; exact hl_470), V_485⟩
          refine k_pure (g' := (mkF m 86 #[.val (.int i_472), .val (.int (Int32.ofNat q)), .val (.ref t), .val (.int i_472), .val (.int i_446), .val (.int (Int32.ofNat (((((q - 1) - 1) - 1) - 1) - 1))), .val (.int (0 : Int32))] [(.int i_472)])) (fun TT HH tt kk => XS.iloadN HH hx rfl (hb hby d_jdk_33_m_12_85) rfl kk) ?_
          refine k_pure (g' := (mkF m 88 #[.val (.int i_472), .val (.int (Int32.ofNat q)), .val (.ref t), .val (.int i_472), .val (.int i_446), .val (.int (Int32.ofNat (((((q - 1) - 1) - 1) - 1) - 1))), .val (.int (0 : Int32))] [(.int ((-9) : Int32)), (.int i_472)])) (fun TT HH tt kk => XS.bipush HH hx rfl (hb hby d_jdk_33_m_12_86) kk) ?_
          by_cases c_489 : i_472 < ((-9) : Int32)
          · refine k_pure (g' := (mkF m 91 #[.val (.int i_472), .val (.int (Int32.ofNat q)), .val (.ref t), .val (.int i_472), .val (.int i_446), .val (.int (Int32.ofNat (((((q - 1) - 1) - 1) - 1) - 1))), .val (.int (0 : Int32))] [])) (fun TT HH tt kk => XS.icmpNo HH hx rfl (hb hby d_jdk_33_m_12_88) rfl (tlt c_489).2.1 kk) ?_
            refine k_pure (g' := (mkF m 92 #[.val (.int i_472), .val (.int (Int32.ofNat q)), .val (.ref t), .val (.int i_472), .val (.int i_446), .val (.int (Int32.ofNat (((((q - 1) - 1) - 1) - 1) - 1))), .val (.int (0 : Int32))] [(.ref t)])) (fun TT HH tt kk => XS.aloadN HH hx rfl (hb hby d_jdk_33_m_12_91) rfl rfl kk) ?_
            refine k_pure (g' := (mkF m 95 #[.val (.int i_472), .val (.int (Int32.ofNat q)), .val (.ref t), .val (.int i_472), .val (.int i_446), .val (.int ((Int32.ofNat (((((q - 1) - 1) - 1) - 1) - 1)) + ((-1) : Int32))), .val (.int (0 : Int32))] [(.ref t)])) (fun TT HH tt kk => XS.iinc HH hx rfl (hb hby d_jdk_33_m_12_92) rfl (l' := #[.val (.int i_472), .val (.int (Int32.ofNat q)), .val (.ref t), .val (.int i_472), .val (.int i_446), .val (.int ((Int32.ofNat (((((q - 1) - 1) - 1) - 1) - 1)) + ((-1) : Int32))), .val (.int (0 : Int32))]) rfl kk) ?_
            rw [dec_ofNat (by omega) (by omega)]
            show Run p l e _ s m _ below meth c Z EL1 _ n0 bk h_480 0 0 (mkF m 95 #[.val (.int i_472), .val (.int (Int32.ofNat q)), .val (.ref t), .val (.int i_472), .val (.int i_446), .val (.int (Int32.ofNat ((((((q - 1) - 1) - 1) - 1) - 1) - 1))), .val (.int (0 : Int32))] [(.ref t)]) _
            refine k_pure (g' := (mkF m 97 #[.val (.int i_472), .val (.int (Int32.ofNat q)), .val (.ref t), .val (.int i_472), .val (.int i_446), .val (.int (Int32.ofNat ((((((q - 1) - 1) - 1) - 1) - 1) - 1))), .val (.int (0 : Int32))] [(.int (Int32.ofNat ((((((q - 1) - 1) - 1) - 1) - 1) - 1))), (.ref t)])) (fun TT HH tt kk => XS.iload HH hx rfl (hb hby d_jdk_33_m_12_95) rfl kk) ?_
            refine k_getS hx (host := "") (Or.inl (hw _ (List.mem_of_getElem? (i := 199) rfl))) Via.refl (s_d2.ext O_481.2) rfl (hb hby d_jdk_33_m_12_97) ?_
            show Run p l e _ s m _ below meth c Z EL1 _ n0 bk h_480 0 0 (mkF m 100 #[.val (.int i_472), .val (.int (Int32.ofNat q)), .val (.ref t), .val (.int i_472), .val (.int i_446), .val (.int (Int32.ofNat ((((((q - 1) - 1) - 1) - 1) - 1) - 1))), .val (.int (0 : Int32))] [(.ref d2), (.int (Int32.ofNat ((((((q - 1) - 1) - 1) - 1) - 1) - 1))), (.ref t)]) _
            refine k_pure (g' := (mkF m 101 #[.val (.int i_472), .val (.int (Int32.ofNat q)), .val (.ref t), .val (.int i_472), .val (.int i_446), .val (.int (Int32.ofNat ((((((q - 1) - 1) - 1) - 1) - 1) - 1))), .val (.int (0 : Int32))] [(.int i_472), (.ref d2), (.int (Int32.ofNat ((((((q - 1) - 1) - 1) - 1) - 1) - 1))), (.ref t)])) (fun TT HH tt kk => XS.iloadN HH hx rfl (hb hby d_jdk_33_m_12_100) rfl kk) ?_
            refine k_pure (g' := (mkF m 102 #[.val (.int i_472), .val (.int (Int32.ofNat q)), .val (.ref t), .val (.int i_472), .val (.int i_446), .val (.int (Int32.ofNat ((((((q - 1) - 1) - 1) - 1) - 1) - 1))), .val (.int (0 : Int32))] [(.int (-i_472)), (.ref d2), (.int (Int32.ofNat ((((((q - 1) - 1) - 1) - 1) - 1) - 1))), (.ref t)])) (fun TT HH tt kk => XS.ineg HH hx rfl (hb hby d_jdk_33_m_12_101) rfl kk) ?_
            have hr_491 : 0 ≤ ((-i_472)).toInt ∧ ((-i_472)).toInt ≤ 99 := (by have r0 : ((-100) : Int32).toInt = (-100) := (by decide); have r1 := rng32 i_472; have r2 : ((-9) : Int32).toInt = (-9) := (by decide); have r3 := c_ineg i_472; have r4 := rng32 (-i_472); have r5 := (Int32.lt_iff_toInt_lt.mp c_474); have r6 := (Int32.lt_iff_toInt_lt.mp c_489); have r7 := hb_473; omega)
            generalize (-i_472) = i_490 at hr_491 ⊢
            show Run p l e _ s m _ below meth c Z EL1 _ n0 bk h_480 0 0 (mkF m 102 #[.val (.int i_472), .val (.int (Int32.ofNat q)), .val (.ref t), .val (.int i_472), .val (.int i_446), .val (.int (Int32.ofNat ((((((q - 1) - 1) - 1) - 1) - 1) - 1))), .val (.int (0 : Int32))] [(.int i_490), (.ref d2), (.int (Int32.ofNat ((((((q - 1) - 1) - 1) - 1) - 1) - 1))), (.ref t)]) _
            have F_492 : Arv Z h_480 d2 kd2 .byte (100 : Int32) w2 (.int 0) := a_d2.ext O_481.2
            obtain ⟨x_493, hv_494⟩ := aget_int F_492 (i := (i_490).toNatClampNeg) (dig_lt hr_491)
            refine k_aget hx (v := (.int x_493)) F_492 (dig_in hr_491) hv_494 (Or.inr (Or.inr (Or.inr (Or.inl ⟨rfl, rfl⟩)))) rfl rfl (hb hby d_jdk_33_m_12_102) ?_
            show Run p l e _ s m _ below meth c Z EL1 _ n0 bk h_480 0 0 (mkF m 103 #[.val (.int i_472), .val (.int (Int32.ofNat q)), .val (.ref t), .val (.int i_472), .val (.int i_446), .val (.int (Int32.ofNat ((((((q - 1) - 1) - 1) - 1) - 1) - 1))), .val (.int (0 : Int32))] [(.int x_493), (.int (Int32.ofNat ((((((q - 1) - 1) - 1) - 1) - 1) - 1))), (.ref t)]) _
            refine k_stB hx V_488 (idx_ok (i := ((((((q - 1) - 1) - 1) - 1) - 1) - 1)) (n := N) (by omega) (by omega)) (((((((q - 1) - 1) - 1) - 1) - 1) - 1)) (clampN (by omega)) (Nat.lt_of_lt_of_le (show ((((((q - 1) - 1) - 1) - 1) - 1) - 1) < N by omega) hl_487) (by omega) nbt rfl rfl (hb hby d_jdk_33_m_12_103) ?_
            intro h_495 O_496 W_497 A_498
            have z_499 := W_497.size
            have V_500 : Arv Z h_495 t kb .byte (Int32.ofNat N) (vs_486.set (((((((q - 1) - 1) - 1) - 1) - 1) - 1)) (.int (nar .byte x_493))) (.int 0) := A_498
            show Run p l e _ s m _ below meth c Z EL1 _ n0 bk h_495 0 0 (mkF m 104 #[.val (.int i_472), .val (.int (Int32.ofNat q)), .val (.ref t), .val (.int i_472), .val (.int i_446), .val (.int (Int32.ofNat ((((((q - 1) - 1) - 1) - 1) - 1) - 1))), .val (.int (0 : Int32))] []) _
            obtain ⟨vs_501, hl_502, V_503⟩ : ∃ ws : List Value, N ≤ ws.length ∧ Arv Z h_495 t kb .byte (Int32.ofNat N) ws (.int 0) := ⟨_, (by rw [List.length_set]; exact hl_487), V_500⟩
            refine k_pure (g' := (mkF m 106 #[.val (.int i_472), .val (.int (Int32.ofNat q)), .val (.ref t), .val (.int i_472), .val (.int i_446), .val (.int (Int32.ofNat ((((((q - 1) - 1) - 1) - 1) - 1) - 1))), .val (.int (0 : Int32))] [(.int (0 : Int32))])) (fun TT HH tt kk => XS.iload HH hx rfl (hb hby d_jdk_33_m_12_104) rfl kk) ?_
            refine k_pure (g' := (mkF m 118 #[.val (.int i_472), .val (.int (Int32.ofNat q)), .val (.ref t), .val (.int i_472), .val (.int i_446), .val (.int (Int32.ofNat ((((((q - 1) - 1) - 1) - 1) - 1) - 1))), .val (.int (0 : Int32))] [])) (fun TT HH tt kk => XS.ifYes HH hx rfl (pc0 := 106) (pc' := 118) rfl (hb hby d_jdk_33_m_12_106) rfl ((if0 _ _).trans (teq (by decide : ((0 : Int32) = (0 : Int32)))).1) (by decide) (by decide) kk) ?_
            refine k_pure (g' := (mkF m 120 #[.val (.int i_472), .val (.int (Int32.ofNat q)), .val (.ref t), .val (.int i_472), .val (.int i_446), .val (.int (Int32.ofNat ((((((q - 1) - 1) - 1) - 1) - 1) - 1))), .val (.int (0 : Int32))] [(.int (Int32.ofNat ((((((q - 1) - 1) - 1) - 1) - 1) - 1)))])) (fun TT HH tt kk => XS.iload HH hx rfl (hb hby d_jdk_33_m_12_118) rfl kk) ?_
            exact k_retI hx hlk hret (hb hby d_jdk_33_m_12_120) (by decide) (by decide) ⟨_, _, rfl, rfl, (((((((Keep.refl _ _).wr W_395 (Or.inl (by simp))).wr W_407 (Or.inl (by simp))).wr W_453 (Or.inl (by simp))).wr W_465 (Or.inl (by simp))).wr W_482 (Or.inl (by simp))).wr W_497 (Or.inl (by simp))), V_503⟩
          · refine k_pure (g' := (mkF m 104 #[.val (.int i_472), .val (.int (Int32.ofNat q)), .val (.ref t), .val (.int i_472), .val (.int i_446), .val (.int (Int32.ofNat (((((q - 1) - 1) - 1) - 1) - 1))), .val (.int (0 : Int32))] [])) (fun TT HH tt kk => XS.icmpYes HH hx rfl (pc0 := 88) (pc' := 104) rfl (hb hby d_jdk_33_m_12_88) rfl (flt c_489).2.1 (by decide) (by decide) kk) ?_
            refine k_pure (g' := (mkF m 106 #[.val (.int i_472), .val (.int (Int32.ofNat q)), .val (.ref t), .val (.int i_472), .val (.int i_446), .val (.int (Int32.ofNat (((((q - 1) - 1) - 1) - 1) - 1))), .val (.int (0 : Int32))] [(.int (0 : Int32))])) (fun TT HH tt kk => XS.iload HH hx rfl (hb hby d_jdk_33_m_12_104) rfl kk) ?_
            refine k_pure (g' := (mkF m 118 #[.val (.int i_472), .val (.int (Int32.ofNat q)), .val (.ref t), .val (.int i_472), .val (.int i_446), .val (.int (Int32.ofNat (((((q - 1) - 1) - 1) - 1) - 1))), .val (.int (0 : Int32))] [])) (fun TT HH tt kk => XS.ifYes HH hx rfl (pc0 := 106) (pc' := 118) rfl (hb hby d_jdk_33_m_12_106) rfl ((if0 _ _).trans (teq (by decide : ((0 : Int32) = (0 : Int32)))).1) (by decide) (by decide) kk) ?_
            refine k_pure (g' := (mkF m 120 #[.val (.int i_472), .val (.int (Int32.ofNat q)), .val (.ref t), .val (.int i_472), .val (.int i_446), .val (.int (Int32.ofNat (((((q - 1) - 1) - 1) - 1) - 1))), .val (.int (0 : Int32))] [(.int (Int32.ofNat (((((q - 1) - 1) - 1) - 1) - 1)))])) (fun TT HH tt kk => XS.iload HH hx rfl (hb hby d_jdk_33_m_12_118) rfl kk) ?_
            exact k_retI hx hlk hret (hb hby d_jdk_33_m_12_120) (by decide) (by decide) ⟨_, _, rfl, rfl, ((((((Keep.refl _ _).wr W_395 (Or.inl (by simp))).wr W_407 (Or.inl (by simp))).wr W_453 (Or.inl (by simp))).wr W_465 (Or.inl (by simp))).wr W_482 (Or.inl (by simp))), V_488⟩
        · refine k_pure (g' := (mkF m 28 #[.val (.int i_472), .val (.int (Int32.ofNat q)), .val (.ref t), .val (.int i_472), .val (.int i_446), .val (.int (Int32.ofNat ((((q - 1) - 1) - 1) - 1))), .val (.int (0 : Int32))] [])) (fun TT HH tt kk => XS.icmpNo HH hx rfl (hb hby d_jdk_33_m_12_25) rfl (flt c_474).2.2.1 kk) ?_
          refine k_pure (g' := (mkF m 29 #[.val (.int i_472), .val (.int (Int32.ofNat q)), .val (.ref t), .val (.int i_472), .val (.int i_446), .val (.int (Int32.ofNat ((((q - 1) - 1) - 1) - 1))), .val (.int (0 : Int32))] [(.int i_472)])) (fun TT HH tt kk => XS.iloadN HH hx rfl (hb hby d_jdk_33_m_12_28) rfl kk) ?_
          refine k_pure (g' := (mkF m 31 #[.val (.int i_472), .val (.int (Int32.ofNat q)), .val (.ref t), .val (.int i_472), .val (.int i_446), .val (.int (Int32.ofNat ((((q - 1) - 1) - 1) - 1))), .val (.int (0 : Int32))] [(.int (100 : Int32)), (.int i_472)])) (fun TT HH tt kk => XS.bipush HH hx rfl (hb hby d_jdk_33_m_12_29) kk) ?_
          refine k_pure (g' := (mkF m 32 #[.val (.int i_472), .val (.int (Int32.ofNat q)), .val (.ref t), .val (.int i_472), .val (.int i_446), .val (.int (Int32.ofNat ((((q - 1) - 1) - 1) - 1))), .val (.int (0 : Int32))] [(.int (i_472 / (100 : Int32)))])) (fun TT HH tt kk => XS.idiv HH hx rfl (hb hby d_jdk_33_m_12_31) rfl (by decide) kk) ?_
          refine k_pure (g' := (mkF m 33 #[.val (.int i_472), .val (.int (Int32.ofNat q)), .val (.ref t), .val (.int (i_472 / (100 : Int32))), .val (.int i_446), .val (.int (Int32.ofNat ((((q - 1) - 1) - 1) - 1))), .val (.int (0 : Int32))] [])) (fun TT HH tt kk => XS.istoreN HH hx rfl (hb hby d_jdk_33_m_12_32) rfl (l' := #[.val (.int i_472), .val (.int (Int32.ofNat q)), .val (.ref t), .val (.int (i_472 / (100 : Int32))), .val (.int i_446), .val (.int (Int32.ofNat ((((q - 1) - 1) - 1) - 1))), .val (.int (0 : Int32))]) rfl kk) ?_
          refine k_pure (g' := (mkF m 34 #[.val (.int i_472), .val (.int (Int32.ofNat q)), .val (.ref t), .val (.int (i_472 / (100 : Int32))), .val (.int i_446), .val (.int (Int32.ofNat ((((q - 1) - 1) - 1) - 1))), .val (.int (0 : Int32))] [(.int (i_472 / (100 : Int32)))])) (fun TT HH tt kk => XS.iloadN HH hx rfl (hb hby d_jdk_33_m_12_33) rfl kk) ?_
          refine k_pure (g' := (mkF m 36 #[.val (.int i_472), .val (.int (Int32.ofNat q)), .val (.ref t), .val (.int (i_472 / (100 : Int32))), .val (.int i_446), .val (.int (Int32.ofNat ((((q - 1) - 1) - 1) - 1))), .val (.int (0 : Int32))] [(.int (100 : Int32)), (.int (i_472 / (100 : Int32)))])) (fun TT HH tt kk => XS.bipush HH hx rfl (hb hby d_jdk_33_m_12_34) kk) ?_
          refine k_pure (g' := (mkF m 37 #[.val (.int i_472), .val (.int (Int32.ofNat q)), .val (.ref t), .val (.int (i_472 / (100 : Int32))), .val (.int i_446), .val (.int (Int32.ofNat ((((q - 1) - 1) - 1) - 1))), .val (.int (0 : Int32))] [(.int ((i_472 / (100 : Int32)) * (100 : Int32)))])) (fun TT HH tt kk => XS.imul HH hx rfl (hb hby d_jdk_33_m_12_36) rfl kk) ?_
          refine k_pure (g' := (mkF m 38 #[.val (.int i_472), .val (.int (Int32.ofNat q)), .val (.ref t), .val (.int (i_472 / (100 : Int32))), .val (.int i_446), .val (.int (Int32.ofNat ((((q - 1) - 1) - 1) - 1))), .val (.int (0 : Int32))] [(.int i_472), (.int ((i_472 / (100 : Int32)) * (100 : Int32)))])) (fun TT HH tt kk => XS.iloadN HH hx rfl (hb hby d_jdk_33_m_12_37) rfl kk) ?_
          refine k_pure (g' := (mkF m 39 #[.val (.int i_472), .val (.int (Int32.ofNat q)), .val (.ref t), .val (.int (i_472 / (100 : Int32))), .val (.int i_446), .val (.int (Int32.ofNat ((((q - 1) - 1) - 1) - 1))), .val (.int (0 : Int32))] [(.int (((i_472 / (100 : Int32)) * (100 : Int32)) - i_472))])) (fun TT HH tt kk => XS.isub HH hx rfl (hb hby d_jdk_33_m_12_38) rfl kk) ?_
          refine k_pure (g' := (mkF m 41 #[.val (.int i_472), .val (.int (Int32.ofNat q)), .val (.ref t), .val (.int (i_472 / (100 : Int32))), .val (.int (((i_472 / (100 : Int32)) * (100 : Int32)) - i_472)), .val (.int (Int32.ofNat ((((q - 1) - 1) - 1) - 1))), .val (.int (0 : Int32))] [])) (fun TT HH tt kk => XS.istore HH hx rfl (hb hby d_jdk_33_m_12_39) rfl (l' := #[.val (.int i_472), .val (.int (Int32.ofNat q)), .val (.ref t), .val (.int (i_472 / (100 : Int32))), .val (.int (((i_472 / (100 : Int32)) * (100 : Int32)) - i_472)), .val (.int (Int32.ofNat ((((q - 1) - 1) - 1) - 1))), .val (.int (0 : Int32))]) rfl kk) ?_
          refine k_pure (g' := (mkF m 42 #[.val (.int i_472), .val (.int (Int32.ofNat q)), .val (.ref t), .val (.int (i_472 / (100 : Int32))), .val (.int (((i_472 / (100 : Int32)) * (100 : Int32)) - i_472)), .val (.int (Int32.ofNat ((((q - 1) - 1) - 1) - 1))), .val (.int (0 : Int32))] [(.int (i_472 / (100 : Int32)))])) (fun TT HH tt kk => XS.iloadN HH hx rfl (hb hby d_jdk_33_m_12_41) rfl kk) ?_
          refine k_pure (g' := (mkF m 43 #[.val (.int (i_472 / (100 : Int32))), .val (.int (Int32.ofNat q)), .val (.ref t), .val (.int (i_472 / (100 : Int32))), .val (.int (((i_472 / (100 : Int32)) * (100 : Int32)) - i_472)), .val (.int (Int32.ofNat ((((q - 1) - 1) - 1) - 1))), .val (.int (0 : Int32))] [])) (fun TT HH tt kk => XS.istoreN HH hx rfl (hb hby d_jdk_33_m_12_42) rfl (l' := #[.val (.int (i_472 / (100 : Int32))), .val (.int (Int32.ofNat q)), .val (.ref t), .val (.int (i_472 / (100 : Int32))), .val (.int (((i_472 / (100 : Int32)) * (100 : Int32)) - i_472)), .val (.int (Int32.ofNat ((((q - 1) - 1) - 1) - 1))), .val (.int (0 : Int32))]) rfl kk) ?_
          have hr_505 : 0 ≤ ((((i_472 / (100 : Int32)) * (100 : Int32)) - i_472)).toInt ∧ ((((i_472 / (100 : Int32)) * (100 : Int32)) - i_472)).toInt ≤ 99 := (by have r0 : ((-100) : Int32).toInt = (-100) := (by decide); have r1 := rng32 i_472; have r2 := c_idiv i_472 (100 : Int32) 100 (by decide) (by decide); have r3 := rng32 (i_472 / (100 : Int32)); have r4 := (by have q := c_imul (i_472 / (100 : Int32)) (100 : Int32); rw [show (100 : Int32).toInt = 100 from by decide] at q; exact q); have r5 := rng32 ((i_472 / (100 : Int32)) * (100 : Int32)); have r6 := c_isub ((i_472 / (100 : Int32)) * (100 : Int32)) i_472; have r7 := rng32 (((i_472 / (100 : Int32)) * (100 : Int32)) - i_472); have r8 : ¬ (((-100) : Int32)).toInt < (i_472).toInt := fun q => c_474 (Int32.lt_iff_toInt_lt.mpr q); have r9 := hb_473; omega)
          generalize (((i_472 / (100 : Int32)) * (100 : Int32)) - i_472) = i_504 at hr_505 ⊢
          show Run p l e _ s m _ below meth c Z EL1 _ n0 bk h_463 0 0 (mkF m 43 #[.val (.int (i_472 / (100 : Int32))), .val (.int (Int32.ofNat q)), .val (.ref t), .val (.int (i_472 / (100 : Int32))), .val (.int i_504), .val (.int (Int32.ofNat ((((q - 1) - 1) - 1) - 1))), .val (.int (0 : Int32))] []) _
          refine k_pure (g' := (mkF m 44 #[.val (.int (i_472 / (100 : Int32))), .val (.int (Int32.ofNat q)), .val (.ref t), .val (.int (i_472 / (100 : Int32))), .val (.int i_504), .val (.int (Int32.ofNat ((((q - 1) - 1) - 1) - 1))), .val (.int (0 : Int32))] [(.ref t)])) (fun TT HH tt kk => XS.aloadN HH hx rfl (hb hby d_jdk_33_m_12_43) rfl rfl kk) ?_
          refine k_pure (g' := (mkF m 47 #[.val (.int (i_472 / (100 : Int32))), .val (.int (Int32.ofNat q)), .val (.ref t), .val (.int (i_472 / (100 : Int32))), .val (.int i_504), .val (.int ((Int32.ofNat ((((q - 1) - 1) - 1) - 1)) + ((-1) : Int32))), .val (.int (0 : Int32))] [(.ref t)])) (fun TT HH tt kk => XS.iinc HH hx rfl (hb hby d_jdk_33_m_12_44) rfl (l' := #[.val (.int (i_472 / (100 : Int32))), .val (.int (Int32.ofNat q)), .val (.ref t), .val (.int (i_472 / (100 : Int32))), .val (.int i_504), .val (.int ((Int32.ofNat ((((q - 1) - 1) - 1) - 1)) + ((-1) : Int32))), .val (.int (0 : Int32))]) rfl kk) ?_
          rw [dec_ofNat (by omega) (by omega)]
          show Run p l e _ s m _ below meth c Z EL1 _ n0 bk h_463 0 0 (mkF m 47 #[.val (.int (i_472 / (100 : Int32))), .val (.int (Int32.ofNat q)), .val (.ref t), .val (.int (i_472 / (100 : Int32))), .val (.int i_504), .val (.int (Int32.ofNat (((((q - 1) - 1) - 1) - 1) - 1))), .val (.int (0 : Int32))] [(.ref t)]) _
          refine k_pure (g' := (mkF m 49 #[.val (.int (i_472 / (100 : Int32))), .val (.int (Int32.ofNat q)), .val (.ref t), .val (.int (i_472 / (100 : Int32))), .val (.int i_504), .val (.int (Int32.ofNat (((((q - 1) - 1) - 1) - 1) - 1))), .val (.int (0 : Int32))] [(.int (Int32.ofNat (((((q - 1) - 1) - 1) - 1) - 1))), (.ref t)])) (fun TT HH tt kk => XS.iload HH hx rfl (hb hby d_jdk_33_m_12_47) rfl kk) ?_
          refine k_getS hx (host := "") (Or.inl (hw _ (List.mem_of_getElem? (i := 128) rfl))) Via.refl (s_d1.ext O_464.2) rfl (hb hby d_jdk_33_m_12_49) ?_
          show Run p l e _ s m _ below meth c Z EL1 _ n0 bk h_463 0 0 (mkF m 52 #[.val (.int (i_472 / (100 : Int32))), .val (.int (Int32.ofNat q)), .val (.ref t), .val (.int (i_472 / (100 : Int32))), .val (.int i_504), .val (.int (Int32.ofNat (((((q - 1) - 1) - 1) - 1) - 1))), .val (.int (0 : Int32))] [(.ref d1), (.int (Int32.ofNat (((((q - 1) - 1) - 1) - 1) - 1))), (.ref t)]) _
          refine k_pure (g' := (mkF m 54 #[.val (.int (i_472 / (100 : Int32))), .val (.int (Int32.ofNat q)), .val (.ref t), .val (.int (i_472 / (100 : Int32))), .val (.int i_504), .val (.int (Int32.ofNat (((((q - 1) - 1) - 1) - 1) - 1))), .val (.int (0 : Int32))] [(.int i_504), (.ref d1), (.int (Int32.ofNat (((((q - 1) - 1) - 1) - 1) - 1))), (.ref t)])) (fun TT HH tt kk => XS.iload HH hx rfl (hb hby d_jdk_33_m_12_52) rfl kk) ?_
          have F_506 : Arv Z h_463 d1 kd1 .byte (100 : Int32) w1 (.int 0) := a_d1.ext O_464.2
          obtain ⟨x_507, hv_508⟩ := aget_int F_506 (i := (i_504).toNatClampNeg) (dig_lt hr_505)
          refine k_aget hx (v := (.int x_507)) F_506 (dig_in hr_505) hv_508 (Or.inr (Or.inr (Or.inr (Or.inl ⟨rfl, rfl⟩)))) rfl rfl (hb hby d_jdk_33_m_12_54) ?_
          show Run p l e _ s m _ below meth c Z EL1 _ n0 bk h_463 0 0 (mkF m 55 #[.val (.int (i_472 / (100 : Int32))), .val (.int (Int32.ofNat q)), .val (.ref t), .val (.int (i_472 / (100 : Int32))), .val (.int i_504), .val (.int (Int32.ofNat (((((q - 1) - 1) - 1) - 1) - 1))), .val (.int (0 : Int32))] [(.int x_507), (.int (Int32.ofNat (((((q - 1) - 1) - 1) - 1) - 1))), (.ref t)]) _
          refine k_stB hx V_471 (idx_ok (i := (((((q - 1) - 1) - 1) - 1) - 1)) (n := N) (by omega) (by omega)) ((((((q - 1) - 1) - 1) - 1) - 1)) (clampN (by omega)) (Nat.lt_of_lt_of_le (show (((((q - 1) - 1) - 1) - 1) - 1) < N by omega) hl_470) (by omega) nbt rfl rfl (hb hby d_jdk_33_m_12_55) ?_
          intro h_509 O_510 W_511 A_512
          have z_513 := W_511.size
          have V_514 : Arv Z h_509 t kb .byte (Int32.ofNat N) (vs_469.set ((((((q - 1) - 1) - 1) - 1) - 1)) (.int (nar .byte x_507))) (.int 0) := A_512
          show Run p l e _ s m _ below meth c Z EL1 _ n0 bk h_509 0 0 (mkF m 56 #[.val (.int (i_472 / (100 : Int32))), .val (.int (Int32.ofNat q)), .val (.ref t), .val (.int (i_472 / (100 : Int32))), .val (.int i_504), .val (.int (Int32.ofNat (((((q - 1) - 1) - 1) - 1) - 1))), .val (.int (0 : Int32))] []) _
          obtain ⟨vs_515, hl_516, V_517⟩ : ∃ ws : List Value, N ≤ ws.length ∧ Arv Z h_509 t kb .byte (Int32.ofNat N) ws (.int 0) := ⟨_, (by rw [List.length_set]; exact hl_470), V_514⟩
          refine k_pure (g' := (mkF m 57 #[.val (.int (i_472 / (100 : Int32))), .val (.int (Int32.ofNat q)), .val (.ref t), .val (.int (i_472 / (100 : Int32))), .val (.int i_504), .val (.int (Int32.ofNat (((((q - 1) - 1) - 1) - 1) - 1))), .val (.int (0 : Int32))] [(.ref t)])) (fun TT HH tt kk => XS.aloadN HH hx rfl (hb hby d_jdk_33_m_12_56) rfl rfl kk) ?_
          refine k_pure (g' := (mkF m 60 #[.val (.int (i_472 / (100 : Int32))), .val (.int (Int32.ofNat q)), .val (.ref t), .val (.int (i_472 / (100 : Int32))), .val (.int i_504), .val (.int ((Int32.ofNat (((((q - 1) - 1) - 1) - 1) - 1)) + ((-1) : Int32))), .val (.int (0 : Int32))] [(.ref t)])) (fun TT HH tt kk => XS.iinc HH hx rfl (hb hby d_jdk_33_m_12_57) rfl (l' := #[.val (.int (i_472 / (100 : Int32))), .val (.int (Int32.ofNat q)), .val (.ref t), .val (.int (i_472 / (100 : Int32))), .val (.int i_504), .val (.int ((Int32.ofNat (((((q - 1) - 1) - 1) - 1) - 1)) + ((-1) : Int32))), .val (.int (0 : Int32))]) rfl kk) ?_
          rw [dec_ofNat (by omega) (by omega)]
          show Run p l e _ s m _ below meth c Z EL1 _ n0 bk h_509 0 0 (mkF m 60 #[.val (.int (i_472 / (100 : Int32))), .val (.int (Int32.ofNat q)), .val (.ref t), .val (.int (i_472 / (100 : Int32))), .val (.int i_504), .val (.int (Int32.ofNat ((((((q - 1) - 1) - 1) - 1) - 1) - 1))), .val (.int (0 : Int32))] [(.ref t)]) _
          refine k_pure (g' := (mkF m 62 #[.val (.int (i_472 / (100 : Int32))), .val (.int (Int32.ofNat q)), .val (.ref t), .val (.int (i_472 / (100 : Int32))), .val (.int i_504), .val (.int (Int32.ofNat ((((((q - 1) - 1) - 1) - 1) - 1) - 1))), .val (.int (0 : Int32))] [(.int (Int32.ofNat ((((((q - 1) - 1) - 1) - 1) - 1) - 1))), (.ref t)])) (fun TT HH tt kk => XS.iload HH hx rfl (hb hby d_jdk_33_m_12_60) rfl kk) ?_
          refine k_getS hx (host := "") (Or.inl (hw _ (List.mem_of_getElem? (i := 199) rfl))) Via.refl (s_d2.ext O_510.2) rfl (hb hby d_jdk_33_m_12_62) ?_
          show Run p l e _ s m _ below meth c Z EL1 _ n0 bk h_509 0 0 (mkF m 65 #[.val (.int (i_472 / (100 : Int32))), .val (.int (Int32.ofNat q)), .val (.ref t), .val (.int (i_472 / (100 : Int32))), .val (.int i_504), .val (.int (Int32.ofNat ((((((q - 1) - 1) - 1) - 1) - 1) - 1))), .val (.int (0 : Int32))] [(.ref d2), (.int (Int32.ofNat ((((((q - 1) - 1) - 1) - 1) - 1) - 1))), (.ref t)]) _
          refine k_pure (g' := (mkF m 67 #[.val (.int (i_472 / (100 : Int32))), .val (.int (Int32.ofNat q)), .val (.ref t), .val (.int (i_472 / (100 : Int32))), .val (.int i_504), .val (.int (Int32.ofNat ((((((q - 1) - 1) - 1) - 1) - 1) - 1))), .val (.int (0 : Int32))] [(.int i_504), (.ref d2), (.int (Int32.ofNat ((((((q - 1) - 1) - 1) - 1) - 1) - 1))), (.ref t)])) (fun TT HH tt kk => XS.iload HH hx rfl (hb hby d_jdk_33_m_12_65) rfl kk) ?_
          have F_518 : Arv Z h_509 d2 kd2 .byte (100 : Int32) w2 (.int 0) := a_d2.ext O_510.2
          obtain ⟨x_519, hv_520⟩ := aget_int F_518 (i := (i_504).toNatClampNeg) (dig_lt hr_505)
          refine k_aget hx (v := (.int x_519)) F_518 (dig_in hr_505) hv_520 (Or.inr (Or.inr (Or.inr (Or.inl ⟨rfl, rfl⟩)))) rfl rfl (hb hby d_jdk_33_m_12_67) ?_
          show Run p l e _ s m _ below meth c Z EL1 _ n0 bk h_509 0 0 (mkF m 68 #[.val (.int (i_472 / (100 : Int32))), .val (.int (Int32.ofNat q)), .val (.ref t), .val (.int (i_472 / (100 : Int32))), .val (.int i_504), .val (.int (Int32.ofNat ((((((q - 1) - 1) - 1) - 1) - 1) - 1))), .val (.int (0 : Int32))] [(.int x_519), (.int (Int32.ofNat ((((((q - 1) - 1) - 1) - 1) - 1) - 1))), (.ref t)]) _
          refine k_stB hx V_517 (idx_ok (i := ((((((q - 1) - 1) - 1) - 1) - 1) - 1)) (n := N) (by omega) (by omega)) (((((((q - 1) - 1) - 1) - 1) - 1) - 1)) (clampN (by omega)) (Nat.lt_of_lt_of_le (show ((((((q - 1) - 1) - 1) - 1) - 1) - 1) < N by omega) hl_516) (by omega) nbt rfl rfl (hb hby d_jdk_33_m_12_68) ?_
          intro h_521 O_522 W_523 A_524
          have z_525 := W_523.size
          have V_526 : Arv Z h_521 t kb .byte (Int32.ofNat N) (vs_515.set (((((((q - 1) - 1) - 1) - 1) - 1) - 1)) (.int (nar .byte x_519))) (.int 0) := A_524
          show Run p l e _ s m _ below meth c Z EL1 _ n0 bk h_521 0 0 (mkF m 69 #[.val (.int (i_472 / (100 : Int32))), .val (.int (Int32.ofNat q)), .val (.ref t), .val (.int (i_472 / (100 : Int32))), .val (.int i_504), .val (.int (Int32.ofNat ((((((q - 1) - 1) - 1) - 1) - 1) - 1))), .val (.int (0 : Int32))] []) _
          obtain ⟨vs_527, hl_528, V_529⟩ : ∃ ws : List Value, N ≤ ws.length ∧ Arv Z h_521 t kb .byte (Int32.ofNat N) ws (.int 0) := ⟨_, (by rw [List.length_set]; exact hl_516), V_526⟩
          refine k_pure (g' := (mkF m 22 #[.val (.int (i_472 / (100 : Int32))), .val (.int (Int32.ofNat q)), .val (.ref t), .val (.int (i_472 / (100 : Int32))), .val (.int i_504), .val (.int (Int32.ofNat ((((((q - 1) - 1) - 1) - 1) - 1) - 1))), .val (.int (0 : Int32))] [])) (fun TT HH tt kk => XS.goto HH hx rfl (pc0 := 69) (pc' := 22) rfl (hb hby d_jdk_33_m_12_69) (by decide) (by decide) kk) ?_
          have hb_531 : -2147 ≤ ((i_472 / (100 : Int32))).toInt ∧ ((i_472 / (100 : Int32))).toInt ≤ 0 := (by have r0 : ((-100) : Int32).toInt = (-100) := (by decide); have r1 := rng32 i_472; have r2 := c_idiv i_472 (100 : Int32) 100 (by decide) (by decide); have r3 := rng32 (i_472 / (100 : Int32)); have r4 : ¬ (((-100) : Int32)).toInt < (i_472).toInt := fun q => c_474 (Int32.lt_iff_toInt_lt.mpr q); have r5 := hb_473; omega)
          generalize (i_472 / (100 : Int32)) = i_530 at hb_531 ⊢
          show Run p l e _ s m _ below meth c Z EL1 _ n0 bk h_521 0 0 (mkF m 22 #[.val (.int i_530), .val (.int (Int32.ofNat q)), .val (.ref t), .val (.int i_530), .val (.int i_504), .val (.int (Int32.ofNat ((((((q - 1) - 1) - 1) - 1) - 1) - 1))), .val (.int (0 : Int32))] []) _
          refine k_pure (g' := (mkF m 23 #[.val (.int i_530), .val (.int (Int32.ofNat q)), .val (.ref t), .val (.int i_530), .val (.int i_504), .val (.int (Int32.ofNat ((((((q - 1) - 1) - 1) - 1) - 1) - 1))), .val (.int (0 : Int32))] [(.int i_530)])) (fun TT HH tt kk => XS.iloadN HH hx rfl (hb hby d_jdk_33_m_12_22) rfl kk) ?_
          refine k_pure (g' := (mkF m 25 #[.val (.int i_530), .val (.int (Int32.ofNat q)), .val (.ref t), .val (.int i_530), .val (.int i_504), .val (.int (Int32.ofNat ((((((q - 1) - 1) - 1) - 1) - 1) - 1))), .val (.int (0 : Int32))] [(.int ((-100) : Int32)), (.int i_530)])) (fun TT HH tt kk => XS.bipush HH hx rfl (hb hby d_jdk_33_m_12_23) kk) ?_
          by_cases c_532 : ((-100) : Int32) < i_530
          · refine k_pure (g' := (mkF m 72 #[.val (.int i_530), .val (.int (Int32.ofNat q)), .val (.ref t), .val (.int i_530), .val (.int i_504), .val (.int (Int32.ofNat ((((((q - 1) - 1) - 1) - 1) - 1) - 1))), .val (.int (0 : Int32))] [])) (fun TT HH tt kk => XS.icmpYes HH hx rfl (pc0 := 25) (pc' := 72) rfl (hb hby d_jdk_33_m_12_25) rfl (tlt c_532).2.2.1 (by decide) (by decide) kk) ?_
            refine k_pure (g' := (mkF m 73 #[.val (.int i_530), .val (.int (Int32.ofNat q)), .val (.ref t), .val (.int i_530), .val (.int i_504), .val (.int (Int32.ofNat ((((((q - 1) - 1) - 1) - 1) - 1) - 1))), .val (.int (0 : Int32))] [(.ref t)])) (fun TT HH tt kk => XS.aloadN HH hx rfl (hb hby d_jdk_33_m_12_72) rfl rfl kk) ?_
            refine k_pure (g' := (mkF m 76 #[.val (.int i_530), .val (.int (Int32.ofNat q)), .val (.ref t), .val (.int i_530), .val (.int i_504), .val (.int ((Int32.ofNat ((((((q - 1) - 1) - 1) - 1) - 1) - 1)) + ((-1) : Int32))), .val (.int (0 : Int32))] [(.ref t)])) (fun TT HH tt kk => XS.iinc HH hx rfl (hb hby d_jdk_33_m_12_73) rfl (l' := #[.val (.int i_530), .val (.int (Int32.ofNat q)), .val (.ref t), .val (.int i_530), .val (.int i_504), .val (.int ((Int32.ofNat ((((((q - 1) - 1) - 1) - 1) - 1) - 1)) + ((-1) : Int32))), .val (.int (0 : Int32))]) rfl kk) ?_
            rw [dec_ofNat (by omega) (by omega)]
            show Run p l e _ s m _ below meth c Z EL1 _ n0 bk h_521 0 0 (mkF m 76 #[.val (.int i_530), .val (.int (Int32.ofNat q)), .val (.ref t), .val (.int i_530), .val (.int i_504), .val (.int (Int32.ofNat (((((((q - 1) - 1) - 1) - 1) - 1) - 1) - 1))), .val (.int (0 : Int32))] [(.ref t)]) _
            refine k_pure (g' := (mkF m 78 #[.val (.int i_530), .val (.int (Int32.ofNat q)), .val (.ref t), .val (.int i_530), .val (.int i_504), .val (.int (Int32.ofNat (((((((q - 1) - 1) - 1) - 1) - 1) - 1) - 1))), .val (.int (0 : Int32))] [(.int (Int32.ofNat (((((((q - 1) - 1) - 1) - 1) - 1) - 1) - 1))), (.ref t)])) (fun TT HH tt kk => XS.iload HH hx rfl (hb hby d_jdk_33_m_12_76) rfl kk) ?_
            refine k_getS hx (host := "") (Or.inl (hw _ (List.mem_of_getElem? (i := 128) rfl))) Via.refl (s_d1.ext O_522.2) rfl (hb hby d_jdk_33_m_12_78) ?_
            show Run p l e _ s m _ below meth c Z EL1 _ n0 bk h_521 0 0 (mkF m 81 #[.val (.int i_530), .val (.int (Int32.ofNat q)), .val (.ref t), .val (.int i_530), .val (.int i_504), .val (.int (Int32.ofNat (((((((q - 1) - 1) - 1) - 1) - 1) - 1) - 1))), .val (.int (0 : Int32))] [(.ref d1), (.int (Int32.ofNat (((((((q - 1) - 1) - 1) - 1) - 1) - 1) - 1))), (.ref t)]) _
            refine k_pure (g' := (mkF m 82 #[.val (.int i_530), .val (.int (Int32.ofNat q)), .val (.ref t), .val (.int i_530), .val (.int i_504), .val (.int (Int32.ofNat (((((((q - 1) - 1) - 1) - 1) - 1) - 1) - 1))), .val (.int (0 : Int32))] [(.int i_530), (.ref d1), (.int (Int32.ofNat (((((((q - 1) - 1) - 1) - 1) - 1) - 1) - 1))), (.ref t)])) (fun TT HH tt kk => XS.iloadN HH hx rfl (hb hby d_jdk_33_m_12_81) rfl kk) ?_
            refine k_pure (g' := (mkF m 83 #[.val (.int i_530), .val (.int (Int32.ofNat q)), .val (.ref t), .val (.int i_530), .val (.int i_504), .val (.int (Int32.ofNat (((((((q - 1) - 1) - 1) - 1) - 1) - 1) - 1))), .val (.int (0 : Int32))] [(.int (-i_530)), (.ref d1), (.int (Int32.ofNat (((((((q - 1) - 1) - 1) - 1) - 1) - 1) - 1))), (.ref t)])) (fun TT HH tt kk => XS.ineg HH hx rfl (hb hby d_jdk_33_m_12_82) rfl kk) ?_
            have hr_534 : 0 ≤ ((-i_530)).toInt ∧ ((-i_530)).toInt ≤ 99 := (by have r0 : ((-100) : Int32).toInt = (-100) := (by decide); have r1 := rng32 i_530; have r2 := c_ineg i_530; have r3 := rng32 (-i_530); have r4 := (Int32.lt_iff_toInt_lt.mp c_532); have r5 := hb_531; omega)
            generalize (-i_530) = i_533 at hr_534 ⊢
            show Run p l e _ s m _ below meth c Z EL1 _ n0 bk h_521 0 0 (mkF m 83 #[.val (.int i_530), .val (.int (Int32.ofNat q)), .val (.ref t), .val (.int i_530), .val (.int i_504), .val (.int (Int32.ofNat (((((((q - 1) - 1) - 1) - 1) - 1) - 1) - 1))), .val (.int (0 : Int32))] [(.int i_533), (.ref d1), (.int (Int32.ofNat (((((((q - 1) - 1) - 1) - 1) - 1) - 1) - 1))), (.ref t)]) _
            have F_535 : Arv Z h_521 d1 kd1 .byte (100 : Int32) w1 (.int 0) := a_d1.ext O_522.2
            obtain ⟨x_536, hv_537⟩ := aget_int F_535 (i := (i_533).toNatClampNeg) (dig_lt hr_534)
            refine k_aget hx (v := (.int x_536)) F_535 (dig_in hr_534) hv_537 (Or.inr (Or.inr (Or.inr (Or.inl ⟨rfl, rfl⟩)))) rfl rfl (hb hby d_jdk_33_m_12_83) ?_
            show Run p l e _ s m _ below meth c Z EL1 _ n0 bk h_521 0 0 (mkF m 84 #[.val (.int i_530), .val (.int (Int32.ofNat q)), .val (.ref t), .val (.int i_530), .val (.int i_504), .val (.int (Int32.ofNat (((((((q - 1) - 1) - 1) - 1) - 1) - 1) - 1))), .val (.int (0 : Int32))] [(.int x_536), (.int (Int32.ofNat (((((((q - 1) - 1) - 1) - 1) - 1) - 1) - 1))), (.ref t)]) _
            refine k_stB hx V_529 (idx_ok (i := (((((((q - 1) - 1) - 1) - 1) - 1) - 1) - 1)) (n := N) (by omega) (by omega)) ((((((((q - 1) - 1) - 1) - 1) - 1) - 1) - 1)) (clampN (by omega)) (Nat.lt_of_lt_of_le (show (((((((q - 1) - 1) - 1) - 1) - 1) - 1) - 1) < N by omega) hl_528) (by omega) nbt rfl rfl (hb hby d_jdk_33_m_12_84) ?_
            intro h_538 O_539 W_540 A_541
            have z_542 := W_540.size
            have V_543 : Arv Z h_538 t kb .byte (Int32.ofNat N) (vs_527.set ((((((((q - 1) - 1) - 1) - 1) - 1) - 1) - 1)) (.int (nar .byte x_536))) (.int 0) := A_541
            show Run p l e _ s m _ below meth c Z EL1 _ n0 bk h_538 0 0 (mkF m 85 #[.val (.int i_530), .val (.int (Int32.ofNat q)), .val (.ref t), .val (.int i_530), .val (.int i_504), .val (.int (Int32.ofNat (((((((q - 1) - 1) - 1) - 1) - 1) - 1) - 1))), .val (.int (0 : Int32))] []) _
            obtain ⟨vs_544, hl_545, V_546⟩ : ∃ ws : List Value, N ≤ ws.length ∧ Arv Z h_538 t kb .byte (Int32.ofNat N) ws (.int 0) := ⟨_, (by rw [List.length_set]; exact hl_528), V_543⟩
            refine k_pure (g' := (mkF m 86 #[.val (.int i_530), .val (.int (Int32.ofNat q)), .val (.ref t), .val (.int i_530), .val (.int i_504), .val (.int (Int32.ofNat (((((((q - 1) - 1) - 1) - 1) - 1) - 1) - 1))), .val (.int (0 : Int32))] [(.int i_530)])) (fun TT HH tt kk => XS.iloadN HH hx rfl (hb hby d_jdk_33_m_12_85) rfl kk) ?_
            refine k_pure (g' := (mkF m 88 #[.val (.int i_530), .val (.int (Int32.ofNat q)), .val (.ref t), .val (.int i_530), .val (.int i_504), .val (.int (Int32.ofNat (((((((q - 1) - 1) - 1) - 1) - 1) - 1) - 1))), .val (.int (0 : Int32))] [(.int ((-9) : Int32)), (.int i_530)])) (fun TT HH tt kk => XS.bipush HH hx rfl (hb hby d_jdk_33_m_12_86) kk) ?_
            by_cases c_547 : i_530 < ((-9) : Int32)
            · refine k_pure (g' := (mkF m 91 #[.val (.int i_530), .val (.int (Int32.ofNat q)), .val (.ref t), .val (.int i_530), .val (.int i_504), .val (.int (Int32.ofNat (((((((q - 1) - 1) - 1) - 1) - 1) - 1) - 1))), .val (.int (0 : Int32))] [])) (fun TT HH tt kk => XS.icmpNo HH hx rfl (hb hby d_jdk_33_m_12_88) rfl (tlt c_547).2.1 kk) ?_
              refine k_pure (g' := (mkF m 92 #[.val (.int i_530), .val (.int (Int32.ofNat q)), .val (.ref t), .val (.int i_530), .val (.int i_504), .val (.int (Int32.ofNat (((((((q - 1) - 1) - 1) - 1) - 1) - 1) - 1))), .val (.int (0 : Int32))] [(.ref t)])) (fun TT HH tt kk => XS.aloadN HH hx rfl (hb hby d_jdk_33_m_12_91) rfl rfl kk) ?_
              refine k_pure (g' := (mkF m 95 #[.val (.int i_530), .val (.int (Int32.ofNat q)), .val (.ref t), .val (.int i_530), .val (.int i_504), .val (.int ((Int32.ofNat (((((((q - 1) - 1) - 1) - 1) - 1) - 1) - 1)) + ((-1) : Int32))), .val (.int (0 : Int32))] [(.ref t)])) (fun TT HH tt kk => XS.iinc HH hx rfl (hb hby d_jdk_33_m_12_92) rfl (l' := #[.val (.int i_530), .val (.int (Int32.ofNat q)), .val (.ref t), .val (.int i_530), .val (.int i_504), .val (.int ((Int32.ofNat (((((((q - 1) - 1) - 1) - 1) - 1) - 1) - 1)) + ((-1) : Int32))), .val (.int (0 : Int32))]) rfl kk) ?_
              rw [dec_ofNat (by omega) (by omega)]
              show Run p l e _ s m _ below meth c Z EL1 _ n0 bk h_538 0 0 (mkF m 95 #[.val (.int i_530), .val (.int (Int32.ofNat q)), .val (.ref t), .val (.int i_530), .val (.int i_504), .val (.int (Int32.ofNat ((((((((q - 1) - 1) - 1) - 1) - 1) - 1) - 1) - 1))), .val (.int (0 : Int32))] [(.ref t)]) _
              refine k_pure (g' := (mkF m 97 #[.val (.int i_530), .val (.int (Int32.ofNat q)), .val (.ref t), .val (.int i_530), .val (.int i_504), .val (.int (Int32.ofNat ((((((((q - 1) - 1) - 1) - 1) - 1) - 1) - 1) - 1))), .val (.int (0 : Int32))] [(.int (Int32.ofNat ((((((((q - 1) - 1) - 1) - 1) - 1) - 1) - 1) - 1))), (.ref t)])) (fun TT HH tt kk => XS.iload HH hx rfl (hb hby d_jdk_33_m_12_95) rfl kk) ?_
              refine k_getS hx (host := "") (Or.inl (hw _ (List.mem_of_getElem? (i := 199) rfl))) Via.refl (s_d2.ext O_539.2) rfl (hb hby d_jdk_33_m_12_97) ?_
              show Run p l e _ s m _ below meth c Z EL1 _ n0 bk h_538 0 0 (mkF m 100 #[.val (.int i_530), .val (.int (Int32.ofNat q)), .val (.ref t), .val (.int i_530), .val (.int i_504), .val (.int (Int32.ofNat ((((((((q - 1) - 1) - 1) - 1) - 1) - 1) - 1) - 1))), .val (.int (0 : Int32))] [(.ref d2), (.int (Int32.ofNat ((((((((q - 1) - 1) - 1) - 1) - 1) - 1) - 1) - 1))), (.ref t)]) _
              refine k_pure (g' := (mkF m 101 #[.val (.int i_530), .val (.int (Int32.ofNat q)), .val (.ref t), .val (.int i_530), .val (.int i_504), .val (.int (Int32.ofNat ((((((((q - 1) - 1) - 1) - 1) - 1) - 1) - 1) - 1))), .val (.int (0 : Int32))] [(.int i_530), (.ref d2), (.int (Int32.ofNat ((((((((q - 1) - 1) - 1) - 1) - 1) - 1) - 1) - 1))), (.ref t)])) (fun TT HH tt kk => XS.iloadN HH hx rfl (hb hby d_jdk_33_m_12_100) rfl kk) ?_
              refine k_pure (g' := (mkF m 102 #[.val (.int i_530), .val (.int (Int32.ofNat q)), .val (.ref t), .val (.int i_530), .val (.int i_504), .val (.int (Int32.ofNat ((((((((q - 1) - 1) - 1) - 1) - 1) - 1) - 1) - 1))), .val (.int (0 : Int32))] [(.int (-i_530)), (.ref d2), (.int (Int32.ofNat ((((((((q - 1) - 1) - 1) - 1) - 1) - 1) - 1) - 1))), (.ref t)])) (fun TT HH tt kk => XS.ineg HH hx rfl (hb hby d_jdk_33_m_12_101) rfl kk) ?_
              have hr_549 : 0 ≤ ((-i_530)).toInt ∧ ((-i_530)).toInt ≤ 99 := (by have r0 : ((-100) : Int32).toInt = (-100) := (by decide); have r1 := rng32 i_530; have r2 : ((-9) : Int32).toInt = (-9) := (by decide); have r3 := c_ineg i_530; have r4 := rng32 (-i_530); have r5 := (Int32.lt_iff_toInt_lt.mp c_532); have r6 := (Int32.lt_iff_toInt_lt.mp c_547); have r7 := hb_531; omega)
              generalize (-i_530) = i_548 at hr_549 ⊢
              show Run p l e _ s m _ below meth c Z EL1 _ n0 bk h_538 0 0 (mkF m 102 #[.val (.int i_530), .val (.int (Int32.ofNat q)), .val (.ref t), .val (.int i_530), .val (.int i_504), .val (.int (Int32.ofNat ((((((((q - 1) - 1) - 1) - 1) - 1) - 1) - 1) - 1))), .val (.int (0 : Int32))] [(.int i_548), (.ref d2), (.int (Int32.ofNat ((((((((q - 1) - 1) - 1) - 1) - 1) - 1) - 1) - 1))), (.ref t)]) _
              have F_550 : Arv Z h_538 d2 kd2 .byte (100 : Int32) w2 (.int 0) := a_d2.ext O_539.2
              obtain ⟨x_551, hv_552⟩ := aget_int F_550 (i := (i_548).toNatClampNeg) (dig_lt hr_549)
              refine k_aget hx (v := (.int x_551)) F_550 (dig_in hr_549) hv_552 (Or.inr (Or.inr (Or.inr (Or.inl ⟨rfl, rfl⟩)))) rfl rfl (hb hby d_jdk_33_m_12_102) ?_
              show Run p l e _ s m _ below meth c Z EL1 _ n0 bk h_538 0 0 (mkF m 103 #[.val (.int i_530), .val (.int (Int32.ofNat q)), .val (.ref t), .val (.int i_530), .val (.int i_504), .val (.int (Int32.ofNat ((((((((q - 1) - 1) - 1) - 1) - 1) - 1) - 1) - 1))), .val (.int (0 : Int32))] [(.int x_551), (.int (Int32.ofNat ((((((((q - 1) - 1) - 1) - 1) - 1) - 1) - 1) - 1))), (.ref t)]) _
              refine k_stB hx V_546 (idx_ok (i := ((((((((q - 1) - 1) - 1) - 1) - 1) - 1) - 1) - 1)) (n := N) (by omega) (by omega)) (((((((((q - 1) - 1) - 1) - 1) - 1) - 1) - 1) - 1)) (clampN (by omega)) (Nat.lt_of_lt_of_le (show ((((((((q - 1) - 1) - 1) - 1) - 1) - 1) - 1) - 1) < N by omega) hl_545) (by omega) nbt rfl rfl (hb hby d_jdk_33_m_12_103) ?_
              intro h_553 O_554 W_555 A_556
              have z_557 := W_555.size
              have V_558 : Arv Z h_553 t kb .byte (Int32.ofNat N) (vs_544.set (((((((((q - 1) - 1) - 1) - 1) - 1) - 1) - 1) - 1)) (.int (nar .byte x_551))) (.int 0) := A_556
              show Run p l e _ s m _ below meth c Z EL1 _ n0 bk h_553 0 0 (mkF m 104 #[.val (.int i_530), .val (.int (Int32.ofNat q)), .val (.ref t), .val (.int i_530), .val (.int i_504), .val (.int (Int32.ofNat ((((((((q - 1) - 1) - 1) - 1) - 1) - 1) - 1) - 1))), .val (.int (0 : Int32))] []) _
              obtain ⟨vs_559, hl_560, V_561⟩ : ∃ ws : List Value, N ≤ ws.length ∧ Arv Z h_553 t kb .byte (Int32.ofNat N) ws (.int 0) := ⟨_, (by rw [List.length_set]; exact hl_545), V_558⟩
              refine k_pure (g' := (mkF m 106 #[.val (.int i_530), .val (.int (Int32.ofNat q)), .val (.ref t), .val (.int i_530), .val (.int i_504), .val (.int (Int32.ofNat ((((((((q - 1) - 1) - 1) - 1) - 1) - 1) - 1) - 1))), .val (.int (0 : Int32))] [(.int (0 : Int32))])) (fun TT HH tt kk => XS.iload HH hx rfl (hb hby d_jdk_33_m_12_104) rfl kk) ?_
              refine k_pure (g' := (mkF m 118 #[.val (.int i_530), .val (.int (Int32.ofNat q)), .val (.ref t), .val (.int i_530), .val (.int i_504), .val (.int (Int32.ofNat ((((((((q - 1) - 1) - 1) - 1) - 1) - 1) - 1) - 1))), .val (.int (0 : Int32))] [])) (fun TT HH tt kk => XS.ifYes HH hx rfl (pc0 := 106) (pc' := 118) rfl (hb hby d_jdk_33_m_12_106) rfl ((if0 _ _).trans (teq (by decide : ((0 : Int32) = (0 : Int32)))).1) (by decide) (by decide) kk) ?_
              refine k_pure (g' := (mkF m 120 #[.val (.int i_530), .val (.int (Int32.ofNat q)), .val (.ref t), .val (.int i_530), .val (.int i_504), .val (.int (Int32.ofNat ((((((((q - 1) - 1) - 1) - 1) - 1) - 1) - 1) - 1))), .val (.int (0 : Int32))] [(.int (Int32.ofNat ((((((((q - 1) - 1) - 1) - 1) - 1) - 1) - 1) - 1)))])) (fun TT HH tt kk => XS.iload HH hx rfl (hb hby d_jdk_33_m_12_118) rfl kk) ?_
              exact k_retI hx hlk hret (hb hby d_jdk_33_m_12_120) (by decide) (by decide) ⟨_, _, rfl, rfl, (((((((((Keep.refl _ _).wr W_395 (Or.inl (by simp))).wr W_407 (Or.inl (by simp))).wr W_453 (Or.inl (by simp))).wr W_465 (Or.inl (by simp))).wr W_511 (Or.inl (by simp))).wr W_523 (Or.inl (by simp))).wr W_540 (Or.inl (by simp))).wr W_555 (Or.inl (by simp))), V_561⟩
            · refine k_pure (g' := (mkF m 104 #[.val (.int i_530), .val (.int (Int32.ofNat q)), .val (.ref t), .val (.int i_530), .val (.int i_504), .val (.int (Int32.ofNat (((((((q - 1) - 1) - 1) - 1) - 1) - 1) - 1))), .val (.int (0 : Int32))] [])) (fun TT HH tt kk => XS.icmpYes HH hx rfl (pc0 := 88) (pc' := 104) rfl (hb hby d_jdk_33_m_12_88) rfl (flt c_547).2.1 (by decide) (by decide) kk) ?_
              refine k_pure (g' := (mkF m 106 #[.val (.int i_530), .val (.int (Int32.ofNat q)), .val (.ref t), .val (.int i_530), .val (.int i_504), .val (.int (Int32.ofNat (((((((q - 1) - 1) - 1) - 1) - 1) - 1) - 1))), .val (.int (0 : Int32))] [(.int (0 : Int32))])) (fun TT HH tt kk => XS.iload HH hx rfl (hb hby d_jdk_33_m_12_104) rfl kk) ?_
              refine k_pure (g' := (mkF m 118 #[.val (.int i_530), .val (.int (Int32.ofNat q)), .val (.ref t), .val (.int i_530), .val (.int i_504), .val (.int (Int32.ofNat (((((((q - 1) - 1) - 1) - 1) - 1) - 1) - 1))), .val (.int (0 : Int32))] [])) (fun TT HH tt kk => XS.ifYes HH hx rfl (pc0 := 106) (pc' := 118) rfl (hb hby d_jdk_33_m_12_106) rfl ((if0 _ _).trans (teq (by decide : ((0 : Int32) = (0 : Int32)))).1) (by decide) (by decide) kk) ?_
              refine k_pure (g' := (mkF m 120 #[.val (.int i_530), .val (.int (Int32.ofNat q)), .val (.ref t), .val (.int i_530), .val (.int i_504), .val (.int (Int32.ofNat (((((((q - 1) - 1) - 1) - 1) - 1) - 1) - 1))), .val (.int (0 : Int32))] [(.int (Int32.ofNat (((((((q - 1) - 1) - 1) - 1) - 1) - 1) - 1)))])) (fun TT HH tt kk => XS.iload HH hx rfl (hb hby d_jdk_33_m_12_118) rfl kk) ?_
              exact k_retI hx hlk hret (hb hby d_jdk_33_m_12_120) (by decide) (by decide) ⟨_, _, rfl, rfl, ((((((((Keep.refl _ _).wr W_395 (Or.inl (by simp))).wr W_407 (Or.inl (by simp))).wr W_453 (Or.inl (by simp))).wr W_465 (Or.inl (by simp))).wr W_511 (Or.inl (by simp))).wr W_523 (Or.inl (by simp))).wr W_540 (Or.inl (by simp))), V_546⟩
          · refine k_pure (g' := (mkF m 28 #[.val (.int i_530), .val (.int (Int32.ofNat q)), .val (.ref t), .val (.int i_530), .val (.int i_504), .val (.int (Int32.ofNat ((((((q - 1) - 1) - 1) - 1) - 1) - 1))), .val (.int (0 : Int32))] [])) (fun TT HH tt kk => XS.icmpNo HH hx rfl (hb hby d_jdk_33_m_12_25) rfl (flt c_532).2.2.1 kk) ?_
            refine k_pure (g' := (mkF m 29 #[.val (.int i_530), .val (.int (Int32.ofNat q)), .val (.ref t), .val (.int i_530), .val (.int i_504), .val (.int (Int32.ofNat ((((((q - 1) - 1) - 1) - 1) - 1) - 1))), .val (.int (0 : Int32))] [(.int i_530)])) (fun TT HH tt kk => XS.iloadN HH hx rfl (hb hby d_jdk_33_m_12_28) rfl kk) ?_
            refine k_pure (g' := (mkF m 31 #[.val (.int i_530), .val (.int (Int32.ofNat q)), .val (.ref t), .val (.int i_530), .val (.int i_504), .val (.int (Int32.ofNat ((((((q - 1) - 1) - 1) - 1) - 1) - 1))), .val (.int (0 : Int32))] [(.int (100 : Int32)), (.int i_530)])) (fun TT HH tt kk => XS.bipush HH hx rfl (hb hby d_jdk_33_m_12_29) kk) ?_
            refine k_pure (g' := (mkF m 32 #[.val (.int i_530), .val (.int (Int32.ofNat q)), .val (.ref t), .val (.int i_530), .val (.int i_504), .val (.int (Int32.ofNat ((((((q - 1) - 1) - 1) - 1) - 1) - 1))), .val (.int (0 : Int32))] [(.int (i_530 / (100 : Int32)))])) (fun TT HH tt kk => XS.idiv HH hx rfl (hb hby d_jdk_33_m_12_31) rfl (by decide) kk) ?_
            refine k_pure (g' := (mkF m 33 #[.val (.int i_530), .val (.int (Int32.ofNat q)), .val (.ref t), .val (.int (i_530 / (100 : Int32))), .val (.int i_504), .val (.int (Int32.ofNat ((((((q - 1) - 1) - 1) - 1) - 1) - 1))), .val (.int (0 : Int32))] [])) (fun TT HH tt kk => XS.istoreN HH hx rfl (hb hby d_jdk_33_m_12_32) rfl (l' := #[.val (.int i_530), .val (.int (Int32.ofNat q)), .val (.ref t), .val (.int (i_530 / (100 : Int32))), .val (.int i_504), .val (.int (Int32.ofNat ((((((q - 1) - 1) - 1) - 1) - 1) - 1))), .val (.int (0 : Int32))]) rfl kk) ?_
            refine k_pure (g' := (mkF m 34 #[.val (.int i_530), .val (.int (Int32.ofNat q)), .val (.ref t), .val (.int (i_530 / (100 : Int32))), .val (.int i_504), .val (.int (Int32.ofNat ((((((q - 1) - 1) - 1) - 1) - 1) - 1))), .val (.int (0 : Int32))] [(.int (i_530 / (100 : Int32)))])) (fun TT HH tt kk => XS.iloadN HH hx rfl (hb hby d_jdk_33_m_12_33) rfl kk) ?_
            refine k_pure (g' := (mkF m 36 #[.val (.int i_530), .val (.int (Int32.ofNat q)), .val (.ref t), .val (.int (i_530 / (100 : Int32))), .val (.int i_504), .val (.int (Int32.ofNat ((((((q - 1) - 1) - 1) - 1) - 1) - 1))), .val (.int (0 : Int32))] [(.int (100 : Int32)), (.int (i_530 / (100 : Int32)))])) (fun TT HH tt kk => XS.bipush HH hx rfl (hb hby d_jdk_33_m_12_34) kk) ?_
            refine k_pure (g' := (mkF m 37 #[.val (.int i_530), .val (.int (Int32.ofNat q)), .val (.ref t), .val (.int (i_530 / (100 : Int32))), .val (.int i_504), .val (.int (Int32.ofNat ((((((q - 1) - 1) - 1) - 1) - 1) - 1))), .val (.int (0 : Int32))] [(.int ((i_530 / (100 : Int32)) * (100 : Int32)))])) (fun TT HH tt kk => XS.imul HH hx rfl (hb hby d_jdk_33_m_12_36) rfl kk) ?_
            refine k_pure (g' := (mkF m 38 #[.val (.int i_530), .val (.int (Int32.ofNat q)), .val (.ref t), .val (.int (i_530 / (100 : Int32))), .val (.int i_504), .val (.int (Int32.ofNat ((((((q - 1) - 1) - 1) - 1) - 1) - 1))), .val (.int (0 : Int32))] [(.int i_530), (.int ((i_530 / (100 : Int32)) * (100 : Int32)))])) (fun TT HH tt kk => XS.iloadN HH hx rfl (hb hby d_jdk_33_m_12_37) rfl kk) ?_
            refine k_pure (g' := (mkF m 39 #[.val (.int i_530), .val (.int (Int32.ofNat q)), .val (.ref t), .val (.int (i_530 / (100 : Int32))), .val (.int i_504), .val (.int (Int32.ofNat ((((((q - 1) - 1) - 1) - 1) - 1) - 1))), .val (.int (0 : Int32))] [(.int (((i_530 / (100 : Int32)) * (100 : Int32)) - i_530))])) (fun TT HH tt kk => XS.isub HH hx rfl (hb hby d_jdk_33_m_12_38) rfl kk) ?_
            refine k_pure (g' := (mkF m 41 #[.val (.int i_530), .val (.int (Int32.ofNat q)), .val (.ref t), .val (.int (i_530 / (100 : Int32))), .val (.int (((i_530 / (100 : Int32)) * (100 : Int32)) - i_530)), .val (.int (Int32.ofNat ((((((q - 1) - 1) - 1) - 1) - 1) - 1))), .val (.int (0 : Int32))] [])) (fun TT HH tt kk => XS.istore HH hx rfl (hb hby d_jdk_33_m_12_39) rfl (l' := #[.val (.int i_530), .val (.int (Int32.ofNat q)), .val (.ref t), .val (.int (i_530 / (100 : Int32))), .val (.int (((i_530 / (100 : Int32)) * (100 : Int32)) - i_530)), .val (.int (Int32.ofNat ((((((q - 1) - 1) - 1) - 1) - 1) - 1))), .val (.int (0 : Int32))]) rfl kk) ?_
            refine k_pure (g' := (mkF m 42 #[.val (.int i_530), .val (.int (Int32.ofNat q)), .val (.ref t), .val (.int (i_530 / (100 : Int32))), .val (.int (((i_530 / (100 : Int32)) * (100 : Int32)) - i_530)), .val (.int (Int32.ofNat ((((((q - 1) - 1) - 1) - 1) - 1) - 1))), .val (.int (0 : Int32))] [(.int (i_530 / (100 : Int32)))])) (fun TT HH tt kk => XS.iloadN HH hx rfl (hb hby d_jdk_33_m_12_41) rfl kk) ?_
            refine k_pure (g' := (mkF m 43 #[.val (.int (i_530 / (100 : Int32))), .val (.int (Int32.ofNat q)), .val (.ref t), .val (.int (i_530 / (100 : Int32))), .val (.int (((i_530 / (100 : Int32)) * (100 : Int32)) - i_530)), .val (.int (Int32.ofNat ((((((q - 1) - 1) - 1) - 1) - 1) - 1))), .val (.int (0 : Int32))] [])) (fun TT HH tt kk => XS.istoreN HH hx rfl (hb hby d_jdk_33_m_12_42) rfl (l' := #[.val (.int (i_530 / (100 : Int32))), .val (.int (Int32.ofNat q)), .val (.ref t), .val (.int (i_530 / (100 : Int32))), .val (.int (((i_530 / (100 : Int32)) * (100 : Int32)) - i_530)), .val (.int (Int32.ofNat ((((((q - 1) - 1) - 1) - 1) - 1) - 1))), .val (.int (0 : Int32))]) rfl kk) ?_
            have hr_563 : 0 ≤ ((((i_530 / (100 : Int32)) * (100 : Int32)) - i_530)).toInt ∧ ((((i_530 / (100 : Int32)) * (100 : Int32)) - i_530)).toInt ≤ 99 := (by have r0 : ((-100) : Int32).toInt = (-100) := (by decide); have r1 := rng32 i_530; have r2 := c_idiv i_530 (100 : Int32) 100 (by decide) (by decide); have r3 := rng32 (i_530 / (100 : Int32)); have r4 := (by have q := c_imul (i_530 / (100 : Int32)) (100 : Int32); rw [show (100 : Int32).toInt = 100 from by decide] at q; exact q); have r5 := rng32 ((i_530 / (100 : Int32)) * (100 : Int32)); have r6 := c_isub ((i_530 / (100 : Int32)) * (100 : Int32)) i_530; have r7 := rng32 (((i_530 / (100 : Int32)) * (100 : Int32)) - i_530); have r8 : ¬ (((-100) : Int32)).toInt < (i_530).toInt := fun q => c_532 (Int32.lt_iff_toInt_lt.mpr q); have r9 := hb_531; omega)
            generalize (((i_530 / (100 : Int32)) * (100 : Int32)) - i_530) = i_562 at hr_563 ⊢
            show Run p l e _ s m _ below meth c Z EL1 _ n0 bk h_521 0 0 (mkF m 43 #[.val (.int (i_530 / (100 : Int32))), .val (.int (Int32.ofNat q)), .val (.ref t), .val (.int (i_530 / (100 : Int32))), .val (.int i_562), .val (.int (Int32.ofNat ((((((q - 1) - 1) - 1) - 1) - 1) - 1))), .val (.int (0 : Int32))] []) _
            refine k_pure (g' := (mkF m 44 #[.val (.int (i_530 / (100 : Int32))), .val (.int (Int32.ofNat q)), .val (.ref t), .val (.int (i_530 / (100 : Int32))), .val (.int i_562), .val (.int (Int32.ofNat ((((((q - 1) - 1) - 1) - 1) - 1) - 1))), .val (.int (0 : Int32))] [(.ref t)])) (fun TT HH tt kk => XS.aloadN HH hx rfl (hb hby d_jdk_33_m_12_43) rfl rfl kk) ?_
            refine k_pure (g' := (mkF m 47 #[.val (.int (i_530 / (100 : Int32))), .val (.int (Int32.ofNat q)), .val (.ref t), .val (.int (i_530 / (100 : Int32))), .val (.int i_562), .val (.int ((Int32.ofNat ((((((q - 1) - 1) - 1) - 1) - 1) - 1)) + ((-1) : Int32))), .val (.int (0 : Int32))] [(.ref t)])) (fun TT HH tt kk => XS.iinc HH hx rfl (hb hby d_jdk_33_m_12_44) rfl (l' := #[.val (.int (i_530 / (100 : Int32))), .val (.int (Int32.ofNat q)), .val (.ref t), .val (.int (i_530 / (100 : Int32))), .val (.int i_562), .val (.int ((Int32.ofNat ((((((q - 1) - 1) - 1) - 1) - 1) - 1)) + ((-1) : Int32))), .val (.int (0 : Int32))]) rfl kk) ?_
            rw [dec_ofNat (by omega) (by omega)]
            show Run p l e _ s m _ below meth c Z EL1 _ n0 bk h_521 0 0 (mkF m 47 #[.val (.int (i_530 / (100 : Int32))), .val (.int (Int32.ofNat q)), .val (.ref t), .val (.int (i_530 / (100 : Int32))), .val (.int i_562), .val (.int (Int32.ofNat (((((((q - 1) - 1) - 1) - 1) - 1) - 1) - 1))), .val (.int (0 : Int32))] [(.ref t)]) _
            refine k_pure (g' := (mkF m 49 #[.val (.int (i_530 / (100 : Int32))), .val (.int (Int32.ofNat q)), .val (.ref t), .val (.int (i_530 / (100 : Int32))), .val (.int i_562), .val (.int (Int32.ofNat (((((((q - 1) - 1) - 1) - 1) - 1) - 1) - 1))), .val (.int (0 : Int32))] [(.int (Int32.ofNat (((((((q - 1) - 1) - 1) - 1) - 1) - 1) - 1))), (.ref t)])) (fun TT HH tt kk => XS.iload HH hx rfl (hb hby d_jdk_33_m_12_47) rfl kk) ?_
            refine k_getS hx (host := "") (Or.inl (hw _ (List.mem_of_getElem? (i := 128) rfl))) Via.refl (s_d1.ext O_522.2) rfl (hb hby d_jdk_33_m_12_49) ?_
            show Run p l e _ s m _ below meth c Z EL1 _ n0 bk h_521 0 0 (mkF m 52 #[.val (.int (i_530 / (100 : Int32))), .val (.int (Int32.ofNat q)), .val (.ref t), .val (.int (i_530 / (100 : Int32))), .val (.int i_562), .val (.int (Int32.ofNat (((((((q - 1) - 1) - 1) - 1) - 1) - 1) - 1))), .val (.int (0 : Int32))] [(.ref d1), (.int (Int32.ofNat (((((((q - 1) - 1) - 1) - 1) - 1) - 1) - 1))), (.ref t)]) _
            refine k_pure (g' := (mkF m 54 #[.val (.int (i_530 / (100 : Int32))), .val (.int (Int32.ofNat q)), .val (.ref t), .val (.int (i_530 / (100 : Int32))), .val (.int i_562), .val (.int (Int32.ofNat (((((((q - 1) - 1) - 1) - 1) - 1) - 1) - 1))), .val (.int (0 : Int32))] [(.int i_562), (.ref d1), (.int (Int32.ofNat (((((((q - 1) - 1) - 1) - 1) - 1) - 1) - 1))), (.ref t)])) (fun TT HH tt kk => XS.iload HH hx rfl (hb hby d_jdk_33_m_12_52) rfl kk) ?_
            have F_564 : Arv Z h_521 d1 kd1 .byte (100 : Int32) w1 (.int 0) := a_d1.ext O_522.2
            obtain ⟨x_565, hv_566⟩ := aget_int F_564 (i := (i_562).toNatClampNeg) (dig_lt hr_563)
            refine k_aget hx (v := (.int x_565)) F_564 (dig_in hr_563) hv_566 (Or.inr (Or.inr (Or.inr (Or.inl ⟨rfl, rfl⟩)))) rfl rfl (hb hby d_jdk_33_m_12_54) ?_
            show Run p l e _ s m _ below meth c Z EL1 _ n0 bk h_521 0 0 (mkF m 55 #[.val (.int (i_530 / (100 : Int32))), .val (.int (Int32.ofNat q)), .val (.ref t), .val (.int (i_530 / (100 : Int32))), .val (.int i_562), .val (.int (Int32.ofNat (((((((q - 1) - 1) - 1) - 1) - 1) - 1) - 1))), .val (.int (0 : Int32))] [(.int x_565), (.int (Int32.ofNat (((((((q - 1) - 1) - 1) - 1) - 1) - 1) - 1))), (.ref t)]) _
            refine k_stB hx V_529 (idx_ok (i := (((((((q - 1) - 1) - 1) - 1) - 1) - 1) - 1)) (n := N) (by omega) (by omega)) ((((((((q - 1) - 1) - 1) - 1) - 1) - 1) - 1)) (clampN (by omega)) (Nat.lt_of_lt_of_le (show (((((((q - 1) - 1) - 1) - 1) - 1) - 1) - 1) < N by omega) hl_528) (by omega) nbt rfl rfl (hb hby d_jdk_33_m_12_55) ?_
            intro h_567 O_568 W_569 A_570
            have z_571 := W_569.size
            have V_572 : Arv Z h_567 t kb .byte (Int32.ofNat N) (vs_527.set ((((((((q - 1) - 1) - 1) - 1) - 1) - 1) - 1)) (.int (nar .byte x_565))) (.int 0) := A_570
            show Run p l e _ s m _ below meth c Z EL1 _ n0 bk h_567 0 0 (mkF m 56 #[.val (.int (i_530 / (100 : Int32))), .val (.int (Int32.ofNat q)), .val (.ref t), .val (.int (i_530 / (100 : Int32))), .val (.int i_562), .val (.int (Int32.ofNat (((((((q - 1) - 1) - 1) - 1) - 1) - 1) - 1))), .val (.int (0 : Int32))] []) _
            obtain ⟨vs_573, hl_574, V_575⟩ : ∃ ws : List Value, N ≤ ws.length ∧ Arv Z h_567 t kb .byte (Int32.ofNat N) ws (.int 0) := ⟨_, (by rw [List.length_set]; exact hl_528), V_572⟩
            refine k_pure (g' := (mkF m 57 #[.val (.int (i_530 / (100 : Int32))), .val (.int (Int32.ofNat q)), .val (.ref t), .val (.int (i_530 / (100 : Int32))), .val (.int i_562), .val (.int (Int32.ofNat (((((((q - 1) - 1) - 1) - 1) - 1) - 1) - 1))), .val (.int (0 : Int32))] [(.ref t)])) (fun TT HH tt kk => XS.aloadN HH hx rfl (hb hby d_jdk_33_m_12_56) rfl rfl kk) ?_
            refine k_pure (g' := (mkF m 60 #[.val (.int (i_530 / (100 : Int32))), .val (.int (Int32.ofNat q)), .val (.ref t), .val (.int (i_530 / (100 : Int32))), .val (.int i_562), .val (.int ((Int32.ofNat (((((((q - 1) - 1) - 1) - 1) - 1) - 1) - 1)) + ((-1) : Int32))), .val (.int (0 : Int32))] [(.ref t)])) (fun TT HH tt kk => XS.iinc HH hx rfl (hb hby d_jdk_33_m_12_57) rfl (l' := #[.val (.int (i_530 / (100 : Int32))), .val (.int (Int32.ofNat q)), .val (.ref t), .val (.int (i_530 / (100 : Int32))), .val (.int i_562), .val (.int ((Int32.ofNat (((((((q - 1) - 1) - 1) - 1) - 1) - 1) - 1)) + ((-1) : Int32))), .val (.int (0 : Int32))]) rfl kk) ?_
            rw [dec_ofNat (by omega) (by omega)]
            show Run p l e _ s m _ below meth c Z EL1 _ n0 bk h_567 0 0 (mkF m 60 #[.val (.int (i_530 / (100 : Int32))), .val (.int (Int32.ofNat q)), .val (.ref t), .val (.int (i_530 / (100 : Int32))), .val (.int i_562), .val (.int (Int32.ofNat ((((((((q - 1) - 1) - 1) - 1) - 1) - 1) - 1) - 1))), .val (.int (0 : Int32))] [(.ref t)]) _
            refine k_pure (g' := (mkF m 62 #[.val (.int (i_530 / (100 : Int32))), .val (.int (Int32.ofNat q)), .val (.ref t), .val (.int (i_530 / (100 : Int32))), .val (.int i_562), .val (.int (Int32.ofNat ((((((((q - 1) - 1) - 1) - 1) - 1) - 1) - 1) - 1))), .val (.int (0 : Int32))] [(.int (Int32.ofNat ((((((((q - 1) - 1) - 1) - 1) - 1) - 1) - 1) - 1))), (.ref t)])) (fun TT HH tt kk => XS.iload HH hx rfl (hb hby d_jdk_33_m_12_60) rfl kk) ?_
            refine k_getS hx (host := "") (Or.inl (hw _ (List.mem_of_getElem? (i := 199) rfl))) Via.refl (s_d2.ext O_568.2) rfl (hb hby d_jdk_33_m_12_62) ?_
            show Run p l e _ s m _ below meth c Z EL1 _ n0 bk h_567 0 0 (mkF m 65 #[.val (.int (i_530 / (100 : Int32))), .val (.int (Int32.ofNat q)), .val (.ref t), .val (.int (i_530 / (100 : Int32))), .val (.int i_562), .val (.int (Int32.ofNat ((((((((q - 1) - 1) - 1) - 1) - 1) - 1) - 1) - 1))), .val (.int (0 : Int32))] [(.ref d2), (.int (Int32.ofNat ((((((((q - 1) - 1) - 1) - 1) - 1) - 1) - 1) - 1))), (.ref t)]) _
            refine k_pure (g' := (mkF m 67 #[.val (.int (i_530 / (100 : Int32))), .val (.int (Int32.ofNat q)), .val (.ref t), .val (.int (i_530 / (100 : Int32))), .val (.int i_562), .val (.int (Int32.ofNat ((((((((q - 1) - 1) - 1) - 1) - 1) - 1) - 1) - 1))), .val (.int (0 : Int32))] [(.int i_562), (.ref d2), (.int (Int32.ofNat ((((((((q - 1) - 1) - 1) - 1) - 1) - 1) - 1) - 1))), (.ref t)])) (fun TT HH tt kk => XS.iload HH hx rfl (hb hby d_jdk_33_m_12_65) rfl kk) ?_
            have F_576 : Arv Z h_567 d2 kd2 .byte (100 : Int32) w2 (.int 0) := a_d2.ext O_568.2
            obtain ⟨x_577, hv_578⟩ := aget_int F_576 (i := (i_562).toNatClampNeg) (dig_lt hr_563)
            refine k_aget hx (v := (.int x_577)) F_576 (dig_in hr_563) hv_578 (Or.inr (Or.inr (Or.inr (Or.inl ⟨rfl, rfl⟩)))) rfl rfl (hb hby d_jdk_33_m_12_67) ?_
            show Run p l e _ s m _ below meth c Z EL1 _ n0 bk h_567 0 0 (mkF m 68 #[.val (.int (i_530 / (100 : Int32))), .val (.int (Int32.ofNat q)), .val (.ref t), .val (.int (i_530 / (100 : Int32))), .val (.int i_562), .val (.int (Int32.ofNat ((((((((q - 1) - 1) - 1) - 1) - 1) - 1) - 1) - 1))), .val (.int (0 : Int32))] [(.int x_577), (.int (Int32.ofNat ((((((((q - 1) - 1) - 1) - 1) - 1) - 1) - 1) - 1))), (.ref t)]) _
            refine k_stB hx V_575 (idx_ok (i := ((((((((q - 1) - 1) - 1) - 1) - 1) - 1) - 1) - 1)) (n := N) (by omega) (by omega)) (((((((((q - 1) - 1) - 1) - 1) - 1) - 1) - 1) - 1)) (clampN (by omega)) (Nat.lt_of_lt_of_le (show ((((((((q - 1) - 1) - 1) - 1) - 1) - 1) - 1) - 1) < N by omega) hl_574) (by omega) nbt rfl rfl (hb hby d_jdk_33_m_12_68) ?_
            intro h_579 O_580 W_581 A_582
            have z_583 := W_581.size
            have V_584 : Arv Z h_579 t kb .byte (Int32.ofNat N) (vs_573.set (((((((((q - 1) - 1) - 1) - 1) - 1) - 1) - 1) - 1)) (.int (nar .byte x_577))) (.int 0) := A_582
            show Run p l e _ s m _ below meth c Z EL1 _ n0 bk h_579 0 0 (mkF m 69 #[.val (.int (i_530 / (100 : Int32))), .val (.int (Int32.ofNat q)), .val (.ref t), .val (.int (i_530 / (100 : Int32))), .val (.int i_562), .val (.int (Int32.ofNat ((((((((q - 1) - 1) - 1) - 1) - 1) - 1) - 1) - 1))), .val (.int (0 : Int32))] []) _
            obtain ⟨vs_585, hl_586, V_587⟩ : ∃ ws : List Value, N ≤ ws.length ∧ Arv Z h_579 t kb .byte (Int32.ofNat N) ws (.int 0) := ⟨_, (by rw [List.length_set]; exact hl_574), V_584⟩
            refine k_pure (g' := (mkF m 22 #[.val (.int (i_530 / (100 : Int32))), .val (.int (Int32.ofNat q)), .val (.ref t), .val (.int (i_530 / (100 : Int32))), .val (.int i_562), .val (.int (Int32.ofNat ((((((((q - 1) - 1) - 1) - 1) - 1) - 1) - 1) - 1))), .val (.int (0 : Int32))] [])) (fun TT HH tt kk => XS.goto HH hx rfl (pc0 := 69) (pc' := 22) rfl (hb hby d_jdk_33_m_12_69) (by decide) (by decide) kk) ?_
            have hb_589 : -21 ≤ ((i_530 / (100 : Int32))).toInt ∧ ((i_530 / (100 : Int32))).toInt ≤ 0 := (by have r0 : ((-100) : Int32).toInt = (-100) := (by decide); have r1 := rng32 i_530; have r2 := c_idiv i_530 (100 : Int32) 100 (by decide) (by decide); have r3 := rng32 (i_530 / (100 : Int32)); have r4 : ¬ (((-100) : Int32)).toInt < (i_530).toInt := fun q => c_532 (Int32.lt_iff_toInt_lt.mpr q); have r5 := hb_531; omega)
            generalize (i_530 / (100 : Int32)) = i_588 at hb_589 ⊢
            show Run p l e _ s m _ below meth c Z EL1 _ n0 bk h_579 0 0 (mkF m 22 #[.val (.int i_588), .val (.int (Int32.ofNat q)), .val (.ref t), .val (.int i_588), .val (.int i_562), .val (.int (Int32.ofNat ((((((((q - 1) - 1) - 1) - 1) - 1) - 1) - 1) - 1))), .val (.int (0 : Int32))] []) _
            refine k_pure (g' := (mkF m 23 #[.val (.int i_588), .val (.int (Int32.ofNat q)), .val (.ref t), .val (.int i_588), .val (.int i_562), .val (.int (Int32.ofNat ((((((((q - 1) - 1) - 1) - 1) - 1) - 1) - 1) - 1))), .val (.int (0 : Int32))] [(.int i_588)])) (fun TT HH tt kk => XS.iloadN HH hx rfl (hb hby d_jdk_33_m_12_22) rfl kk) ?_
            refine k_pure (g' := (mkF m 25 #[.val (.int i_588), .val (.int (Int32.ofNat q)), .val (.ref t), .val (.int i_588), .val (.int i_562), .val (.int (Int32.ofNat ((((((((q - 1) - 1) - 1) - 1) - 1) - 1) - 1) - 1))), .val (.int (0 : Int32))] [(.int ((-100) : Int32)), (.int i_588)])) (fun TT HH tt kk => XS.bipush HH hx rfl (hb hby d_jdk_33_m_12_23) kk) ?_
            refine k_pure (g' := (mkF m 72 #[.val (.int i_588), .val (.int (Int32.ofNat q)), .val (.ref t), .val (.int i_588), .val (.int i_562), .val (.int (Int32.ofNat ((((((((q - 1) - 1) - 1) - 1) - 1) - 1) - 1) - 1))), .val (.int (0 : Int32))] [])) (fun TT HH tt kk => XS.icmpYes HH hx rfl (pc0 := 25) (pc' := 72) rfl (hb hby d_jdk_33_m_12_25) rfl (tlt (by have r0 : ((-100) : Int32).toInt = (-100) := (by decide); have r1 := rng32 i_588; have r2 := hb_589; rw [Int32.lt_iff_toInt_lt]; omega)).2.2.1 (by decide) (by decide) kk) ?_
            refine k_pure (g' := (mkF m 73 #[.val (.int i_588), .val (.int (Int32.ofNat q)), .val (.ref t), .val (.int i_588), .val (.int i_562), .val (.int (Int32.ofNat ((((((((q - 1) - 1) - 1) - 1) - 1) - 1) - 1) - 1))), .val (.int (0 : Int32))] [(.ref t)])) (fun TT HH tt kk => XS.aloadN HH hx rfl (hb hby d_jdk_33_m_12_72) rfl rfl kk) ?_
            refine k_pure (g' := (mkF m 76 #[.val (.int i_588), .val (.int (Int32.ofNat q)), .val (.ref t), .val (.int i_588), .val (.int i_562), .val (.int ((Int32.ofNat ((((((((q - 1) - 1) - 1) - 1) - 1) - 1) - 1) - 1)) + ((-1) : Int32))), .val (.int (0 : Int32))] [(.ref t)])) (fun TT HH tt kk => XS.iinc HH hx rfl (hb hby d_jdk_33_m_12_73) rfl (l' := #[.val (.int i_588), .val (.int (Int32.ofNat q)), .val (.ref t), .val (.int i_588), .val (.int i_562), .val (.int ((Int32.ofNat ((((((((q - 1) - 1) - 1) - 1) - 1) - 1) - 1) - 1)) + ((-1) : Int32))), .val (.int (0 : Int32))]) rfl kk) ?_
            rw [dec_ofNat (by omega) (by omega)]
            show Run p l e _ s m _ below meth c Z EL1 _ n0 bk h_579 0 0 (mkF m 76 #[.val (.int i_588), .val (.int (Int32.ofNat q)), .val (.ref t), .val (.int i_588), .val (.int i_562), .val (.int (Int32.ofNat (((((((((q - 1) - 1) - 1) - 1) - 1) - 1) - 1) - 1) - 1))), .val (.int (0 : Int32))] [(.ref t)]) _
            refine k_pure (g' := (mkF m 78 #[.val (.int i_588), .val (.int (Int32.ofNat q)), .val (.ref t), .val (.int i_588), .val (.int i_562), .val (.int (Int32.ofNat (((((((((q - 1) - 1) - 1) - 1) - 1) - 1) - 1) - 1) - 1))), .val (.int (0 : Int32))] [(.int (Int32.ofNat (((((((((q - 1) - 1) - 1) - 1) - 1) - 1) - 1) - 1) - 1))), (.ref t)])) (fun TT HH tt kk => XS.iload HH hx rfl (hb hby d_jdk_33_m_12_76) rfl kk) ?_
            refine k_getS hx (host := "") (Or.inl (hw _ (List.mem_of_getElem? (i := 128) rfl))) Via.refl (s_d1.ext O_580.2) rfl (hb hby d_jdk_33_m_12_78) ?_
            show Run p l e _ s m _ below meth c Z EL1 _ n0 bk h_579 0 0 (mkF m 81 #[.val (.int i_588), .val (.int (Int32.ofNat q)), .val (.ref t), .val (.int i_588), .val (.int i_562), .val (.int (Int32.ofNat (((((((((q - 1) - 1) - 1) - 1) - 1) - 1) - 1) - 1) - 1))), .val (.int (0 : Int32))] [(.ref d1), (.int (Int32.ofNat (((((((((q - 1) - 1) - 1) - 1) - 1) - 1) - 1) - 1) - 1))), (.ref t)]) _
            refine k_pure (g' := (mkF m 82 #[.val (.int i_588), .val (.int (Int32.ofNat q)), .val (.ref t), .val (.int i_588), .val (.int i_562), .val (.int (Int32.ofNat (((((((((q - 1) - 1) - 1) - 1) - 1) - 1) - 1) - 1) - 1))), .val (.int (0 : Int32))] [(.int i_588), (.ref d1), (.int (Int32.ofNat (((((((((q - 1) - 1) - 1) - 1) - 1) - 1) - 1) - 1) - 1))), (.ref t)])) (fun TT HH tt kk => XS.iloadN HH hx rfl (hb hby d_jdk_33_m_12_81) rfl kk) ?_
            refine k_pure (g' := (mkF m 83 #[.val (.int i_588), .val (.int (Int32.ofNat q)), .val (.ref t), .val (.int i_588), .val (.int i_562), .val (.int (Int32.ofNat (((((((((q - 1) - 1) - 1) - 1) - 1) - 1) - 1) - 1) - 1))), .val (.int (0 : Int32))] [(.int (-i_588)), (.ref d1), (.int (Int32.ofNat (((((((((q - 1) - 1) - 1) - 1) - 1) - 1) - 1) - 1) - 1))), (.ref t)])) (fun TT HH tt kk => XS.ineg HH hx rfl (hb hby d_jdk_33_m_12_82) rfl kk) ?_
            have hr_591 : 0 ≤ ((-i_588)).toInt ∧ ((-i_588)).toInt ≤ 99 := (by have r0 := rng32 i_588; have r1 := c_ineg i_588; have r2 := rng32 (-i_588); have r3 := hb_589; omega)
            generalize (-i_588) = i_590 at hr_591 ⊢
            show Run p l e _ s m _ below meth c Z EL1 _ n0 bk h_579 0 0 (mkF m 83 #[.val (.int i_588), .val (.int (Int32.ofNat q)), .val (.ref t), .val (.int i_588), .val (.int i_562), .val (.int (Int32.ofNat (((((((((q - 1) - 1) - 1) - 1) - 1) - 1) - 1) - 1) - 1))), .val (.int (0 : Int32))] [(.int i_590), (.ref d1), (.int (Int32.ofNat (((((((((q - 1) - 1) - 1) - 1) - 1) - 1) - 1) - 1) - 1))), (.ref t)]) _
            have F_592 : Arv Z h_579 d1 kd1 .byte (100 : Int32) w1 (.int 0) := a_d1.ext O_580.2
            obtain ⟨x_593, hv_594⟩ := aget_int F_592 (i := (i_590).toNatClampNeg) (dig_lt hr_591)
            refine k_aget hx (v := (.int x_593)) F_592 (dig_in hr_591) hv_594 (Or.inr (Or.inr (Or.inr (Or.inl ⟨rfl, rfl⟩)))) rfl rfl (hb hby d_jdk_33_m_12_83) ?_
            show Run p l e _ s m _ below meth c Z EL1 _ n0 bk h_579 0 0 (mkF m 84 #[.val (.int i_588), .val (.int (Int32.ofNat q)), .val (.ref t), .val (.int i_588), .val (.int i_562), .val (.int (Int32.ofNat (((((((((q - 1) - 1) - 1) - 1) - 1) - 1) - 1) - 1) - 1))), .val (.int (0 : Int32))] [(.int x_593), (.int (Int32.ofNat (((((((((q - 1) - 1) - 1) - 1) - 1) - 1) - 1) - 1) - 1))), (.ref t)]) _
            refine k_stB hx V_587 (idx_ok (i := (((((((((q - 1) - 1) - 1) - 1) - 1) - 1) - 1) - 1) - 1)) (n := N) (by omega) (by omega)) ((((((((((q - 1) - 1) - 1) - 1) - 1) - 1) - 1) - 1) - 1)) (clampN (by omega)) (Nat.lt_of_lt_of_le (show (((((((((q - 1) - 1) - 1) - 1) - 1) - 1) - 1) - 1) - 1) < N by omega) hl_586) (by omega) nbt rfl rfl (hb hby d_jdk_33_m_12_84) ?_
            intro h_595 O_596 W_597 A_598
            have z_599 := W_597.size
            have V_600 : Arv Z h_595 t kb .byte (Int32.ofNat N) (vs_585.set ((((((((((q - 1) - 1) - 1) - 1) - 1) - 1) - 1) - 1) - 1)) (.int (nar .byte x_593))) (.int 0) := A_598
            show Run p l e _ s m _ below meth c Z EL1 _ n0 bk h_595 0 0 (mkF m 85 #[.val (.int i_588), .val (.int (Int32.ofNat q)), .val (.ref t), .val (.int i_588), .val (.int i_562), .val (.int (Int32.ofNat (((((((((q - 1) - 1) - 1) - 1) - 1) - 1) - 1) - 1) - 1))), .val (.int (0 : Int32))] []) _
            obtain ⟨vs_601, hl_602, V_603⟩ : ∃ ws : List Value, N ≤ ws.length ∧ Arv Z h_595 t kb .byte (Int32.ofNat N) ws (.int 0) := ⟨_, (by rw [List.length_set]; exact hl_586), V_600⟩
            refine k_pure (g' := (mkF m 86 #[.val (.int i_588), .val (.int (Int32.ofNat q)), .val (.ref t), .val (.int i_588), .val (.int i_562), .val (.int (Int32.ofNat (((((((((q - 1) - 1) - 1) - 1) - 1) - 1) - 1) - 1) - 1))), .val (.int (0 : Int32))] [(.int i_588)])) (fun TT HH tt kk => XS.iloadN HH hx rfl (hb hby d_jdk_33_m_12_85) rfl kk) ?_
            refine k_pure (g' := (mkF m 88 #[.val (.int i_588), .val (.int (Int32.ofNat q)), .val (.ref t), .val (.int i_588), .val (.int i_562), .val (.int (Int32.ofNat (((((((((q - 1) - 1) - 1) - 1) - 1) - 1) - 1) - 1) - 1))), .val (.int (0 : Int32))] [(.int ((-9) : Int32)), (.int i_588)])) (fun TT HH tt kk => XS.bipush HH hx rfl (hb hby d_jdk_33_m_12_86) kk) ?_
            by_cases c_604 : i_588 < ((-9) : Int32)
            · refine k_pure (g' := (mkF m 91 #[.val (.int i_588), .val (.int (Int32.ofNat q)), .val (.ref t), .val (.int i_588), .val (.int i_562), .val (.int (Int32.ofNat (((((((((q - 1) - 1) - 1) - 1) - 1) - 1) - 1) - 1) - 1))), .val (.int (0 : Int32))] [])) (fun TT HH tt kk => XS.icmpNo HH hx rfl (hb hby d_jdk_33_m_12_88) rfl (tlt c_604).2.1 kk) ?_
              refine k_pure (g' := (mkF m 92 #[.val (.int i_588), .val (.int (Int32.ofNat q)), .val (.ref t), .val (.int i_588), .val (.int i_562), .val (.int (Int32.ofNat (((((((((q - 1) - 1) - 1) - 1) - 1) - 1) - 1) - 1) - 1))), .val (.int (0 : Int32))] [(.ref t)])) (fun TT HH tt kk => XS.aloadN HH hx rfl (hb hby d_jdk_33_m_12_91) rfl rfl kk) ?_
              refine k_pure (g' := (mkF m 95 #[.val (.int i_588), .val (.int (Int32.ofNat q)), .val (.ref t), .val (.int i_588), .val (.int i_562), .val (.int ((Int32.ofNat (((((((((q - 1) - 1) - 1) - 1) - 1) - 1) - 1) - 1) - 1)) + ((-1) : Int32))), .val (.int (0 : Int32))] [(.ref t)])) (fun TT HH tt kk => XS.iinc HH hx rfl (hb hby d_jdk_33_m_12_92) rfl (l' := #[.val (.int i_588), .val (.int (Int32.ofNat q)), .val (.ref t), .val (.int i_588), .val (.int i_562), .val (.int ((Int32.ofNat (((((((((q - 1) - 1) - 1) - 1) - 1) - 1) - 1) - 1) - 1)) + ((-1) : Int32))), .val (.int (0 : Int32))]) rfl kk) ?_
              rw [dec_ofNat (by omega) (by omega)]
              show Run p l e _ s m _ below meth c Z EL1 _ n0 bk h_595 0 0 (mkF m 95 #[.val (.int i_588), .val (.int (Int32.ofNat q)), .val (.ref t), .val (.int i_588), .val (.int i_562), .val (.int (Int32.ofNat ((((((((((q - 1) - 1) - 1) - 1) - 1) - 1) - 1) - 1) - 1) - 1))), .val (.int (0 : Int32))] [(.ref t)]) _
              refine k_pure (g' := (mkF m 97 #[.val (.int i_588), .val (.int (Int32.ofNat q)), .val (.ref t), .val (.int i_588), .val (.int i_562), .val (.int (Int32.ofNat ((((((((((q - 1) - 1) - 1) - 1) - 1) - 1) - 1) - 1) - 1) - 1))), .val (.int (0 : Int32))] [(.int (Int32.ofNat ((((((((((q - 1) - 1) - 1) - 1) - 1) - 1) - 1) - 1) - 1) - 1))), (.ref t)])) (fun TT HH tt kk => XS.iload HH hx rfl (hb hby d_jdk_33_m_12_95) rfl kk) ?_
              refine k_getS hx (host := "") (Or.inl (hw _ (List.mem_of_getElem? (i := 199) rfl))) Via.refl (s_d2.ext O_596.2) rfl (hb hby d_jdk_33_m_12_97) ?_
              show Run p l e _ s m _ below meth c Z EL1 _ n0 bk h_595 0 0 (mkF m 100 #[.val (.int i_588), .val (.int (Int32.ofNat q)), .val (.ref t), .val (.int i_588), .val (.int i_562), .val (.int (Int32.ofNat ((((((((((q - 1) - 1) - 1) - 1) - 1) - 1) - 1) - 1) - 1) - 1))), .val (.int (0 : Int32))] [(.ref d2), (.int (Int32.ofNat ((((((((((q - 1) - 1) - 1) - 1) - 1) - 1) - 1) - 1) - 1) - 1))), (.ref t)]) _
              refine k_pure (g' := (mkF m 101 #[.val (.int i_588), .val (.int (Int32.ofNat q)), .val (.ref t), .val (.int i_588), .val (.int i_562), .val (.int (Int32.ofNat ((((((((((q - 1) - 1) - 1) - 1) - 1) - 1) - 1) - 1) - 1) - 1))), .val (.int (0 : Int32))] [(.int i_588), (.ref d2), (.int (Int32.ofNat ((((((((((q - 1) - 1) - 1) - 1) - 1) - 1) - 1) - 1) - 1) - 1))), (.ref t)])) (fun TT HH tt kk => XS.iloadN HH hx rfl (hb hby d_jdk_33_m_12_100) rfl kk) ?_
              refine k_pure (g' := (mkF m 102 #[.val (.int i_588), .val (.int (Int32.ofNat q)), .val (.ref t), .val (.int i_588), .val (.int i_562), .val (.int (Int32.ofNat ((((((((((q - 1) - 1) - 1) - 1) - 1) - 1) - 1) - 1) - 1) - 1))), .val (.int (0 : Int32))] [(.int (-i_588)), (.ref d2), (.int (Int32.ofNat ((((((((((q - 1) - 1) - 1) - 1) - 1) - 1) - 1) - 1) - 1) - 1))), (.ref t)])) (fun TT HH tt kk => XS.ineg HH hx rfl (hb hby d_jdk_33_m_12_101) rfl kk) ?_
              have hr_606 : 0 ≤ ((-i_588)).toInt ∧ ((-i_588)).toInt ≤ 99 := (by have r0 := rng32 i_588; have r1 : ((-9) : Int32).toInt = (-9) := (by decide); have r2 := c_ineg i_588; have r3 := rng32 (-i_588); have r4 := (Int32.lt_iff_toInt_lt.mp c_604); have r5 := hb_589; omega)
              generalize (-i_588) = i_605 at hr_606 ⊢
              show Run p l e _ s m _ below meth c Z EL1 _ n0 bk h_595 0 0 (mkF m 102 #[.val (.int i_588), .val (.int (Int32.ofNat q)), .val (.ref t), .val (.int i_588), .val (.int i_562), .val (.int (Int32.ofNat ((((((((((q - 1) - 1) - 1) - 1) - 1) - 1) - 1) - 1) - 1) - 1))), .val (.int (0 : Int32))] [(.int i_605), (.ref d2), (.int (Int32.ofNat ((((((((((q - 1) - 1) - 1) - 1) - 1) - 1) - 1) - 1) - 1) - 1))), (.ref t)]) _
              have F_607 : Arv Z h_595 d2 kd2 .byte (100 : Int32) w2 (.int 0) := a_d2.ext O_596.2
              obtain ⟨x_608, hv_609⟩ := aget_int F_607 (i := (i_605).toNatClampNeg) (dig_lt hr_606)
              refine k_aget hx (v := (.int x_608)) F_607 (dig_in hr_606) hv_609 (Or.inr (Or.inr (Or.inr (Or.inl ⟨rfl, rfl⟩)))) rfl rfl (hb hby d_jdk_33_m_12_102) ?_
              show Run p l e _ s m _ below meth c Z EL1 _ n0 bk h_595 0 0 (mkF m 103 #[.val (.int i_588), .val (.int (Int32.ofNat q)), .val (.ref t), .val (.int i_588), .val (.int i_562), .val (.int (Int32.ofNat ((((((((((q - 1) - 1) - 1) - 1) - 1) - 1) - 1) - 1) - 1) - 1))), .val (.int (0 : Int32))] [(.int x_608), (.int (Int32.ofNat ((((((((((q - 1) - 1) - 1) - 1) - 1) - 1) - 1) - 1) - 1) - 1))), (.ref t)]) _
              refine k_stB hx V_603 (idx_ok (i := ((((((((((q - 1) - 1) - 1) - 1) - 1) - 1) - 1) - 1) - 1) - 1)) (n := N) (by omega) (by omega)) (((((((((((q - 1) - 1) - 1) - 1) - 1) - 1) - 1) - 1) - 1) - 1)) (clampN (by omega)) (Nat.lt_of_lt_of_le (show ((((((((((q - 1) - 1) - 1) - 1) - 1) - 1) - 1) - 1) - 1) - 1) < N by omega) hl_602) (by omega) nbt rfl rfl (hb hby d_jdk_33_m_12_103) ?_
              intro h_610 O_611 W_612 A_613
              have z_614 := W_612.size
              have V_615 : Arv Z h_610 t kb .byte (Int32.ofNat N) (vs_601.set (((((((((((q - 1) - 1) - 1) - 1) - 1) - 1) - 1) - 1) - 1) - 1)) (.int (nar .byte x_608))) (.int 0) := A_613
              show Run p l e _ s m _ below meth c Z EL1 _ n0 bk h_610 0 0 (mkF m 104 #[.val (.int i_588), .val (.int (Int32.ofNat q)), .val (.ref t), .val (.int i_588), .val (.int i_562), .val (.int (Int32.ofNat ((((((((((q - 1) - 1) - 1) - 1) - 1) - 1) - 1) - 1) - 1) - 1))), .val (.int (0 : Int32))] []) _
              obtain ⟨vs_616, hl_617, V_618⟩ : ∃ ws : List Value, N ≤ ws.length ∧ Arv Z h_610 t kb .byte (Int32.ofNat N) ws (.int 0) := ⟨_, (by rw [List.length_set]; exact hl_602), V_615⟩
              refine k_pure (g' := (mkF m 106 #[.val (.int i_588), .val (.int (Int32.ofNat q)), .val (.ref t), .val (.int i_588), .val (.int i_562), .val (.int (Int32.ofNat ((((((((((q - 1) - 1) - 1) - 1) - 1) - 1) - 1) - 1) - 1) - 1))), .val (.int (0 : Int32))] [(.int (0 : Int32))])) (fun TT HH tt kk => XS.iload HH hx rfl (hb hby d_jdk_33_m_12_104) rfl kk) ?_
              refine k_pure (g' := (mkF m 118 #[.val (.int i_588), .val (.int (Int32.ofNat q)), .val (.ref t), .val (.int i_588), .val (.int i_562), .val (.int (Int32.ofNat ((((((((((q - 1) - 1) - 1) - 1) - 1) - 1) - 1) - 1) - 1) - 1))), .val (.int (0 : Int32))] [])) (fun TT HH tt kk => XS.ifYes HH hx rfl (pc0 := 106) (pc' := 118) rfl (hb hby d_jdk_33_m_12_106) rfl ((if0 _ _).trans (teq (by decide : ((0 : Int32) = (0 : Int32)))).1) (by decide) (by decide) kk) ?_
              refine k_pure (g' := (mkF m 120 #[.val (.int i_588), .val (.int (Int32.ofNat q)), .val (.ref t), .val (.int i_588), .val (.int i_562), .val (.int (Int32.ofNat ((((((((((q - 1) - 1) - 1) - 1) - 1) - 1) - 1) - 1) - 1) - 1))), .val (.int (0 : Int32))] [(.int (Int32.ofNat ((((((((((q - 1) - 1) - 1) - 1) - 1) - 1) - 1) - 1) - 1) - 1)))])) (fun TT HH tt kk => XS.iload HH hx rfl (hb hby d_jdk_33_m_12_118) rfl kk) ?_
              exact k_retI hx hlk hret (hb hby d_jdk_33_m_12_120) (by decide) (by decide) ⟨_, _, rfl, rfl, (((((((((((Keep.refl _ _).wr W_395 (Or.inl (by simp))).wr W_407 (Or.inl (by simp))).wr W_453 (Or.inl (by simp))).wr W_465 (Or.inl (by simp))).wr W_511 (Or.inl (by simp))).wr W_523 (Or.inl (by simp))).wr W_569 (Or.inl (by simp))).wr W_581 (Or.inl (by simp))).wr W_597 (Or.inl (by simp))).wr W_612 (Or.inl (by simp))), V_618⟩
            · refine k_pure (g' := (mkF m 104 #[.val (.int i_588), .val (.int (Int32.ofNat q)), .val (.ref t), .val (.int i_588), .val (.int i_562), .val (.int (Int32.ofNat (((((((((q - 1) - 1) - 1) - 1) - 1) - 1) - 1) - 1) - 1))), .val (.int (0 : Int32))] [])) (fun TT HH tt kk => XS.icmpYes HH hx rfl (pc0 := 88) (pc' := 104) rfl (hb hby d_jdk_33_m_12_88) rfl (flt c_604).2.1 (by decide) (by decide) kk) ?_
              refine k_pure (g' := (mkF m 106 #[.val (.int i_588), .val (.int (Int32.ofNat q)), .val (.ref t), .val (.int i_588), .val (.int i_562), .val (.int (Int32.ofNat (((((((((q - 1) - 1) - 1) - 1) - 1) - 1) - 1) - 1) - 1))), .val (.int (0 : Int32))] [(.int (0 : Int32))])) (fun TT HH tt kk => XS.iload HH hx rfl (hb hby d_jdk_33_m_12_104) rfl kk) ?_
              refine k_pure (g' := (mkF m 118 #[.val (.int i_588), .val (.int (Int32.ofNat q)), .val (.ref t), .val (.int i_588), .val (.int i_562), .val (.int (Int32.ofNat (((((((((q - 1) - 1) - 1) - 1) - 1) - 1) - 1) - 1) - 1))), .val (.int (0 : Int32))] [])) (fun TT HH tt kk => XS.ifYes HH hx rfl (pc0 := 106) (pc' := 118) rfl (hb hby d_jdk_33_m_12_106) rfl ((if0 _ _).trans (teq (by decide : ((0 : Int32) = (0 : Int32)))).1) (by decide) (by decide) kk) ?_
              refine k_pure (g' := (mkF m 120 #[.val (.int i_588), .val (.int (Int32.ofNat q)), .val (.ref t), .val (.int i_588), .val (.int i_562), .val (.int (Int32.ofNat (((((((((q - 1) - 1) - 1) - 1) - 1) - 1) - 1) - 1) - 1))), .val (.int (0 : Int32))] [(.int (Int32.ofNat (((((((((q - 1) - 1) - 1) - 1) - 1) - 1) - 1) - 1) - 1)))])) (fun TT HH tt kk => XS.iload HH hx rfl (hb hby d_jdk_33_m_12_118) rfl kk) ?_
              exact k_retI hx hlk hret (hb hby d_jdk_33_m_12_120) (by decide) (by decide) ⟨_, _, rfl, rfl, ((((((((((Keep.refl _ _).wr W_395 (Or.inl (by simp))).wr W_407 (Or.inl (by simp))).wr W_453 (Or.inl (by simp))).wr W_465 (Or.inl (by simp))).wr W_511 (Or.inl (by simp))).wr W_523 (Or.inl (by simp))).wr W_569 (Or.inl (by simp))).wr W_581 (Or.inl (by simp))).wr W_597 (Or.inl (by simp))), V_603⟩
def Q_api (Z : State) (G1 : Int32) (G3 : Value) (d1 d2 us ss : Addr) (kd1 kd2 : ClassId) (w1 w2 : List Value) (a : Addr) (t : Addr) (kb : ClassId) (N : Nat) (n : Nat) (vs : List Value) (x : Int32) (h0 : Heap) (n0 : Nat) (bk : Addr → Prop) (v : Option Value) (h : Heap) (bk' : Addr → Prop) : Prop := ∃ (u : Addr), ∃ (ku : ClassId), ∃ (M : Nat), ∃ (r : Nat), ∃ (us1 : List Value), v = some (.ref a) ∧ bk = bk' ∧ Keep h0 h [a] ∧ (SbW Z h a u ku M (n + r) us1) ∧ (r ≤ 11 ∧ 2 * N + 2 ≤ M) ∧ (@LE.le Nat _ (Array.size h0) u) ∧ (¬ bk' u)
theorem d_jdk_68_m_32_0 : decode jdk_68_method_32_code 0 = .ok (.aload_n 0, 1) := by decide +kernel
theorem d_jdk_68_m_32_1 : decode jdk_68_method_32_code 1 = .ok (.getfield 79, 3) := by decide +kernel
theorem d_jdk_68_m_32_4 : decode jdk_68_method_32_code 4 = .ok (.istore_n 2, 1) := by decide +kernel
theorem d_jdk_68_m_32_5 : decode jdk_68_method_32_code 5 = .ok (.iload_n 2, 1) := by decide +kernel
theorem d_jdk_68_m_32_6 : decode jdk_68_method_32_code 6 = .ok (.iload_n 1, 1) := by decide +kernel
theorem d_jdk_68_m_32_7 : decode jdk_68_method_32_code 7 = .ok (.invokestatic 245, 3) := by decide +kernel
theorem d_jdk_68_m_32_10 : decode jdk_68_method_32_code 10 = .ok (.iadd, 1) := by decide +kernel
theorem d_jdk_68_m_32_11 : decode jdk_68_method_32_code 11 = .ok (.istore_n 3, 1) := by decide +kernel
theorem d_jdk_68_m_32_12 : decode jdk_68_method_32_code 12 = .ok (.aload_n 0, 1) := by decide +kernel
theorem d_jdk_68_m_32_13 : decode jdk_68_method_32_code 13 = .ok (.iload_n 3, 1) := by decide +kernel
theorem d_jdk_68_m_32_14 : decode jdk_68_method_32_code 14 = .ok (.invokevirtual 100, 3) := by decide +kernel
theorem d_jdk_68_m_32_17 : decode jdk_68_method_32_code 17 = .ok (.aload_n 0, 1) := by decide +kernel
theorem d_jdk_68_m_32_18 : decode jdk_68_method_32_code 18 = .ok (.invokevirtual 83, 3) := by decide +kernel
theorem d_jdk_68_m_32_21 : decode jdk_68_method_32_code 21 = .ok (.ifCond .eq 16, 3) := by decide +kernel
theorem d_jdk_68_m_32_24 : decode jdk_68_method_32_code 24 = .ok (.iload_n 1, 1) := by decide +kernel
theorem d_jdk_68_m_32_25 : decode jdk_68_method_32_code 25 = .ok (.iload_n 3, 1) := by decide +kernel
theorem d_jdk_68_m_32_26 : decode jdk_68_method_32_code 26 = .ok (.aload_n 0, 1) := by decide +kernel
theorem d_jdk_68_m_32_27 : decode jdk_68_method_32_code 27 = .ok (.getfield 15, 3) := by decide +kernel
theorem d_jdk_68_m_32_30 : decode jdk_68_method_32_code 30 = .ok (.invokestatic 248, 3) := by decide +kernel
theorem pd__28_II_5b_B_29_I : parseMethodDescriptor "(II[B)I" = some ⟨[.int, .int, (.array .byte)], some .int⟩ := by decide +kernel
theorem d_jdk_68_m_32_33 : decode jdk_68_method_32_code 33 = .ok (.pop, 1) := by decide +kernel
theorem d_jdk_68_m_32_34 : decode jdk_68_method_32_code 34 = .ok (.goto 14, 3) := by decide +kernel
theorem d_jdk_68_m_32_48 : decode jdk_68_method_32_code 48 = .ok (.aload_n 0, 1) := by decide +kernel
theorem d_jdk_68_m_32_49 : decode jdk_68_method_32_code 49 = .ok (.iload_n 3, 1) := by decide +kernel
theorem d_jdk_68_m_32_50 : decode jdk_68_method_32_code 50 = .ok (.putfield 79, 3) := by decide +kernel
theorem d_jdk_68_m_32_53 : decode jdk_68_method_32_code 53 = .ok (.aload_n 0, 1) := by decide +kernel
theorem d_jdk_68_m_32_54 : decode jdk_68_method_32_code 54 = .ok (.areturn, 1) := by decide +kernel
abbrev RM_api : Room := { frames := 4, cells := 1, slots := 130, locals := 62 }
theorem ef_api (m : MethodId) (x0 : Addr) (x1 : Int32) : entryFrame m #[(.ref x0), (.int x1)] 4 = mkF m 0 #[.val (.ref x0), .val (.int x1), .unset, .unset] [] := by first | (simp [entryFrame, mkF, argsToLocals, Value.category]; done) | rfl
set_option maxRecDepth 65536 in
set_option maxHeartbeats 40000000 in
theorem rm_api (l : Launch) (Z : State) (a0 : Array Value) (G1 : Int32) (G3 : Value) (d1 d2 us ss : Addr) (kd1 kd2 : ClassId) (w1 w2 : List Value) (hX : Ctx Z a0 G1 G3) (hY : More Z d1 d2 us ss kd1 kd2 w1 w2) (n0 : Nat) (bk : Addr → Prop) (h0 : Heap) (O0 : Old Z n0 h0) (a : Addr) (t : Addr) (kb : ClassId) (N : Nat) (n : Nat) (vs : List Value) (x : Int32) (pf_0 : SbW Z h0 a t kb N n vs) (hn : N ≤ n) (h10 : 10 ≤ n) (h2 : n + 11 + N + 2 ≤ 130) (hbl : ∀ y, bk y → @LT.lt Nat _ y (Array.size h0)) (nba : ¬ bk a) (ga : n0 ≤ a) (ws : List Jvm.Cond) : Met l Z EL1 n0 bk (⟨"java/lang/AbstractStringBuilder", "append", "(I)Ljava/lang/AbstractStringBuilder;"⟩ : MethodName) jdk_68_method_32_code 4 (Option.some (FieldType.object "java/lang/AbstractStringBuilder")) RM_api #[(.ref a), (.int x)] h0 (Q_api Z G1 G3 d1 d2 us ss kd1 kd2 w1 w2 a t kb N n vs x h0 n0 bk) ws := by
  have hX' := hX
  obtain ⟨hw, hE, S1, P1, S3, P3⟩ := hX'
  have hY' := hY
  obtain ⟨s_d1, a_d1, s_d2, a_d2, s_us, s_ss⟩ := hY'
  have hSA := sa_of hw
  have z0 : n0 ≤ h0.size := by rw [← O0.1]; exact O0.2.1
  refine Met.of (by decide +kernel) O0 hE ?_
  intro p e s m below meth c hx hby hml hret hlk hnm
  refine k_cast (ef_api m a x) ?_
  show Run p l e _ s m _ below meth c Z EL1 _ n0 bk h0 0 0 (mkF m 0 #[.val (.ref a), .val (.int x), .unset, .unset] []) _
  have ne_1 : @Ne Nat a t := pf_0.2.2.2.2.2.2.2
  have lt_2 : @LT.lt Nat _ a (Array.size h0) := pf_0.lt1
  have lt_3 : @LT.lt Nat _ t (Array.size h0) := pf_0.lt2
  have hNN := pf_0.2.2.2.2.2.2.1
  have hnN := pf_0.2.2.2.2.2.1
  refine k_pure (g' := (mkF m 1 #[.val (.ref a), .val (.int x), .unset, .unset] [(.ref a)])) (fun TT HH tt kk => XS.aloadN HH hx rfl (hb hby d_jdk_68_m_32_0) rfl rfl kk) ?_
  refine k_getF hx (host := "") (Or.inl (hw _ (List.mem_of_getElem? (i := 57) rfl))) Via.refl pf_0.2.2.2.1 rfl rfl (hb hby d_jdk_68_m_32_1) ?_
  show Run p l e _ s m _ below meth c Z EL1 _ n0 bk h0 0 0 (mkF m 4 #[.val (.ref a), .val (.int x), .unset, .unset] [(.int (Int32.ofNat n))]) _
  refine k_pure (g' := (mkF m 5 #[.val (.ref a), .val (.int x), .val (.int (Int32.ofNat n)), .unset] [])) (fun TT HH tt kk => XS.istoreN HH hx rfl (hb hby d_jdk_68_m_32_4) rfl (l' := #[.val (.ref a), .val (.int x), .val (.int (Int32.ofNat n)), .unset]) rfl kk) ?_
  refine k_pure (g' := (mkF m 6 #[.val (.ref a), .val (.int x), .val (.int (Int32.ofNat n)), .unset] [(.int (Int32.ofNat n))])) (fun TT HH tt kk => XS.iloadN HH hx rfl (hb hby d_jdk_68_m_32_5) rfl kk) ?_
  refine k_pure (g' := (mkF m 7 #[.val (.ref a), .val (.int x), .val (.int (Int32.ofNat n)), .unset] [(.int x), (.int (Int32.ofNat n))])) (fun TT HH tt kk => XS.iloadN HH hx rfl (hb hby d_jdk_68_m_32_6) rfl kk) ?_
  refine k_callS hx (y := (⟨"java/lang/Integer", "stringSize", "(I)I"⟩ : MethodName)) (hw _ (List.mem_of_getElem? (i := 116) rfl)) (hw _ (List.mem_of_getElem? (i := 117) rfl)) (hw _ (List.mem_of_getElem? (i := 118) rfl)) (hw _ (List.mem_of_getElem? (i := 119) rfl)) (by decide) (W := 1) (argsL := [(.int x)]) (rest := [(.int (Int32.ofNat n))]) (Pays.of_met (rm_ssz l Z a0 G1 G3 d1 d2 us ss kd1 kd2 w1 w2 hX hY n0 bk h0 O0 x  []) (hw _ (List.mem_of_getElem? (i := 119) rfl)) (hw _ (List.mem_of_getElem? (i := 118) rfl)) (by decide) (by decide)) rfl (by rw [hml]; rfl) (lenOf pd__28_I_29_I rfl) rfl (by show 2 * 0 + _ ≤ _; exact Nat.le_of_eq rfl) (hb hby d_jdk_68_m_32_7) (by decide) (by decide) ?_
  intro v_4 h_5 bk_6 O_7 z_8 Q_9
  obtain ⟨e_10, rfl, rfl, rfl, P_11⟩ := Q_9
  show Run p l e _ s m _ below meth c Z EL1 _ n0 bk h0 0 0 (mkF m 10 #[.val (.ref a), .val (.int x), .val (.int (Int32.ofNat n)), .unset] [(.int (Int32.ofNat e_10)), (.int (Int32.ofNat n))]) _
  have hR := P_11
  refine k_pure (g' := (mkF m 11 #[.val (.ref a), .val (.int x), .val (.int (Int32.ofNat n)), .unset] [(.int ((Int32.ofNat n) + (Int32.ofNat e_10)))])) (fun TT HH tt kk => XS.iadd HH hx rfl (hb hby d_jdk_68_m_32_10) rfl kk) ?_
  rw [add_n]
  show Run p l e _ s m _ below meth c Z EL1 _ n0 bk h0 0 0 (mkF m 11 #[.val (.ref a), .val (.int x), .val (.int (Int32.ofNat n)), .unset] [(.int (Int32.ofNat (n + e_10)))]) _
  refine k_pure (g' := (mkF m 12 #[.val (.ref a), .val (.int x), .val (.int (Int32.ofNat n)), .val (.int (Int32.ofNat (n + e_10)))] [])) (fun TT HH tt kk => XS.istoreN HH hx rfl (hb hby d_jdk_68_m_32_11) rfl (l' := #[.val (.ref a), .val (.int x), .val (.int (Int32.ofNat n)), .val (.int (Int32.ofNat (n + e_10)))]) rfl kk) ?_
  refine k_pure (g' := (mkF m 13 #[.val (.ref a), .val (.int x), .val (.int (Int32.ofNat n)), .val (.int (Int32.ofNat (n + e_10)))] [(.ref a)])) (fun TT HH tt kk => XS.aloadN HH hx rfl (hb hby d_jdk_68_m_32_12) rfl rfl kk) ?_
  refine k_pure (g' := (mkF m 14 #[.val (.ref a), .val (.int x), .val (.int (Int32.ofNat n)), .val (.int (Int32.ofNat (n + e_10)))] [(.int (Int32.ofNat (n + e_10))), (.ref a)])) (fun TT HH tt kk => XS.iloadN HH hx rfl (hb hby d_jdk_68_m_32_13) rfl kk) ?_
  refine k_callV hx (y := (⟨"java/lang/AbstractStringBuilder", "ensureCapacityInternal", "(I)V"⟩ : MethodName)) (z := (⟨"java/lang/AbstractStringBuilder", "ensureCapacityInternal", "(I)V"⟩ : MethodName)) (hw _ (List.mem_of_getElem? (i := 59) rfl)) (decl_of (hw _ (List.mem_of_getElem? (i := 60) rfl)) (hw _ (List.mem_of_getElem? (i := 63) rfl))) (fun s' hZ => notFace_of_selects (args := #[]) (mv hZ (hw _ (List.mem_of_getElem? (i := 62) rfl)))) (hw _ (List.mem_of_getElem? (i := 62) rfl)) (hw _ (List.mem_of_getElem? (i := 60) rfl)) (by decide) (W := 0) (a := a) (argsL := [(.int (Int32.ofNat (n + e_10)))]) (rest := []) (Pays.of_met (rm_ecg l Z a0 G1 G3 d1 d2 us ss kd1 kd2 w1 w2 hX hY n0 bk h0 O0 a t kb N n vs (n + e_10) pf_0 (by omega) (by omega) hbl nba (by omega) []) (hw _ (List.mem_of_getElem? (i := 63) rfl)) (hw _ (List.mem_of_getElem? (i := 16) rfl)) (by decide) (by decide)) pf_0.1 rfl (by rw [hml]; rfl) (lenOf pd__28_I_29_V rfl) rfl (by show 2 * 0 + _ ≤ _; exact Nat.le_of_eq rfl) (hb hby d_jdk_68_m_32_14) (by decide) (by decide) ?_
  intro v_12 h_13 bk_14 O_15 z_16 Q_17
  obtain ⟨a_18, k_19, e_20, e_21, rfl, rfl, K_22, F_23, P_24, P_25, P_26⟩ := Q_17
  have ne_27 : @Ne Nat a a_18 := F_23.2.2.2.2.2.2.2
  have lt_28 : @LT.lt Nat _ a (Array.size h_13) := F_23.lt1
  have lt_29 : @LT.lt Nat _ a_18 (Array.size h_13) := F_23.lt2
  show Run p l e _ s m _ below meth c Z EL1 _ n0 bk h_13 1 130 (mkF m 17 #[.val (.ref a), .val (.int x), .val (.int (Int32.ofNat n)), .val (.int (Int32.ofNat (n + e_10)))] []) _
  have hPG := P_24
  refine k_pure (g' := (mkF m 18 #[.val (.ref a), .val (.int x), .val (.int (Int32.ofNat n)), .val (.int (Int32.ofNat (n + e_10)))] [(.ref a)])) (fun TT HH tt kk => XS.aloadN HH hx rfl (hb hby d_jdk_68_m_32_17) rfl rfl kk) ?_
  refine k_callV hx (y := (⟨"java/lang/AbstractStringBuilder", "isLatin1", "()Z"⟩ : MethodName)) (z := (⟨"java/lang/AbstractStringBuilder", "isLatin1", "()Z"⟩ : MethodName)) (hw _ (List.mem_of_getElem? (i := 120) rfl)) (hw _ (List.mem_of_getElem? (i := 121) rfl)) (fun s' hZ => notFace_of_selects (args := #[]) (mv hZ (hw _ (List.mem_of_getElem? (i := 123) rfl)))) (hw _ (List.mem_of_getElem? (i := 123) rfl)) (hw _ (List.mem_of_getElem? (i := 122) rfl)) (by decide) (W := 0) (a := a) (argsL := []) (rest := []) (Pays.of_met (rm_ail l Z a0 G1 G3 d1 d2 us ss kd1 kd2 w1 w2 hX hY n0 bk h_13 O_15 a a_18 k_19 e_20 n e_21 F_23 []) (hw _ (List.mem_of_getElem? (i := 124) rfl)) (hw _ (List.mem_of_getElem? (i := 16) rfl)) (by decide) (by decide)) F_23.1 rfl (by rw [hml]; rfl) (lenOf pd__28__29_Z rfl) rfl (by show 2 * 0 + _ ≤ _; exact Nat.le_of_eq rfl) (hb hby d_jdk_68_m_32_18) (by decide) (by decide) ?_
  intro v_30 h_31 bk_32 O_33 z_34 Q_35
  obtain ⟨rfl, rfl, rfl⟩ := Q_35
  show Run p l e _ s m _ below meth c Z EL1 _ n0 bk h_13 1 130 (mkF m 21 #[.val (.ref a), .val (.int x), .val (.int (Int32.ofNat n)), .val (.int (Int32.ofNat (n + e_10)))] [(.int (1 : Int32))]) _
  refine k_pure (g' := (mkF m 24 #[.val (.ref a), .val (.int x), .val (.int (Int32.ofNat n)), .val (.int (Int32.ofNat (n + e_10)))] [])) (fun TT HH tt kk => XS.ifNo HH hx rfl (hb hby d_jdk_68_m_32_21) rfl ((if0 _ _).trans (feq (by decide : ¬ ((1 : Int32) = (0 : Int32)))).1) kk) ?_
  refine k_pure (g' := (mkF m 25 #[.val (.ref a), .val (.int x), .val (.int (Int32.ofNat n)), .val (.int (Int32.ofNat (n + e_10)))] [(.int x)])) (fun TT HH tt kk => XS.iloadN HH hx rfl (hb hby d_jdk_68_m_32_24) rfl kk) ?_
  refine k_pure (g' := (mkF m 26 #[.val (.ref a), .val (.int x), .val (.int (Int32.ofNat n)), .val (.int (Int32.ofNat (n + e_10)))] [(.int (Int32.ofNat (n + e_10))), (.int x)])) (fun TT HH tt kk => XS.iloadN HH hx rfl (hb hby d_jdk_68_m_32_25) rfl kk) ?_
  refine k_pure (g' := (mkF m 27 #[.val (.ref a), .val (.int x), .val (.int (Int32.ofNat n)), .val (.int (Int32.ofNat (n + e_10)))] [(.ref a), (.int (Int32.ofNat (n + e_10))), (.int x)])) (fun TT HH tt kk => XS.aloadN HH hx rfl (hb hby d_jdk_68_m_32_26) rfl rfl kk) ?_
  refine k_getF hx (host := "") (Or.inl (hw _ (List.mem_of_getElem? (i := 24) rfl))) Via.refl F_23.2.2.1 rfl rfl (hb hby d_jdk_68_m_32_27) ?_
  show Run p l e _ s m _ below meth c Z EL1 _ n0 bk h_13 1 130 (mkF m 30 #[.val (.ref a), .val (.int x), .val (.int (Int32.ofNat n)), .val (.int (Int32.ofNat (n + e_10)))] [(.ref a_18), (.int (Int32.ofNat (n + e_10))), (.int x)]) _
  refine k_callS hx (y := (⟨"java/lang/Integer", "getChars", "(II[B)I"⟩ : MethodName)) (hw _ (List.mem_of_getElem? (i := 125) rfl)) (hw _ (List.mem_of_getElem? (i := 126) rfl)) (hw _ (List.mem_of_getElem? (i := 118) rfl)) (hw _ (List.mem_of_getElem? (i := 127) rfl)) (by decide) (W := 0) (argsL := [(.int x), (.int (Int32.ofNat (n + e_10))), (.ref a_18)]) (rest := []) (Pays.of_met (rm_gch l Z a0 G1 G3 d1 d2 us ss kd1 kd2 w1 w2 hX hY n0 bk h_13 O_15 x (n + e_10) a_18 k_19 e_20 e_21 F_23.2.2.2.2.1 (by omega) (by omega) (by omega) P_26 (by omega) []) (hw _ (List.mem_of_getElem? (i := 127) rfl)) (hw _ (List.mem_of_getElem? (i := 118) rfl)) (by decide) (by decide)) rfl (by rw [hml]; rfl) (lenOf pd__28_II_5b_B_29_I rfl) rfl (by show 2 * 0 + _ ≤ _; exact Nat.le_of_eq rfl) (hb hby d_jdk_68_m_32_30) (by decide) (by decide) ?_
  intro v_36 h_37 bk_38 O_39 z_40 Q_41
  obtain ⟨i_42, e_43, rfl, rfl, K_44, F_45⟩ := Q_41
  have lt_46 : @LT.lt Nat _ a_18 (Array.size h_37) := F_45.lt
  show Run p l e _ s m _ below meth c Z EL1 _ n0 bk h_37 1 130 (mkF m 33 #[.val (.ref a), .val (.int x), .val (.int (Int32.ofNat n)), .val (.int (Int32.ofNat (n + e_10)))] [(.int i_42)]) _
  refine k_pure (g' := (mkF m 34 #[.val (.ref a), .val (.int x), .val (.int (Int32.ofNat n)), .val (.int (Int32.ofNat (n + e_10)))] [])) (fun TT HH tt kk => XS.pop HH hx rfl (hb hby d_jdk_68_m_32_33) rfl rfl kk) ?_
  refine k_pure (g' := (mkF m 48 #[.val (.ref a), .val (.int x), .val (.int (Int32.ofNat n)), .val (.int (Int32.ofNat (n + e_10)))] [])) (fun TT HH tt kk => XS.goto HH hx rfl (pc0 := 34) (pc' := 48) rfl (hb hby d_jdk_68_m_32_34) (by decide) (by decide) kk) ?_
  refine k_pure (g' := (mkF m 49 #[.val (.ref a), .val (.int x), .val (.int (Int32.ofNat n)), .val (.int (Int32.ofNat (n + e_10)))] [(.ref a)])) (fun TT HH tt kk => XS.aloadN HH hx rfl (hb hby d_jdk_68_m_32_48) rfl rfl kk) ?_
  refine k_pure (g' := (mkF m 50 #[.val (.ref a), .val (.int x), .val (.int (Int32.ofNat n)), .val (.int (Int32.ofNat (n + e_10)))] [(.int (Int32.ofNat (n + e_10))), (.ref a)])) (fun TT HH tt kk => XS.iloadN HH hx rfl (hb hby d_jdk_68_m_32_49) rfl kk) ?_
  have F_47 : Fld Z h_37 a "java/lang/AbstractStringBuilder" "count" "I" (.int (Int32.ofNat n)) := (F_23.2.2.2.1.keep K_44 (ninS (ne_ad (by omega)) nin0))
  have F_48 : Exa Z h_37 a "java/lang/StringBuilder" := (F_23.1.keep K_44)
  refine k_putF hx (host := "") (Or.inl (hw _ (List.mem_of_getElem? (i := 57) rfl))) Via.refl F_47 F_48 (Or.inl (hw _ (List.mem_of_getElem? (i := 58) rfl))) (hw _ (List.mem_of_getElem? (i := 7) rfl)) (ty := .int) (by decide) rfl rfl (by omega) nba rfl rfl (hb hby d_jdk_68_m_32_50) ?_
  intro h_49 O_51 W_50
  have z_52 := W_50.size
  show Run p l e _ s m _ below meth c Z EL1 _ n0 bk h_49 1 130 (mkF m 53 #[.val (.ref a), .val (.int x), .val (.int (Int32.ofNat n)), .val (.int (Int32.ofNat (n + e_10)))] []) _
  refine k_pure (g' := (mkF m 54 #[.val (.ref a), .val (.int x), .val (.int (Int32.ofNat n)), .val (.int (Int32.ofNat (n + e_10)))] [(.ref a)])) (fun TT HH tt kk => XS.aloadN HH hx rfl (hb hby d_jdk_68_m_32_53) rfl rfl kk) ?_
  have F_53 : Exa Z h_49 a "java/lang/StringBuilder" := (F_48.wr W_50)
  have F_54 : Fld Z h_49 a "java/lang/AbstractStringBuilder" "coder" "B" (.int (0 : Int32)) := ((F_23.2.1.keep K_44 (ninS (ne_ad (by omega)) nin0)).other W_50 (Or.inr (RoadKit.slot_ne (C := "java/lang/StringBuilder") (Or.inl (hw _ (List.mem_of_getElem? (i := 27) rfl))) (Or.inl (hw _ (List.mem_of_getElem? (i := 58) rfl))) (by decide) (t := .byte) (t' := .int) (by decide) (by decide))))
  have F_55 : Fld Z h_49 a "java/lang/AbstractStringBuilder" "value" "[B" (.ref a_18) := ((F_23.2.2.1.keep K_44 (ninS (ne_ad (by omega)) nin0)).other W_50 (Or.inr (RoadKit.slot_ne (C := "java/lang/StringBuilder") (Or.inl (hw _ (List.mem_of_getElem? (i := 25) rfl))) (Or.inl (hw _ (List.mem_of_getElem? (i := 58) rfl))) (by decide) (t := (.array .byte)) (t' := .int) (by decide) (by decide))))
  have F_56 : Arv Z h_49 a_18 k_19 .byte (Int32.ofNat e_20) e_43 (.int 0) := (F_45.other W_50 (ne_ad (by omega)))
  exact k_retA hx hlk hret rfl rfl rfl (hb hby d_jdk_68_m_32_54) (by decide) (by decide) ⟨a_18, k_19, e_20, e_10, e_43, rfl, rfl, ((((Keep.refl _ _).trans K_22 (kkS (Or.inl (by simp)) kk0)).trans K_44 (kkS (Or.inr (by omega)) kk0)).wr W_50 (Or.inl (by simp))), ⟨F_53, F_54, F_55, (F_47.same W_50), F_56, (by omega), (by omega), (show @Ne Nat _ _ by omega)⟩, ⟨(by omega), (by omega)⟩, (by omega), P_26⟩
def Q_spi (Z : State) (G1 : Int32) (G3 : Value) (d1 d2 us ss : Addr) (kd1 kd2 : ClassId) (w1 w2 : List Value) (a : Addr) (t : Addr) (kb : ClassId) (N : Nat) (n : Nat) (vs : List Value) (x : Int32) (h0 : Heap) (n0 : Nat) (bk : Addr → Prop) (v : Option Value) (h : Heap) (bk' : Addr → Prop) : Prop := ∃ (u : Addr), ∃ (ku : ClassId), ∃ (M : Nat), ∃ (r : Nat), ∃ (us1 : List Value), v = some (.ref a) ∧ bk = bk' ∧ Keep h0 h [a] ∧ (SbW Z h a u ku M (n + r) us1) ∧ (r ≤ 11 ∧ 2 * N + 2 ≤ M) ∧ (@LE.le Nat _ (Array.size h0) u) ∧ (¬ bk' u)
theorem d_jdk_67_m_15_0 : decode jdk_67_method_15_code 0 = .ok (.aload_n 0, 1) := by decide +kernel
theorem d_jdk_67_m_15_1 : decode jdk_67_method_15_code 1 = .ok (.iload_n 1, 1) := by decide +kernel
theorem d_jdk_67_m_15_2 : decode jdk_67_method_15_code 2 = .ok (.invokespecial 53, 3) := by decide +kernel
theorem pd__28_I_29_Ljava_2f_lang_2f_AbstractStringBuilder_3b_ : parseMethodDescriptor "(I)Ljava/lang/AbstractStringBuilder;" = some ⟨[.int], some (.object "java/lang/AbstractStringBuilder")⟩ := by decide +kernel
theorem d_jdk_67_m_15_5 : decode jdk_67_method_15_code 5 = .ok (.pop, 1) := by decide +kernel
theorem d_jdk_67_m_15_6 : decode jdk_67_method_15_code 6 = .ok (.aload_n 0, 1) := by decide +kernel
theorem d_jdk_67_m_15_7 : decode jdk_67_method_15_code 7 = .ok (.areturn, 1) := by decide +kernel
abbrev RM_spi : Room := { frames := 5, cells := 1, slots := 130, locals := 77 }
theorem ef_spi (m : MethodId) (x0 : Addr) (x1 : Int32) : entryFrame m #[(.ref x0), (.int x1)] 2 = mkF m 0 #[.val (.ref x0), .val (.int x1)] [] := by first | (simp [entryFrame, mkF, argsToLocals, Value.category]; done) | rfl
set_option maxRecDepth 65536 in
set_option maxHeartbeats 40000000 in
theorem rm_spi (l : Launch) (Z : State) (a0 : Array Value) (G1 : Int32) (G3 : Value) (d1 d2 us ss : Addr) (kd1 kd2 : ClassId) (w1 w2 : List Value) (hX : Ctx Z a0 G1 G3) (hY : More Z d1 d2 us ss kd1 kd2 w1 w2) (n0 : Nat) (bk : Addr → Prop) (h0 : Heap) (O0 : Old Z n0 h0) (a : Addr) (t : Addr) (kb : ClassId) (N : Nat) (n : Nat) (vs : List Value) (x : Int32) (pf_0 : SbW Z h0 a t kb N n vs) (hn : N ≤ n) (h10 : 10 ≤ n) (h2 : n + 11 + N + 2 ≤ 130) (hbl : ∀ y, bk y → @LT.lt Nat _ y (Array.size h0)) (nba : ¬ bk a) (ga : n0 ≤ a) (ws : List Jvm.Cond) : Met l Z EL1 n0 bk (⟨"java/lang/StringBuilder", "append", "(I)Ljava/lang/StringBuilder;"⟩ : MethodName) jdk_67_method_15_code 2 (Option.some (FieldType.object "java/lang/StringBuilder")) RM_spi #[(.ref a), (.int x)] h0 (Q_spi Z G1 G3 d1 d2 us ss kd1 kd2 w1 w2 a t kb N n vs x h0 n0 bk) ws := by
  have hX' := hX
  obtain ⟨hw, hE, S1, P1, S3, P3⟩ := hX'
  have hY' := hY
  obtain ⟨s_d1, a_d1, s_d2, a_d2, s_us, s_ss⟩ := hY'
  have hSA := sa_of hw
  have z0 : n0 ≤ h0.size := by rw [← O0.1]; exact O0.2.1
  refine Met.of (by decide +kernel) O0 hE ?_
  intro p e s m below meth c hx hby hml hret hlk hnm
  refine k_cast (ef_spi m a x) ?_
  show Run p l e _ s m _ below meth c Z EL1 _ n0 bk h0 0 0 (mkF m 0 #[.val (.ref a), .val (.int x)] []) _
  have ne_1 : @Ne Nat a t := pf_0.2.2.2.2.2.2.2
  have lt_2 : @LT.lt Nat _ a (Array.size h0) := pf_0.lt1
  have lt_3 : @LT.lt Nat _ t (Array.size h0) := pf_0.lt2
  refine k_pure (g' := (mkF m 1 #[.val (.ref a), .val (.int x)] [(.ref a)])) (fun TT HH tt kk => XS.aloadN HH hx rfl (hb hby d_jdk_67_m_15_0) rfl rfl kk) ?_
  refine k_pure (g' := (mkF m 2 #[.val (.ref a), .val (.int x)] [(.int x), (.ref a)])) (fun TT HH tt kk => XS.iloadN HH hx rfl (hb hby d_jdk_67_m_15_1) rfl kk) ?_
  refine k_callX hx (y := (⟨"java/lang/AbstractStringBuilder", "append", "(I)Ljava/lang/AbstractStringBuilder;"⟩ : MethodName)) (K := "java/lang/StringBuilder") (hw _ (List.mem_of_getElem? (i := 112) rfl)) (same_of (by decide) (hw _ (List.mem_of_getElem? (i := 114) rfl)) (nf_of (y' := (⟨"java/lang/AbstractStringBuilder", "ensureCapacityInternal", "(I)V"⟩ : MethodName)) rfl (hw _ (List.mem_of_getElem? (i := 62) rfl)))) (hw _ (List.mem_of_getElem? (i := 113) rfl)) (hw _ (List.mem_of_getElem? (i := 41) rfl)) (by decide) (hw _ (List.mem_of_getElem? (i := 115) rfl)) (W := 0) (a := a) (argsL := [(.int x)]) (rest := []) (Pays.of_met (rm_api l Z a0 G1 G3 d1 d2 us ss kd1 kd2 w1 w2 hX hY n0 bk h0 O0 a t kb N n vs x pf_0 hn h10 h2 hbl nba (by omega) []) (hw _ (List.mem_of_getElem? (i := 115) rfl)) (hw _ (List.mem_of_getElem? (i := 16) rfl)) (by decide) (by decide)) (Ins.self pf_0.1) rfl (by rw [hml]; rfl) (lenOf pd__28_I_29_Ljava_2f_lang_2f_AbstractStringBuilder_3b_ rfl) rfl (by show 2 * 0 + _ ≤ _; exact Nat.le_of_eq rfl) (hb hby d_jdk_67_m_15_2) (by decide) (by decide) ?_
  intro v_4 h_5 bk_6 O_7 z_8 Q_9
  obtain ⟨a_10, k_11, e_12, e_13, e_14, rfl, rfl, K_15, F_16, P_17, P_18, P_19⟩ := Q_9
  have ne_20 : @Ne Nat a a_10 := F_16.2.2.2.2.2.2.2
  have lt_21 : @LT.lt Nat _ a (Array.size h_5) := F_16.lt1
  have lt_22 : @LT.lt Nat _ a_10 (Array.size h_5) := F_16.lt2
  show Run p l e _ s m _ below meth c Z EL1 _ n0 bk h_5 1 130 (mkF m 5 #[.val (.ref a), .val (.int x)] [(.ref a)]) _
  refine k_pure (g' := (mkF m 6 #[.val (.ref a), .val (.int x)] [])) (fun TT HH tt kk => XS.pop HH hx rfl (hb hby d_jdk_67_m_15_5) rfl rfl kk) ?_
  refine k_pure (g' := (mkF m 7 #[.val (.ref a), .val (.int x)] [(.ref a)])) (fun TT HH tt kk => XS.aloadN HH hx rfl (hb hby d_jdk_67_m_15_6) rfl rfl kk) ?_
  exact k_retA hx hlk hret rfl rfl rfl (hb hby d_jdk_67_m_15_7) (by decide) (by decide) ⟨a_10, k_11, e_12, e_13, e_14, rfl, rfl, ((Keep.refl _ _).trans K_15 (kkS (Or.inl (by simp)) kk0)), F_16, P_17, (by omega), P_19⟩
def Q_thr (Z : State) (G1 : Int32) (G3 : Value) (d1 d2 us ss : Addr) (kd1 kd2 : ClassId) (w1 w2 : List Value) (x : Addr) (mg : Addr) (h0 : Heap) (n0 : Nat) (bk : Addr → Prop) (v : Option Value) (h : Heap) (bk' : Addr → Prop) : Prop := v = none ∧ bk = bk' ∧ Keep h0 h [x] ∧ (Exa Z h x "com/example/lidmaat/lidmaat/http/Refusal") ∧ (Fld Z h x "com/example/lidmaat/lidmaat/http/Refusal" "status" "I" (.int (0 : Int32)))
theorem d_jdk_78_m_5_0 : decode jdk_78_method_5_code 0 = .ok (.aload_n 0, 1) := by decide +kernel
theorem d_jdk_78_m_5_1 : decode jdk_78_method_5_code 1 = .ok (.invokespecial 1, 3) := by decide +kernel
theorem d_jdk_78_m_5_4 : decode jdk_78_method_5_code 4 = .ok (.aload_n 0, 1) := by decide +kernel
theorem d_jdk_78_m_5_5 : decode jdk_78_method_5_code 5 = .ok (.aload_n 0, 1) := by decide +kernel
theorem d_jdk_78_m_5_6 : decode jdk_78_method_5_code 6 = .ok (.putfield 7, 3) := by decide +kernel
theorem d_jdk_78_m_5_9 : decode jdk_78_method_5_code 9 = .ok (.aload_n 0, 1) := by decide +kernel
theorem d_jdk_78_m_5_10 : decode jdk_78_method_5_code 10 = .ok (.getstatic 13, 3) := by decide +kernel
theorem d_jdk_78_m_5_13 : decode jdk_78_method_5_code 13 = .ok (.putfield 17, 3) := by decide +kernel
theorem d_jdk_78_m_5_16 : decode jdk_78_method_5_code 16 = .ok (.aload_n 0, 1) := by decide +kernel
theorem d_jdk_78_m_5_17 : decode jdk_78_method_5_code 17 = .ok (.getstatic 20, 3) := by decide +kernel
theorem d_jdk_78_m_5_20 : decode jdk_78_method_5_code 20 = .ok (.putfield 24, 3) := by decide +kernel
theorem d_jdk_78_m_5_23 : decode jdk_78_method_5_code 23 = .ok (.iload 4, 2) := by decide +kernel
theorem d_jdk_78_m_5_25 : decode jdk_78_method_5_code 25 = .ok (.ifCond .eq 11, 3) := by decide +kernel
theorem d_jdk_78_m_5_36 : decode jdk_78_method_5_code 36 = .ok (.aload_n 0, 1) := by decide +kernel
theorem d_jdk_78_m_5_37 : decode jdk_78_method_5_code 37 = .ok (.aconst_null, 1) := by decide +kernel
theorem d_jdk_78_m_5_38 : decode jdk_78_method_5_code 38 = .ok (.putfield 17, 3) := by decide +kernel
theorem d_jdk_78_m_5_41 : decode jdk_78_method_5_code 41 = .ok (.aload_n 0, 1) := by decide +kernel
theorem d_jdk_78_m_5_42 : decode jdk_78_method_5_code 42 = .ok (.aload_n 1, 1) := by decide +kernel
theorem d_jdk_78_m_5_43 : decode jdk_78_method_5_code 43 = .ok (.putfield 31, 3) := by decide +kernel
theorem d_jdk_78_m_5_46 : decode jdk_78_method_5_code 46 = .ok (.aload_n 0, 1) := by decide +kernel
theorem d_jdk_78_m_5_47 : decode jdk_78_method_5_code 47 = .ok (.aload_n 2, 1) := by decide +kernel
theorem d_jdk_78_m_5_48 : decode jdk_78_method_5_code 48 = .ok (.putfield 7, 3) := by decide +kernel
theorem d_jdk_78_m_5_51 : decode jdk_78_method_5_code 51 = .ok (.iload_n 3, 1) := by decide +kernel
theorem d_jdk_78_m_5_52 : decode jdk_78_method_5_code 52 = .ok (.ifCond .ne 8, 3) := by decide +kernel
theorem d_jdk_78_m_5_55 : decode jdk_78_method_5_code 55 = .ok (.aload_n 0, 1) := by decide +kernel
theorem d_jdk_78_m_5_56 : decode jdk_78_method_5_code 56 = .ok (.aconst_null, 1) := by decide +kernel
theorem d_jdk_78_m_5_57 : decode jdk_78_method_5_code 57 = .ok (.putfield 24, 3) := by decide +kernel
theorem d_jdk_78_m_5_60 : decode jdk_78_method_5_code 60 = .ok (.return_, 1) := by decide +kernel
abbrev RM_thr : Room := { frames := 1, cells := 0, slots := 0, locals := 12 }
theorem ef_thr (m : MethodId) (x0 : Addr) (x1 : Addr) (x3 : Int32) (x4 : Int32) : entryFrame m #[(.ref x0), (.ref x1), .null, (.int x3), (.int x4)] 5 = mkF m 0 #[.val (.ref x0), .val (.ref x1), .val .null, .val (.int x3), .val (.int x4)] [] := by first | (simp [entryFrame, mkF, argsToLocals, Value.category]; done) | rfl
set_option maxRecDepth 65536 in
set_option maxHeartbeats 40000000 in
theorem rm_thr (l : Launch) (Z : State) (a0 : Array Value) (G1 : Int32) (G3 : Value) (d1 d2 us ss : Addr) (kd1 kd2 : ClassId) (w1 w2 : List Value) (hX : Ctx Z a0 G1 G3) (hY : More Z d1 d2 us ss kd1 kd2 w1 w2) (n0 : Nat) (bk : Addr → Prop) (h0 : Heap) (O0 : Old Z n0 h0) (x : Addr) (mg : Addr) (pf_0 : Exa Z h0 x "com/example/lidmaat/lidmaat/http/Refusal") (pf_1 : Fld Z h0 x "java/lang/Throwable" "cause" "Ljava/lang/Throwable;" .null) (pf_2 : Fld Z h0 x "java/lang/Throwable" "stackTrace" "[Ljava/lang/StackTraceElement;" .null) (pf_3 : Fld Z h0 x "java/lang/Throwable" "suppressedExceptions" "Ljava/util/List;" .null) (pf_4 : Fld Z h0 x "java/lang/Throwable" "detailMessage" "Ljava/lang/String;" .null) (nbx : ¬ bk x) (gx : n0 ≤ x) (pf_7 : Fld Z h0 x "com/example/lidmaat/lidmaat/http/Refusal" "status" "I" (.int (0 : Int32))) (ws : List Jvm.Cond) : Met l Z EL1 n0 bk (⟨"java/lang/Throwable", "<init>", "(Ljava/lang/String;Ljava/lang/Throwable;ZZ)V"⟩ : MethodName) jdk_78_method_5_code 5 (Option.none : Option FieldType) RM_thr #[(.ref x), (.ref mg), .null, (.int (0 : Int32)), (.int (0 : Int32))] h0 (Q_thr Z G1 G3 d1 d2 us ss kd1 kd2 w1 w2 x mg h0 n0 bk) ws := by
  have hX' := hX
  obtain ⟨hw, hE, S1, P1, S3, P3⟩ := hX'
  have hY' := hY
  obtain ⟨s_d1, a_d1, s_d2, a_d2, s_us, s_ss⟩ := hY'
  have hSA := sa_of hw
  have z0 : n0 ≤ h0.size := by rw [← O0.1]; exact O0.2.1
  refine Met.of (by decide +kernel) O0 hE ?_
  intro p e s m below meth c hx hby hml hret hlk hnm
  refine k_cast (ef_thr m x mg (0 : Int32) (0 : Int32)) ?_
  show Run p l e _ s m _ below meth c Z EL1 _ n0 bk h0 0 0 (mkF m 0 #[.val (.ref x), .val (.ref mg), .val .null, .val (.int (0 : Int32)), .val (.int (0 : Int32))] []) _
  have lt_1 : @LT.lt Nat _ x (Array.size h0) := pf_0.lt
  have lt_2 : @LT.lt Nat _ x (Array.size h0) := pf_1.lt
  have lt_3 : @LT.lt Nat _ x (Array.size h0) := pf_2.lt
  have lt_4 : @LT.lt Nat _ x (Array.size h0) := pf_3.lt
  have lt_5 : @LT.lt Nat _ x (Array.size h0) := pf_4.lt
  have lt_6 : @LT.lt Nat _ x (Array.size h0) := pf_7.lt
  refine k_pure (g' := (mkF m 1 #[.val (.ref x), .val (.ref mg), .val .null, .val (.int (0 : Int32)), .val (.int (0 : Int32))] [(.ref x)])) (fun TT HH tt kk => XS.aloadN HH hx rfl (hb hby d_jdk_78_m_5_0) rfl rfl kk) ?_
  refine k_initO hx (hw _ (List.mem_of_getElem? (i := 181) rfl)) (hw _ (List.mem_of_getElem? (i := 19) rfl)) (hw _ (List.mem_of_getElem? (i := 20) rfl)) rfl (by rw [hml]; rfl) rfl (hb hby d_jdk_78_m_5_1) (by decide) (W := 0) (by show 2 * 0 + _ ≤ _; exact Nat.le_of_eq rfl) (by decide) ?_
  show Run p l e _ s m _ below meth c Z EL1 _ n0 bk h0 0 0 (mkF m 4 #[.val (.ref x), .val (.ref mg), .val .null, .val (.int (0 : Int32)), .val (.int (0 : Int32))] []) _
  refine k_pure (g' := (mkF m 5 #[.val (.ref x), .val (.ref mg), .val .null, .val (.int (0 : Int32)), .val (.int (0 : Int32))] [(.ref x)])) (fun TT HH tt kk => XS.aloadN HH hx rfl (hb hby d_jdk_78_m_5_4) rfl rfl kk) ?_
  refine k_pure (g' := (mkF m 6 #[.val (.ref x), .val (.ref mg), .val .null, .val (.int (0 : Int32)), .val (.int (0 : Int32))] [(.ref x), (.ref x)])) (fun TT HH tt kk => XS.aloadN HH hx rfl (hb hby d_jdk_78_m_5_5) rfl rfl kk) ?_
  refine k_putF hx (host := "") (Or.inl (hw _ (List.mem_of_getElem? (i := 182) rfl))) Via.refl pf_1 pf_0 (Or.inl (hw _ (List.mem_of_getElem? (i := 183) rfl))) (hw _ (List.mem_of_getElem? (i := 5) rfl)) (ty := (.object "java/lang/Throwable")) (by decide) rfl rfl (by omega) nbx rfl rfl (hb hby d_jdk_78_m_5_6) ?_
  intro h_7 O_9 W_8
  have z_10 := W_8.size
  show Run p l e _ s m _ below meth c Z EL1 _ n0 bk h_7 0 0 (mkF m 9 #[.val (.ref x), .val (.ref mg), .val .null, .val (.int (0 : Int32)), .val (.int (0 : Int32))] []) _
  refine k_pure (g' := (mkF m 10 #[.val (.ref x), .val (.ref mg), .val .null, .val (.int (0 : Int32)), .val (.int (0 : Int32))] [(.ref x)])) (fun TT HH tt kk => XS.aloadN HH hx rfl (hb hby d_jdk_78_m_5_9) rfl rfl kk) ?_
  refine k_getS hx (host := "") (Or.inl (hw _ (List.mem_of_getElem? (i := 184) rfl))) Via.refl (s_us.ext O_9.2) rfl (hb hby d_jdk_78_m_5_10) ?_
  show Run p l e _ s m _ below meth c Z EL1 _ n0 bk h_7 0 0 (mkF m 13 #[.val (.ref x), .val (.ref mg), .val .null, .val (.int (0 : Int32)), .val (.int (0 : Int32))] [(.ref us), (.ref x)]) _
  have F_11 : Fld Z h_7 x "java/lang/Throwable" "stackTrace" "[Ljava/lang/StackTraceElement;" .null := (pf_2.other W_8 (Or.inr (RoadKit.slot_ne (C := "com/example/lidmaat/lidmaat/http/Refusal") (Or.inl (hw _ (List.mem_of_getElem? (i := 186) rfl))) (Or.inl (hw _ (List.mem_of_getElem? (i := 183) rfl))) (by decide) (t := (.array (.object "java/lang/StackTraceElement"))) (t' := (.object "java/lang/Throwable")) (by decide) (by decide))))
  have F_12 : Exa Z h_7 x "com/example/lidmaat/lidmaat/http/Refusal" := (pf_0.wr W_8)
  refine k_putF hx (host := "") (Or.inl (hw _ (List.mem_of_getElem? (i := 185) rfl))) Via.refl F_11 F_12 (Or.inl (hw _ (List.mem_of_getElem? (i := 186) rfl))) (hw _ (List.mem_of_getElem? (i := 5) rfl)) (ty := (.array (.object "java/lang/StackTraceElement"))) (by decide) rfl rfl (by omega) nbx rfl rfl (hb hby d_jdk_78_m_5_13) ?_
  intro h_13 O_15 W_14
  have z_16 := W_14.size
  show Run p l e _ s m _ below meth c Z EL1 _ n0 bk h_13 0 0 (mkF m 16 #[.val (.ref x), .val (.ref mg), .val .null, .val (.int (0 : Int32)), .val (.int (0 : Int32))] []) _
  refine k_pure (g' := (mkF m 17 #[.val (.ref x), .val (.ref mg), .val .null, .val (.int (0 : Int32)), .val (.int (0 : Int32))] [(.ref x)])) (fun TT HH tt kk => XS.aloadN HH hx rfl (hb hby d_jdk_78_m_5_16) rfl rfl kk) ?_
  refine k_getS hx (host := "") (Or.inl (hw _ (List.mem_of_getElem? (i := 187) rfl))) Via.refl (s_ss.ext O_15.2) rfl (hb hby d_jdk_78_m_5_17) ?_
  show Run p l e _ s m _ below meth c Z EL1 _ n0 bk h_13 0 0 (mkF m 20 #[.val (.ref x), .val (.ref mg), .val .null, .val (.int (0 : Int32)), .val (.int (0 : Int32))] [(.ref ss), (.ref x)]) _
  have F_17 : Fld Z h_13 x "java/lang/Throwable" "suppressedExceptions" "Ljava/util/List;" .null := ((pf_3.other W_8 (Or.inr (RoadKit.slot_ne (C := "com/example/lidmaat/lidmaat/http/Refusal") (Or.inl (hw _ (List.mem_of_getElem? (i := 189) rfl))) (Or.inl (hw _ (List.mem_of_getElem? (i := 183) rfl))) (by decide) (t := (.object "java/util/List")) (t' := (.object "java/lang/Throwable")) (by decide) (by decide)))).other W_14 (Or.inr (RoadKit.slot_ne (C := "com/example/lidmaat/lidmaat/http/Refusal") (Or.inl (hw _ (List.mem_of_getElem? (i := 189) rfl))) (Or.inl (hw _ (List.mem_of_getElem? (i := 186) rfl))) (by decide) (t := (.object "java/util/List")) (t' := (.array (.object "java/lang/StackTraceElement"))) (by decide) (by decide))))
  have F_18 : Exa Z h_13 x "com/example/lidmaat/lidmaat/http/Refusal" := (F_12.wr W_14)
  refine k_putF hx (host := "") (Or.inl (hw _ (List.mem_of_getElem? (i := 188) rfl))) Via.refl F_17 F_18 (Or.inl (hw _ (List.mem_of_getElem? (i := 189) rfl))) (hw _ (List.mem_of_getElem? (i := 5) rfl)) (ty := (.object "java/util/List")) (by decide) rfl rfl (by omega) nbx rfl rfl (hb hby d_jdk_78_m_5_20) ?_
  intro h_19 O_21 W_20
  have z_22 := W_20.size
  show Run p l e _ s m _ below meth c Z EL1 _ n0 bk h_19 0 0 (mkF m 23 #[.val (.ref x), .val (.ref mg), .val .null, .val (.int (0 : Int32)), .val (.int (0 : Int32))] []) _
  refine k_pure (g' := (mkF m 25 #[.val (.ref x), .val (.ref mg), .val .null, .val (.int (0 : Int32)), .val (.int (0 : Int32))] [(.int (0 : Int32))])) (fun TT HH tt kk => XS.iload HH hx rfl (hb hby d_jdk_78_m_5_23) rfl kk) ?_
  refine k_pure (g' := (mkF m 36 #[.val (.ref x), .val (.ref mg), .val .null, .val (.int (0 : Int32)), .val (.int (0 : Int32))] [])) (fun TT HH tt kk => XS.ifYes HH hx rfl (pc0 := 25) (pc' := 36) rfl (hb hby d_jdk_78_m_5_25) rfl ((if0 _ _).trans (teq (by decide : ((0 : Int32) = (0 : Int32)))).1) (by decide) (by decide) kk) ?_
  refine k_pure (g' := (mkF m 37 #[.val (.ref x), .val (.ref mg), .val .null, .val (.int (0 : Int32)), .val (.int (0 : Int32))] [(.ref x)])) (fun TT HH tt kk => XS.aloadN HH hx rfl (hb hby d_jdk_78_m_5_36) rfl rfl kk) ?_
  refine k_pure (g' := (mkF m 38 #[.val (.ref x), .val (.ref mg), .val .null, .val (.int (0 : Int32)), .val (.int (0 : Int32))] [.null, (.ref x)])) (fun TT HH tt kk => XS.aconstNull HH hx rfl (hb hby d_jdk_78_m_5_37) kk) ?_
  have F_23 : Fld Z h_19 x "java/lang/Throwable" "stackTrace" "[Ljava/lang/StackTraceElement;" (.ref us) := ((F_11.same W_14).other W_20 (Or.inr (RoadKit.slot_ne (C := "com/example/lidmaat/lidmaat/http/Refusal") (Or.inl (hw _ (List.mem_of_getElem? (i := 186) rfl))) (Or.inl (hw _ (List.mem_of_getElem? (i := 189) rfl))) (by decide) (t := (.array (.object "java/lang/StackTraceElement"))) (t' := (.object "java/util/List")) (by decide) (by decide))))
  have F_24 : Exa Z h_19 x "com/example/lidmaat/lidmaat/http/Refusal" := (F_18.wr W_20)
  refine k_putF hx (host := "") (Or.inl (hw _ (List.mem_of_getElem? (i := 185) rfl))) Via.refl F_23 F_24 (Or.inl (hw _ (List.mem_of_getElem? (i := 186) rfl))) (hw _ (List.mem_of_getElem? (i := 5) rfl)) (ty := (.array (.object "java/lang/StackTraceElement"))) (by decide) rfl rfl (by omega) nbx rfl rfl (hb hby d_jdk_78_m_5_38) ?_
  intro h_25 O_27 W_26
  have z_28 := W_26.size
  show Run p l e _ s m _ below meth c Z EL1 _ n0 bk h_25 0 0 (mkF m 41 #[.val (.ref x), .val (.ref mg), .val .null, .val (.int (0 : Int32)), .val (.int (0 : Int32))] []) _
  refine k_pure (g' := (mkF m 42 #[.val (.ref x), .val (.ref mg), .val .null, .val (.int (0 : Int32)), .val (.int (0 : Int32))] [(.ref x)])) (fun TT HH tt kk => XS.aloadN HH hx rfl (hb hby d_jdk_78_m_5_41) rfl rfl kk) ?_
  refine k_pure (g' := (mkF m 43 #[.val (.ref x), .val (.ref mg), .val .null, .val (.int (0 : Int32)), .val (.int (0 : Int32))] [(.ref mg), (.ref x)])) (fun TT HH tt kk => XS.aloadN HH hx rfl (hb hby d_jdk_78_m_5_42) rfl rfl kk) ?_
  have F_29 : Fld Z h_25 x "java/lang/Throwable" "detailMessage" "Ljava/lang/String;" .null := ((((pf_4.other W_8 (Or.inr (RoadKit.slot_ne (C := "com/example/lidmaat/lidmaat/http/Refusal") (Or.inl (hw _ (List.mem_of_getElem? (i := 191) rfl))) (Or.inl (hw _ (List.mem_of_getElem? (i := 183) rfl))) (by decide) (t := (.object "java/lang/String")) (t' := (.object "java/lang/Throwable")) (by decide) (by decide)))).other W_14 (Or.inr (RoadKit.slot_ne (C := "com/example/lidmaat/lidmaat/http/Refusal") (Or.inl (hw _ (List.mem_of_getElem? (i := 191) rfl))) (Or.inl (hw _ (List.mem_of_getElem? (i := 186) rfl))) (by decide) (t := (.object "java/lang/String")) (t' := (.array (.object "java/lang/StackTraceElement"))) (by decide) (by decide)))).other W_20 (Or.inr (RoadKit.slot_ne (C := "com/example/lidmaat/lidmaat/http/Refusal") (Or.inl (hw _ (List.mem_of_getElem? (i := 191) rfl))) (Or.inl (hw _ (List.mem_of_getElem? (i := 189) rfl))) (by decide) (t := (.object "java/lang/String")) (t' := (.object "java/util/List")) (by decide) (by decide)))).other W_26 (Or.inr (RoadKit.slot_ne (C := "com/example/lidmaat/lidmaat/http/Refusal") (Or.inl (hw _ (List.mem_of_getElem? (i := 191) rfl))) (Or.inl (hw _ (List.mem_of_getElem? (i := 186) rfl))) (by decide) (t := (.object "java/lang/String")) (t' := (.array (.object "java/lang/StackTraceElement"))) (by decide) (by decide))))
  have F_30 : Exa Z h_25 x "com/example/lidmaat/lidmaat/http/Refusal" := (F_24.wr W_26)
  refine k_putF hx (host := "") (Or.inl (hw _ (List.mem_of_getElem? (i := 190) rfl))) Via.refl F_29 F_30 (Or.inl (hw _ (List.mem_of_getElem? (i := 191) rfl))) (hw _ (List.mem_of_getElem? (i := 5) rfl)) (ty := (.object "java/lang/String")) (by decide) rfl rfl (by omega) nbx rfl rfl (hb hby d_jdk_78_m_5_43) ?_
  intro h_31 O_33 W_32
  have z_34 := W_32.size
  show Run p l e _ s m _ below meth c Z EL1 _ n0 bk h_31 0 0 (mkF m 46 #[.val (.ref x), .val (.ref mg), .val .null, .val (.int (0 : Int32)), .val (.int (0 : Int32))] []) _
  refine k_pure (g' := (mkF m 47 #[.val (.ref x), .val (.ref mg), .val .null, .val (.int (0 : Int32)), .val (.int (0 : Int32))] [(.ref x)])) (fun TT HH tt kk => XS.aloadN HH hx rfl (hb hby d_jdk_78_m_5_46) rfl rfl kk) ?_
  refine k_pure (g' := (mkF m 48 #[.val (.ref x), .val (.ref mg), .val .null, .val (.int (0 : Int32)), .val (.int (0 : Int32))] [.null, (.ref x)])) (fun TT HH tt kk => XS.aloadN HH hx rfl (hb hby d_jdk_78_m_5_47) rfl rfl kk) ?_
  have F_35 : Fld Z h_31 x "java/lang/Throwable" "cause" "Ljava/lang/Throwable;" (.ref x) := (((((pf_1.same W_8).other W_14 (Or.inr (RoadKit.slot_ne (C := "com/example/lidmaat/lidmaat/http/Refusal") (Or.inl (hw _ (List.mem_of_getElem? (i := 183) rfl))) (Or.inl (hw _ (List.mem_of_getElem? (i := 186) rfl))) (by decide) (t := (.object "java/lang/Throwable")) (t' := (.array (.object "java/lang/StackTraceElement"))) (by decide) (by decide)))).other W_20 (Or.inr (RoadKit.slot_ne (C := "com/example/lidmaat/lidmaat/http/Refusal") (Or.inl (hw _ (List.mem_of_getElem? (i := 183) rfl))) (Or.inl (hw _ (List.mem_of_getElem? (i := 189) rfl))) (by decide) (t := (.object "java/lang/Throwable")) (t' := (.object "java/util/List")) (by decide) (by decide)))).other W_26 (Or.inr (RoadKit.slot_ne (C := "com/example/lidmaat/lidmaat/http/Refusal") (Or.inl (hw _ (List.mem_of_getElem? (i := 183) rfl))) (Or.inl (hw _ (List.mem_of_getElem? (i := 186) rfl))) (by decide) (t := (.object "java/lang/Throwable")) (t' := (.array (.object "java/lang/StackTraceElement"))) (by decide) (by decide)))).other W_32 (Or.inr (RoadKit.slot_ne (C := "com/example/lidmaat/lidmaat/http/Refusal") (Or.inl (hw _ (List.mem_of_getElem? (i := 183) rfl))) (Or.inl (hw _ (List.mem_of_getElem? (i := 191) rfl))) (by decide) (t := (.object "java/lang/Throwable")) (t' := (.object "java/lang/String")) (by decide) (by decide))))
  have F_36 : Exa Z h_31 x "com/example/lidmaat/lidmaat/http/Refusal" := (F_30.wr W_32)
  refine k_putF hx (host := "") (Or.inl (hw _ (List.mem_of_getElem? (i := 182) rfl))) Via.refl F_35 F_36 (Or.inl (hw _ (List.mem_of_getElem? (i := 183) rfl))) (hw _ (List.mem_of_getElem? (i := 5) rfl)) (ty := (.object "java/lang/Throwable")) (by decide) rfl rfl (by omega) nbx rfl rfl (hb hby d_jdk_78_m_5_48) ?_
  intro h_37 O_39 W_38
  have z_40 := W_38.size
  show Run p l e _ s m _ below meth c Z EL1 _ n0 bk h_37 0 0 (mkF m 51 #[.val (.ref x), .val (.ref mg), .val .null, .val (.int (0 : Int32)), .val (.int (0 : Int32))] []) _
  refine k_pure (g' := (mkF m 52 #[.val (.ref x), .val (.ref mg), .val .null, .val (.int (0 : Int32)), .val (.int (0 : Int32))] [(.int (0 : Int32))])) (fun TT HH tt kk => XS.iloadN HH hx rfl (hb hby d_jdk_78_m_5_51) rfl kk) ?_
  refine k_pure (g' := (mkF m 55 #[.val (.ref x), .val (.ref mg), .val .null, .val (.int (0 : Int32)), .val (.int (0 : Int32))] [])) (fun TT HH tt kk => XS.ifNo HH hx rfl (hb hby d_jdk_78_m_5_52) rfl ((if0 _ _).trans (teq (by decide : ((0 : Int32) = (0 : Int32)))).2) kk) ?_
  refine k_pure (g' := (mkF m 56 #[.val (.ref x), .val (.ref mg), .val .null, .val (.int (0 : Int32)), .val (.int (0 : Int32))] [(.ref x)])) (fun TT HH tt kk => XS.aloadN HH hx rfl (hb hby d_jdk_78_m_5_55) rfl rfl kk) ?_
  refine k_pure (g' := (mkF m 57 #[.val (.ref x), .val (.ref mg), .val .null, .val (.int (0 : Int32)), .val (.int (0 : Int32))] [.null, (.ref x)])) (fun TT HH tt kk => XS.aconstNull HH hx rfl (hb hby d_jdk_78_m_5_56) kk) ?_
  have F_41 : Fld Z h_37 x "java/lang/Throwable" "suppressedExceptions" "Ljava/util/List;" (.ref ss) := ((((F_17.same W_20).other W_26 (Or.inr (RoadKit.slot_ne (C := "com/example/lidmaat/lidmaat/http/Refusal") (Or.inl (hw _ (List.mem_of_getElem? (i := 189) rfl))) (Or.inl (hw _ (List.mem_of_getElem? (i := 186) rfl))) (by decide) (t := (.object "java/util/List")) (t' := (.array (.object "java/lang/StackTraceElement"))) (by decide) (by decide)))).other W_32 (Or.inr (RoadKit.slot_ne (C := "com/example/lidmaat/lidmaat/http/Refusal") (Or.inl (hw _ (List.mem_of_getElem? (i := 189) rfl))) (Or.inl (hw _ (List.mem_of_getElem? (i := 191) rfl))) (by decide) (t := (.object "java/util/List")) (t' := (.object "java/lang/String")) (by decide) (by decide)))).other W_38 (Or.inr (RoadKit.slot_ne (C := "com/example/lidmaat/lidmaat/http/Refusal") (Or.inl (hw _ (List.mem_of_getElem? (i := 189) rfl))) (Or.inl (hw _ (List.mem_of_getElem? (i := 183) rfl))) (by decide) (t := (.object "java/util/List")) (t' := (.object "java/lang/Throwable")) (by decide) (by decide))))
  have F_42 : Exa Z h_37 x "com/example/lidmaat/lidmaat/http/Refusal" := (F_36.wr W_38)
  refine k_putF hx (host := "") (Or.inl (hw _ (List.mem_of_getElem? (i := 188) rfl))) Via.refl F_41 F_42 (Or.inl (hw _ (List.mem_of_getElem? (i := 189) rfl))) (hw _ (List.mem_of_getElem? (i := 5) rfl)) (ty := (.object "java/util/List")) (by decide) rfl rfl (by omega) nbx rfl rfl (hb hby d_jdk_78_m_5_57) ?_
  intro h_43 O_45 W_44
  have z_46 := W_44.size
  show Run p l e _ s m _ below meth c Z EL1 _ n0 bk h_43 0 0 (mkF m 60 #[.val (.ref x), .val (.ref mg), .val .null, .val (.int (0 : Int32)), .val (.int (0 : Int32))] []) _
  have F_47 : Exa Z h_43 x "com/example/lidmaat/lidmaat/http/Refusal" := (F_42.wr W_44)
  have F_48 : Fld Z h_43 x "com/example/lidmaat/lidmaat/http/Refusal" "status" "I" (.int (0 : Int32)) := (((((((pf_7.other W_8 (Or.inr (RoadKit.slot_ne (C := "com/example/lidmaat/lidmaat/http/Refusal") (Or.inr (hw _ (List.mem_of_getElem? (i := 193) rfl))) (Or.inl (hw _ (List.mem_of_getElem? (i := 183) rfl))) (by decide) (t := .int) (t' := (.object "java/lang/Throwable")) (by decide) (by decide)))).other W_14 (Or.inr (RoadKit.slot_ne (C := "com/example/lidmaat/lidmaat/http/Refusal") (Or.inr (hw _ (List.mem_of_getElem? (i := 193) rfl))) (Or.inl (hw _ (List.mem_of_getElem? (i := 186) rfl))) (by decide) (t := .int) (t' := (.array (.object "java/lang/StackTraceElement"))) (by decide) (by decide)))).other W_20 (Or.inr (RoadKit.slot_ne (C := "com/example/lidmaat/lidmaat/http/Refusal") (Or.inr (hw _ (List.mem_of_getElem? (i := 193) rfl))) (Or.inl (hw _ (List.mem_of_getElem? (i := 189) rfl))) (by decide) (t := .int) (t' := (.object "java/util/List")) (by decide) (by decide)))).other W_26 (Or.inr (RoadKit.slot_ne (C := "com/example/lidmaat/lidmaat/http/Refusal") (Or.inr (hw _ (List.mem_of_getElem? (i := 193) rfl))) (Or.inl (hw _ (List.mem_of_getElem? (i := 186) rfl))) (by decide) (t := .int) (t' := (.array (.object "java/lang/StackTraceElement"))) (by decide) (by decide)))).other W_32 (Or.inr (RoadKit.slot_ne (C := "com/example/lidmaat/lidmaat/http/Refusal") (Or.inr (hw _ (List.mem_of_getElem? (i := 193) rfl))) (Or.inl (hw _ (List.mem_of_getElem? (i := 191) rfl))) (by decide) (t := .int) (t' := (.object "java/lang/String")) (by decide) (by decide)))).other W_38 (Or.inr (RoadKit.slot_ne (C := "com/example/lidmaat/lidmaat/http/Refusal") (Or.inr (hw _ (List.mem_of_getElem? (i := 193) rfl))) (Or.inl (hw _ (List.mem_of_getElem? (i := 183) rfl))) (by decide) (t := .int) (t' := (.object "java/lang/Throwable")) (by decide) (by decide)))).other W_44 (Or.inr (RoadKit.slot_ne (C := "com/example/lidmaat/lidmaat/http/Refusal") (Or.inr (hw _ (List.mem_of_getElem? (i := 193) rfl))) (Or.inl (hw _ (List.mem_of_getElem? (i := 189) rfl))) (by decide) (t := .int) (t' := (.object "java/util/List")) (by decide) (by decide))))
  exact k_ret0 hx hlk hret (hb hby d_jdk_78_m_5_60) (by decide) (by decide) ⟨rfl, rfl, ((((((((Keep.refl _ _).wr W_8 (Or.inl (by simp))).wr W_14 (Or.inl (by simp))).wr W_20 (Or.inl (by simp))).wr W_26 (Or.inl (by simp))).wr W_32 (Or.inl (by simp))).wr W_38 (Or.inl (by simp))).wr W_44 (Or.inl (by simp))), F_47, F_48⟩
def Q_exc (Z : State) (G1 : Int32) (G3 : Value) (d1 d2 us ss : Addr) (kd1 kd2 : ClassId) (w1 w2 : List Value) (x : Addr) (mg : Addr) (h0 : Heap) (n0 : Nat) (bk : Addr → Prop) (v : Option Value) (h : Heap) (bk' : Addr → Prop) : Prop := v = none ∧ bk = bk' ∧ Keep h0 h [x] ∧ (Exa Z h x "com/example/lidmaat/lidmaat/http/Refusal") ∧ (Fld Z h x "com/example/lidmaat/lidmaat/http/Refusal" "status" "I" (.int (0 : Int32)))
theorem d_jdk_59_m_5_0 : decode jdk_59_method_5_code 0 = .ok (.aload_n 0, 1) := by decide +kernel
theorem d_jdk_59_m_5_1 : decode jdk_59_method_5_code 1 = .ok (.aload_n 1, 1) := by decide +kernel
theorem d_jdk_59_m_5_2 : decode jdk_59_method_5_code 2 = .ok (.aload_n 2, 1) := by decide +kernel
theorem d_jdk_59_m_5_3 : decode jdk_59_method_5_code 3 = .ok (.iload_n 3, 1) := by decide +kernel
theorem d_jdk_59_m_5_4 : decode jdk_59_method_5_code 4 = .ok (.iload 4, 2) := by decide +kernel
theorem d_jdk_59_m_5_6 : decode jdk_59_method_5_code 6 = .ok (.invokespecial 16, 3) := by decide +kernel
theorem pd__28_Ljava_2f_lang_2f_String_3b_Ljava_2f_lang_2f_Throwable_3b_ZZ_29_V : parseMethodDescriptor "(Ljava/lang/String;Ljava/lang/Throwable;ZZ)V" = some ⟨[(.object "java/lang/String"), (.object "java/lang/Throwable"), .boolean, .boolean], none⟩ := by decide +kernel
theorem d_jdk_59_m_5_9 : decode jdk_59_method_5_code 9 = .ok (.return_, 1) := by decide +kernel
abbrev RM_exc : Room := { frames := 2, cells := 0, slots := 0, locals := 28 }
theorem ef_exc (m : MethodId) (x0 : Addr) (x1 : Addr) (x3 : Int32) (x4 : Int32) : entryFrame m #[(.ref x0), (.ref x1), .null, (.int x3), (.int x4)] 5 = mkF m 0 #[.val (.ref x0), .val (.ref x1), .val .null, .val (.int x3), .val (.int x4)] [] := by first | (simp [entryFrame, mkF, argsToLocals, Value.category]; done) | rfl
set_option maxRecDepth 65536 in
set_option maxHeartbeats 40000000 in
theorem rm_exc (l : Launch) (Z : State) (a0 : Array Value) (G1 : Int32) (G3 : Value) (d1 d2 us ss : Addr) (kd1 kd2 : ClassId) (w1 w2 : List Value) (hX : Ctx Z a0 G1 G3) (hY : More Z d1 d2 us ss kd1 kd2 w1 w2) (n0 : Nat) (bk : Addr → Prop) (h0 : Heap) (O0 : Old Z n0 h0) (x : Addr) (mg : Addr) (pf_0 : Exa Z h0 x "com/example/lidmaat/lidmaat/http/Refusal") (pf_1 : Fld Z h0 x "java/lang/Throwable" "cause" "Ljava/lang/Throwable;" .null) (pf_2 : Fld Z h0 x "java/lang/Throwable" "stackTrace" "[Ljava/lang/StackTraceElement;" .null) (pf_3 : Fld Z h0 x "java/lang/Throwable" "suppressedExceptions" "Ljava/util/List;" .null) (pf_4 : Fld Z h0 x "java/lang/Throwable" "detailMessage" "Ljava/lang/String;" .null) (nbx : ¬ bk x) (gx : n0 ≤ x) (pf_7 : Fld Z h0 x "com/example/lidmaat/lidmaat/http/Refusal" "status" "I" (.int (0 : Int32))) (ws : List Jvm.Cond) : Met l Z EL1 n0 bk (⟨"java/lang/Exception", "<init>", "(Ljava/lang/String;Ljava/lang/Throwable;ZZ)V"⟩ : MethodName) jdk_59_method_5_code 5 (Option.none : Option FieldType) RM_exc #[(.ref x), (.ref mg), .null, (.int (0 : Int32)), (.int (0 : Int32))] h0 (Q_exc Z G1 G3 d1 d2 us ss kd1 kd2 w1 w2 x mg h0 n0 bk) ws := by
  have hX' := hX
  obtain ⟨hw, hE, S1, P1, S3, P3⟩ := hX'
  have hY' := hY
  obtain ⟨s_d1, a_d1, s_d2, a_d2, s_us, s_ss⟩ := hY'
  have hSA := sa_of hw
  have z0 : n0 ≤ h0.size := by rw [← O0.1]; exact O0.2.1
  refine Met.of (by decide +kernel) O0 hE ?_
  intro p e s m below meth c hx hby hml hret hlk hnm
  refine k_cast (ef_exc m x mg (0 : Int32) (0 : Int32)) ?_
  show Run p l e _ s m _ below meth c Z EL1 _ n0 bk h0 0 0 (mkF m 0 #[.val (.ref x), .val (.ref mg), .val .null, .val (.int (0 : Int32)), .val (.int (0 : Int32))] []) _
  have lt_1 : @LT.lt Nat _ x (Array.size h0) := pf_0.lt
  have lt_2 : @LT.lt Nat _ x (Array.size h0) := pf_1.lt
  have lt_3 : @LT.lt Nat _ x (Array.size h0) := pf_2.lt
  have lt_4 : @LT.lt Nat _ x (Array.size h0) := pf_3.lt
  have lt_5 : @LT.lt Nat _ x (Array.size h0) := pf_4.lt
  have lt_6 : @LT.lt Nat _ x (Array.size h0) := pf_7.lt
  refine k_pure (g' := (mkF m 1 #[.val (.ref x), .val (.ref mg), .val .null, .val (.int (0 : Int32)), .val (.int (0 : Int32))] [(.ref x)])) (fun TT HH tt kk => XS.aloadN HH hx rfl (hb hby d_jdk_59_m_5_0) rfl rfl kk) ?_
  refine k_pure (g' := (mkF m 2 #[.val (.ref x), .val (.ref mg), .val .null, .val (.int (0 : Int32)), .val (.int (0 : Int32))] [(.ref mg), (.ref x)])) (fun TT HH tt kk => XS.aloadN HH hx rfl (hb hby d_jdk_59_m_5_1) rfl rfl kk) ?_
  refine k_pure (g' := (mkF m 3 #[.val (.ref x), .val (.ref mg), .val .null, .val (.int (0 : Int32)), .val (.int (0 : Int32))] [.null, (.ref mg), (.ref x)])) (fun TT HH tt kk => XS.aloadN HH hx rfl (hb hby d_jdk_59_m_5_2) rfl rfl kk) ?_
  refine k_pure (g' := (mkF m 4 #[.val (.ref x), .val (.ref mg), .val .null, .val (.int (0 : Int32)), .val (.int (0 : Int32))] [(.int (0 : Int32)), .null, (.ref mg), (.ref x)])) (fun TT HH tt kk => XS.iloadN HH hx rfl (hb hby d_jdk_59_m_5_3) rfl kk) ?_
  refine k_pure (g' := (mkF m 6 #[.val (.ref x), .val (.ref mg), .val .null, .val (.int (0 : Int32)), .val (.int (0 : Int32))] [(.int (0 : Int32)), (.int (0 : Int32)), .null, (.ref mg), (.ref x)])) (fun TT HH tt kk => XS.iload HH hx rfl (hb hby d_jdk_59_m_5_4) rfl kk) ?_
  refine k_callI hx (y := (⟨"java/lang/Throwable", "<init>", "(Ljava/lang/String;Ljava/lang/Throwable;ZZ)V"⟩ : MethodName)) rfl (hw _ (List.mem_of_getElem? (i := 175) rfl)) (hw _ (List.mem_of_getElem? (i := 176) rfl)) (hw _ (List.mem_of_getElem? (i := 180) rfl)) (by decide) (W := 0) (a := x) (argsL := [(.ref mg), .null, (.int (0 : Int32)), (.int (0 : Int32))]) (rest := []) (Pays.of_met (rm_thr l Z a0 G1 G3 d1 d2 us ss kd1 kd2 w1 w2 hX hY n0 bk h0 O0 x mg pf_0 pf_1 pf_2 pf_3 pf_4 nbx (by omega) pf_7 []) (hw _ (List.mem_of_getElem? (i := 180) rfl)) (hw _ (List.mem_of_getElem? (i := 179) rfl)) (by decide) (by decide)) rfl (by rw [hml]; rfl) (lenOf pd__28_Ljava_2f_lang_2f_String_3b_Ljava_2f_lang_2f_Throwable_3b_ZZ_29_V rfl) rfl (by show 2 * 0 + _ ≤ _; exact Nat.le_of_eq rfl) (hb hby d_jdk_59_m_5_6) (by decide) (by decide) ?_
  intro v_7 h_8 bk_9 O_10 z_11 Q_12
  obtain ⟨rfl, rfl, K_13, F_14, F_15⟩ := Q_12
  have lt_16 : @LT.lt Nat _ x (Array.size h_8) := F_14.lt
  have lt_17 : @LT.lt Nat _ x (Array.size h_8) := F_15.lt
  show Run p l e _ s m _ below meth c Z EL1 _ n0 bk h_8 0 0 (mkF m 9 #[.val (.ref x), .val (.ref mg), .val .null, .val (.int (0 : Int32)), .val (.int (0 : Int32))] []) _
  exact k_ret0 hx hlk hret (hb hby d_jdk_59_m_5_9) (by decide) (by decide) ⟨rfl, rfl, ((Keep.refl _ _).trans K_13 (kkS (Or.inl (by simp)) kk0)), F_14, F_15⟩
def Q_rin (Z : State) (G1 : Int32) (G3 : Value) (d1 d2 us ss : Addr) (kd1 kd2 : ClassId) (w1 w2 : List Value) (x : Addr) (st : Int32) (mg : Addr) (h0 : Heap) (n0 : Nat) (bk : Addr → Prop) (v : Option Value) (h : Heap) (bk' : Addr → Prop) : Prop := v = none ∧ bk = bk' ∧ Keep h0 h [x] ∧ (Exa Z h x "com/example/lidmaat/lidmaat/http/Refusal") ∧ (Fld Z h x "com/example/lidmaat/lidmaat/http/Refusal" "status" "I" (.int st))
theorem d_prog_19_m_1_0 : decode prog_19_method_1_code 0 = .ok (.aload_n 0, 1) := by decide +kernel
theorem d_prog_19_m_1_1 : decode prog_19_method_1_code 1 = .ok (.aload_n 2, 1) := by decide +kernel
theorem d_prog_19_m_1_2 : decode prog_19_method_1_code 2 = .ok (.aconst_null, 1) := by decide +kernel
theorem d_prog_19_m_1_3 : decode prog_19_method_1_code 3 = .ok (.iconst 0, 1) := by decide +kernel
theorem d_prog_19_m_1_4 : decode prog_19_method_1_code 4 = .ok (.iconst 0, 1) := by decide +kernel
theorem d_prog_19_m_1_5 : decode prog_19_method_1_code 5 = .ok (.invokespecial 1, 3) := by decide +kernel
theorem d_prog_19_m_1_8 : decode prog_19_method_1_code 8 = .ok (.aload_n 0, 1) := by decide +kernel
theorem d_prog_19_m_1_9 : decode prog_19_method_1_code 9 = .ok (.iload_n 1, 1) := by decide +kernel
theorem d_prog_19_m_1_10 : decode prog_19_method_1_code 10 = .ok (.putfield 7, 3) := by decide +kernel
theorem d_prog_19_m_1_13 : decode prog_19_method_1_code 13 = .ok (.return_, 1) := by decide +kernel
abbrev RM_rin : Room := { frames := 3, cells := 0, slots := 0, locals := 44 }
theorem ef_rin (m : MethodId) (x0 : Addr) (x1 : Int32) (x2 : Addr) : entryFrame m #[(.ref x0), (.int x1), (.ref x2)] 3 = mkF m 0 #[.val (.ref x0), .val (.int x1), .val (.ref x2)] [] := by first | (simp [entryFrame, mkF, argsToLocals, Value.category]; done) | rfl
set_option maxRecDepth 65536 in
set_option maxHeartbeats 40000000 in
theorem rm_rin (l : Launch) (Z : State) (a0 : Array Value) (G1 : Int32) (G3 : Value) (d1 d2 us ss : Addr) (kd1 kd2 : ClassId) (w1 w2 : List Value) (hX : Ctx Z a0 G1 G3) (hY : More Z d1 d2 us ss kd1 kd2 w1 w2) (n0 : Nat) (bk : Addr → Prop) (h0 : Heap) (O0 : Old Z n0 h0) (x : Addr) (st : Int32) (mg : Addr) (pf_0 : Exa Z h0 x "com/example/lidmaat/lidmaat/http/Refusal") (pf_1 : Fld Z h0 x "java/lang/Throwable" "cause" "Ljava/lang/Throwable;" .null) (pf_2 : Fld Z h0 x "java/lang/Throwable" "stackTrace" "[Ljava/lang/StackTraceElement;" .null) (pf_3 : Fld Z h0 x "java/lang/Throwable" "suppressedExceptions" "Ljava/util/List;" .null) (pf_4 : Fld Z h0 x "java/lang/Throwable" "detailMessage" "Ljava/lang/String;" .null) (nbx : ¬ bk x) (gx : n0 ≤ x) (pf_7 : Fld Z h0 x "com/example/lidmaat/lidmaat/http/Refusal" "status" "I" (.int (0 : Int32))) (ws : List Jvm.Cond) : Met l Z EL1 n0 bk (⟨"com/example/lidmaat/lidmaat/http/Refusal", "<init>", "(ILjava/lang/String;)V"⟩ : MethodName) prog_19_method_1_code 3 (Option.none : Option FieldType) RM_rin #[(.ref x), (.int st), (.ref mg)] h0 (Q_rin Z G1 G3 d1 d2 us ss kd1 kd2 w1 w2 x st mg h0 n0 bk) ws := by
  have hX' := hX
  obtain ⟨hw, hE, S1, P1, S3, P3⟩ := hX'
  have hY' := hY
  obtain ⟨s_d1, a_d1, s_d2, a_d2, s_us, s_ss⟩ := hY'
  have hSA := sa_of hw
  have z0 : n0 ≤ h0.size := by rw [← O0.1]; exact O0.2.1
  refine Met.of (by decide +kernel) O0 hE ?_
  intro p e s m below meth c hx hby hml hret hlk hnm
  refine k_cast (ef_rin m x st mg) ?_
  show Run p l e _ s m _ below meth c Z EL1 _ n0 bk h0 0 0 (mkF m 0 #[.val (.ref x), .val (.int st), .val (.ref mg)] []) _
  have lt_1 : @LT.lt Nat _ x (Array.size h0) := pf_0.lt
  have lt_2 : @LT.lt Nat _ x (Array.size h0) := pf_1.lt
  have lt_3 : @LT.lt Nat _ x (Array.size h0) := pf_2.lt
  have lt_4 : @LT.lt Nat _ x (Array.size h0) := pf_3.lt
  have lt_5 : @LT.lt Nat _ x (Array.size h0) := pf_4.lt
  have lt_6 : @LT.lt Nat _ x (Array.size h0) := pf_7.lt
  refine k_pure (g' := (mkF m 1 #[.val (.ref x), .val (.int st), .val (.ref mg)] [(.ref x)])) (fun TT HH tt kk => XS.aloadN HH hx rfl (hb hby d_prog_19_m_1_0) rfl rfl kk) ?_
  refine k_pure (g' := (mkF m 2 #[.val (.ref x), .val (.int st), .val (.ref mg)] [(.ref mg), (.ref x)])) (fun TT HH tt kk => XS.aloadN HH hx rfl (hb hby d_prog_19_m_1_1) rfl rfl kk) ?_
  refine k_pure (g' := (mkF m 3 #[.val (.ref x), .val (.int st), .val (.ref mg)] [.null, (.ref mg), (.ref x)])) (fun TT HH tt kk => XS.aconstNull HH hx rfl (hb hby d_prog_19_m_1_2) kk) ?_
  refine k_pure (g' := (mkF m 4 #[.val (.ref x), .val (.int st), .val (.ref mg)] [(.int (0 : Int32)), .null, (.ref mg), (.ref x)])) (fun TT HH tt kk => XS.iconst HH hx rfl (hb hby d_prog_19_m_1_3) kk) ?_
  refine k_pure (g' := (mkF m 5 #[.val (.ref x), .val (.int st), .val (.ref mg)] [(.int (0 : Int32)), (.int (0 : Int32)), .null, (.ref mg), (.ref x)])) (fun TT HH tt kk => XS.iconst HH hx rfl (hb hby d_prog_19_m_1_4) kk) ?_
  refine k_callI hx (y := (⟨"java/lang/Exception", "<init>", "(Ljava/lang/String;Ljava/lang/Throwable;ZZ)V"⟩ : MethodName)) rfl (hw _ (List.mem_of_getElem? (i := 170) rfl)) (hw _ (List.mem_of_getElem? (i := 171) rfl)) (hw _ (List.mem_of_getElem? (i := 174) rfl)) (by decide) (W := 0) (a := x) (argsL := [(.ref mg), .null, (.int (0 : Int32)), (.int (0 : Int32))]) (rest := []) (Pays.of_met (rm_exc l Z a0 G1 G3 d1 d2 us ss kd1 kd2 w1 w2 hX hY n0 bk h0 O0 x mg pf_0 pf_1 pf_2 pf_3 pf_4 nbx (by omega) pf_7 []) (hw _ (List.mem_of_getElem? (i := 174) rfl)) (hw _ (List.mem_of_getElem? (i := 173) rfl)) (by decide) (by decide)) rfl (by rw [hml]; rfl) (lenOf pd__28_Ljava_2f_lang_2f_String_3b_Ljava_2f_lang_2f_Throwable_3b_ZZ_29_V rfl) rfl (by show 2 * 0 + _ ≤ _; exact Nat.le_of_eq rfl) (hb hby d_prog_19_m_1_5) (by decide) (by decide) ?_
  intro v_7 h_8 bk_9 O_10 z_11 Q_12
  obtain ⟨rfl, rfl, K_13, F_14, F_15⟩ := Q_12
  have lt_16 : @LT.lt Nat _ x (Array.size h_8) := F_14.lt
  have lt_17 : @LT.lt Nat _ x (Array.size h_8) := F_15.lt
  show Run p l e _ s m _ below meth c Z EL1 _ n0 bk h_8 0 0 (mkF m 8 #[.val (.ref x), .val (.int st), .val (.ref mg)] []) _
  refine k_pure (g' := (mkF m 9 #[.val (.ref x), .val (.int st), .val (.ref mg)] [(.ref x)])) (fun TT HH tt kk => XS.aloadN HH hx rfl (hb hby d_prog_19_m_1_8) rfl rfl kk) ?_
  refine k_pure (g' := (mkF m 10 #[.val (.ref x), .val (.int st), .val (.ref mg)] [(.int st), (.ref x)])) (fun TT HH tt kk => XS.iloadN HH hx rfl (hb hby d_prog_19_m_1_9) rfl kk) ?_
  refine k_putF hx (host := "") (Or.inl (hw _ (List.mem_of_getElem? (i := 192) rfl))) Via.refl F_15 F_14 (Or.inr ⟨(hw _ (List.mem_of_getElem? (i := 193) rfl)), rfl, hnm⟩) (hw _ (List.mem_of_getElem? (i := 5) rfl)) (ty := .int) (by decide) rfl rfl (by omega) nbx rfl rfl (hb hby d_prog_19_m_1_10) ?_
  intro h_18 O_20 W_19
  have z_21 := W_19.size
  show Run p l e _ s m _ below meth c Z EL1 _ n0 bk h_18 0 0 (mkF m 13 #[.val (.ref x), .val (.int st), .val (.ref mg)] []) _
  have F_22 : Exa Z h_18 x "com/example/lidmaat/lidmaat/http/Refusal" := (F_14.wr W_19)
  exact k_ret0 hx hlk hret (hb hby d_prog_19_m_1_13) (by decide) (by decide) ⟨rfl, rfl, (((Keep.refl _ _).trans K_13 (kkS (Or.inl (by simp)) kk0)).wr W_19 (Or.inl (by simp))), F_22, (F_15.same W_19)⟩
def Q_sta (Z : State) (G1 : Int32) (G3 : Value) (d1 d2 us ss : Addr) (kd1 kd2 : ClassId) (w1 w2 : List Value) (x : Addr) (st : Int32) (h0 : Heap) (n0 : Nat) (bk : Addr → Prop) (v : Option Value) (h : Heap) (bk' : Addr → Prop) : Prop := v = some (.int st) ∧ h0 = h ∧ bk = bk'
theorem d_prog_19_m_6_0 : decode prog_19_method_6_code 0 = .ok (.aload_n 0, 1) := by decide +kernel
theorem d_prog_19_m_6_1 : decode prog_19_method_6_code 1 = .ok (.getfield 7, 3) := by decide +kernel
theorem d_prog_19_m_6_4 : decode prog_19_method_6_code 4 = .ok (.ireturn, 1) := by decide +kernel
abbrev RM_sta : Room := { frames := 0, cells := 0, slots := 0, locals := 0 }
theorem ef_sta (m : MethodId) (x0 : Addr) : entryFrame m #[(.ref x0)] 1 = mkF m 0 #[.val (.ref x0)] [] := by first | (simp [entryFrame, mkF, argsToLocals, Value.category]; done) | rfl
set_option maxRecDepth 65536 in
set_option maxHeartbeats 40000000 in
theorem rm_sta (l : Launch) (Z : State) (a0 : Array Value) (G1 : Int32) (G3 : Value) (d1 d2 us ss : Addr) (kd1 kd2 : ClassId) (w1 w2 : List Value) (hX : Ctx Z a0 G1 G3) (hY : More Z d1 d2 us ss kd1 kd2 w1 w2) (n0 : Nat) (bk : Addr → Prop) (h0 : Heap) (O0 : Old Z n0 h0) (x : Addr) (st : Int32) (pf_0 : Exa Z h0 x "com/example/lidmaat/lidmaat/http/Refusal") (pf_1 : Fld Z h0 x "com/example/lidmaat/lidmaat/http/Refusal" "status" "I" (.int st)) (ws : List Jvm.Cond) : Met l Z EL1 n0 bk (⟨"com/example/lidmaat/lidmaat/http/Refusal", "status", "()I"⟩ : MethodName) prog_19_method_6_code 1 (Option.some FieldType.int) RM_sta #[(.ref x)] h0 (Q_sta Z G1 G3 d1 d2 us ss kd1 kd2 w1 w2 x st h0 n0 bk) ws := by
  have hX' := hX
  obtain ⟨hw, hE, S1, P1, S3, P3⟩ := hX'
  have hY' := hY
  obtain ⟨s_d1, a_d1, s_d2, a_d2, s_us, s_ss⟩ := hY'
  have hSA := sa_of hw
  have z0 : n0 ≤ h0.size := by rw [← O0.1]; exact O0.2.1
  refine Met.of (by decide +kernel) O0 hE ?_
  intro p e s m below meth c hx hby hml hret hlk hnm
  refine k_cast (ef_sta m x) ?_
  show Run p l e _ s m _ below meth c Z EL1 _ n0 bk h0 0 0 (mkF m 0 #[.val (.ref x)] []) _
  have lt_1 : @LT.lt Nat _ x (Array.size h0) := pf_0.lt
  have lt_2 : @LT.lt Nat _ x (Array.size h0) := pf_1.lt
  refine k_pure (g' := (mkF m 1 #[.val (.ref x)] [(.ref x)])) (fun TT HH tt kk => XS.aloadN HH hx rfl (hb hby d_prog_19_m_6_0) rfl rfl kk) ?_
  refine k_getF hx (host := "") (Or.inl (hw _ (List.mem_of_getElem? (i := 192) rfl))) Via.refl pf_1 rfl rfl (hb hby d_prog_19_m_6_1) ?_
  show Run p l e _ s m _ below meth c Z EL1 _ n0 bk h0 0 0 (mkF m 4 #[.val (.ref x)] [(.int st)]) _
  exact k_retI hx hlk hret (hb hby d_prog_19_m_6_4) (by decide) (by decide) ⟨rfl, rfl, rfl⟩
def Q_htl (Z : State) (G1 : Int32) (G3 : Value) (d1 d2 us ss : Addr) (kd1 kd2 : ClassId) (w1 w2 : List Value) (lm : Int32) (h0 : Heap) (n0 : Nat) (bk : Addr → Prop) (v : Option Value) (h : Heap) (bk' : Addr → Prop) : Prop := ∃ (x : Addr), v = some (.ref x) ∧ (∀ y, bk' y → bk y ∨ (@LE.le Nat _ (Array.size h0) y ∧ @LT.lt Nat _ y (Array.size h))) ∧ Keep h0 h [] ∧ (Exa Z h x "com/example/lidmaat/lidmaat/http/Refusal") ∧ (Fld Z h x "com/example/lidmaat/lidmaat/http/Refusal" "status" "I" (.int (431 : Int32)))
theorem d_prog_19_m_3_0 : decode prog_19_method_3_code 0 = .ok (.new 8, 3) := by decide +kernel
theorem d_prog_19_m_3_3 : decode prog_19_method_3_code 3 = .ok (.dup, 1) := by decide +kernel
theorem d_prog_19_m_3_4 : decode prog_19_method_3_code 4 = .ok (.sipush 431, 3) := by decide +kernel
theorem d_prog_19_m_3_7 : decode prog_19_method_3_code 7 = .ok (.new 13, 3) := by decide +kernel
theorem d_prog_19_m_3_10 : decode prog_19_method_3_code 10 = .ok (.dup, 1) := by decide +kernel
theorem d_prog_19_m_3_11 : decode prog_19_method_3_code 11 = .ok (.invokespecial 15, 3) := by decide +kernel
theorem pd__28__29_V : parseMethodDescriptor "()V" = some ⟨[], none⟩ := by decide +kernel
theorem d_prog_19_m_3_14 : decode prog_19_method_3_code 14 = .ok (.ldc 33, 2) := by decide +kernel
theorem d_prog_19_m_3_16 : decode prog_19_method_3_code 16 = .ok (.invokevirtual 20, 3) := by decide +kernel
theorem pd__28_Ljava_2f_lang_2f_String_3b__29_Ljava_2f_lang_2f_StringBuilder_3b_ : parseMethodDescriptor "(Ljava/lang/String;)Ljava/lang/StringBuilder;" = some ⟨[(.object "java/lang/String")], some (.object "java/lang/StringBuilder")⟩ := by decide +kernel
theorem d_prog_19_m_3_19 : decode prog_19_method_3_code 19 = .ok (.iload_n 0, 1) := by decide +kernel
theorem d_prog_19_m_3_20 : decode prog_19_method_3_code 20 = .ok (.invokevirtual 35, 3) := by decide +kernel
theorem pd__28_I_29_Ljava_2f_lang_2f_StringBuilder_3b_ : parseMethodDescriptor "(I)Ljava/lang/StringBuilder;" = some ⟨[.int], some (.object "java/lang/StringBuilder")⟩ := by decide +kernel
theorem d_prog_19_m_3_23 : decode prog_19_method_3_code 23 = .ok (.ldc 38, 2) := by decide +kernel
theorem d_prog_19_m_3_25 : decode prog_19_method_3_code 25 = .ok (.invokevirtual 20, 3) := by decide +kernel
theorem d_prog_19_m_3_28 : decode prog_19_method_3_code 28 = .ok (.invokevirtual 26, 3) := by decide +kernel
theorem pd__28__29_Ljava_2f_lang_2f_String_3b_ : parseMethodDescriptor "()Ljava/lang/String;" = some ⟨[], some (.object "java/lang/String")⟩ := by decide +kernel
theorem d_prog_19_m_3_31 : decode prog_19_method_3_code 31 = .ok (.invokespecial 30, 3) := by decide +kernel
theorem d_prog_19_m_3_34 : decode prog_19_method_3_code 34 = .ok (.areturn, 1) := by decide +kernel
abbrev RM_htl : Room := { frames := 6, cells := 11, slots := 611, locals := 94 }
theorem ef_htl (m : MethodId) (x0 : Int32) : entryFrame m #[(.int x0)] 1 = mkF m 0 #[.val (.int x0)] [] := by first | (simp [entryFrame, mkF, argsToLocals, Value.category]; done) | rfl
set_option maxRecDepth 65536 in
set_option maxHeartbeats 40000000 in
theorem rm_htl (l : Launch) (Z : State) (a0 : Array Value) (G1 : Int32) (G3 : Value) (d1 d2 us ss : Addr) (kd1 kd2 : ClassId) (w1 w2 : List Value) (hX : Ctx Z a0 G1 G3) (hY : More Z d1 d2 us ss kd1 kd2 w1 w2) (n0 : Nat) (bk : Addr → Prop) (h0 : Heap) (O0 : Old Z n0 h0) (lm : Int32) (hbl : ∀ y, bk y → @LT.lt Nat _ y (Array.size h0)) (ws : List Jvm.Cond) : Met l Z EL1 n0 bk (⟨"com/example/lidmaat/lidmaat/http/Refusal", "headTooLarge", "(I)Lcom/example/lidmaat/lidmaat/http/Refusal;"⟩ : MethodName) prog_19_method_3_code 1 (Option.some (FieldType.object "com/example/lidmaat/lidmaat/http/Refusal")) RM_htl #[(.int lm)] h0 (Q_htl Z G1 G3 d1 d2 us ss kd1 kd2 w1 w2 lm h0 n0 bk) ws := by
  have hX' := hX
  obtain ⟨hw, hE, S1, P1, S3, P3⟩ := hX'
  have hY' := hY
  obtain ⟨s_d1, a_d1, s_d2, a_d2, s_us, s_ss⟩ := hY'
  have hSA := sa_of hw
  have z0 : n0 ≤ h0.size := by rw [← O0.1]; exact O0.2.1
  refine Met.of (by decide +kernel) O0 hE ?_
  intro p e s m below meth c hx hby hml hret hlk hnm
  refine k_cast (ef_htl m lm) ?_
  show Run p l e _ s m _ below meth c Z EL1 _ n0 bk h0 0 0 (mkF m 0 #[.val (.int lm)] []) _
  refine k_newO hx (hw _ (List.mem_of_getElem? (i := 4) rfl)) (hw _ (List.mem_of_getElem? (i := 5) rfl)) (hw _ (List.mem_of_getElem? (i := 2) rfl)) rfl (hb hby d_prog_19_m_3_0) (by decide) (by decide) ?_
  intro h_2 a_1 g_8 O_3 E_4 A_5 D_6 U_7
  have z_9 := E_4.1
  have lt_10 : @LT.lt Nat _ a_1 (Array.size h_2) := A_5.lt
  have nb_11 : ¬ bk a_1 := fun q => Nat.not_le_of_lt (hbl _ q) (show @LE.le Nat _ (Array.size h0) a_1 by omega)
  show Run p l e _ s m _ below meth c Z EL1 _ n0 bk h_2 1 7 (mkF m 3 #[.val (.int lm)] [(.ref a_1)]) _
  refine k_pure (g' := (mkF m 4 #[.val (.int lm)] [(.ref a_1), (.ref a_1)])) (fun TT HH tt kk => XS.dup HH hx rfl (hb hby d_prog_19_m_3_3) rfl rfl kk) ?_
  refine k_pure (g' := (mkF m 7 #[.val (.int lm)] [(.int (431 : Int32)), (.ref a_1), (.ref a_1)])) (fun TT HH tt kk => XS.sipush HH hx rfl (hb hby d_prog_19_m_3_4) kk) ?_
  refine k_newO hx (hw _ (List.mem_of_getElem? (i := 6) rfl)) (hw _ (List.mem_of_getElem? (i := 7) rfl)) (hw _ (List.mem_of_getElem? (i := 8) rfl)) rfl (hb hby d_prog_19_m_3_7) (by decide) (by decide) ?_
  intro h_13 a_12 g_19 O_14 E_15 A_16 D_17 U_18
  have z_20 := E_15.1
  have lt_21 : @LT.lt Nat _ a_12 (Array.size h_13) := A_16.lt
  have hbl_22 : ∀ y, bk y → @LT.lt Nat _ y (Array.size h_2) := fun y q => Nat.lt_of_lt_of_le (hbl y q) (by omega)
  have nb_23 : ¬ bk a_12 := fun q => Nat.not_le_of_lt (hbl_22 _ q) (show @LE.le Nat _ (Array.size h_2) a_12 by omega)
  show Run p l e _ s m _ below meth c Z EL1 _ n0 bk h_13 2 11 (mkF m 10 #[.val (.int lm)] [(.ref a_12), (.int (431 : Int32)), (.ref a_1), (.ref a_1)]) _
  refine k_pure (g' := (mkF m 11 #[.val (.int lm)] [(.ref a_12), (.ref a_12), (.int (431 : Int32)), (.ref a_1), (.ref a_1)])) (fun TT HH tt kk => XS.dup HH hx rfl (hb hby d_prog_19_m_3_10) rfl rfl kk) ?_
  have hbl_24 : ∀ y, bk y → @LT.lt Nat _ y (Array.size h_13) := fun y q => Nat.lt_of_lt_of_le (hbl_22 y q) (by omega)
  refine k_callI hx (y := (⟨"java/lang/StringBuilder", "<init>", "()V"⟩ : MethodName)) rfl (hw _ (List.mem_of_getElem? (i := 9) rfl)) (hw _ (List.mem_of_getElem? (i := 10) rfl)) (hw _ (List.mem_of_getElem? (i := 11) rfl)) (by decide) (W := 4) (a := a_12) (argsL := []) (rest := [(.ref a_12), (.int (431 : Int32)), (.ref a_1), (.ref a_1)]) (Pays.of_met (rm_sbi l Z a0 G1 G3 d1 d2 us ss kd1 kd2 w1 w2 hX hY n0 bk h_13 O_14 a_12 A_16 (D_17 (Or.inl (hw _ (List.mem_of_getElem? (i := 25) rfl))) (ty := (.array .byte)) (by decide)) (D_17 (Or.inl (hw _ (List.mem_of_getElem? (i := 27) rfl))) (ty := .byte) (by decide)) (D_17 (Or.inl (hw _ (List.mem_of_getElem? (i := 58) rfl))) (ty := .int) (by decide)) hbl_24 nb_23 (by omega) []) (hw _ (List.mem_of_getElem? (i := 11) rfl)) (hw _ (List.mem_of_getElem? (i := 8) rfl)) (by decide) (by decide)) rfl (by rw [hml]; rfl) (lenOf pd__28__29_V rfl) rfl (by show 2 * 0 + _ ≤ _; exact Nat.le_of_eq rfl) (hb hby d_prog_19_m_3_11) (by decide) (by decide) ?_
  intro v_25 h_26 bk_27 O_28 z_29 Q_30
  obtain ⟨a_31, k_32, rfl, rfl, K_33, F_34, P_35, P_36⟩ := Q_30
  have ne_37 : @Ne Nat a_12 a_31 := F_34.2.2.2.2.2.2.2
  have lt_38 : @LT.lt Nat _ a_12 (Array.size h_26) := F_34.lt1
  have lt_39 : @LT.lt Nat _ a_31 (Array.size h_26) := F_34.lt2
  show Run p l e _ s m _ below meth c Z EL1 _ n0 bk h_26 3 27 (mkF m 14 #[.val (.int lm)] [(.ref a_12), (.int (431 : Int32)), (.ref a_1), (.ref a_1)]) _
  refine k_ldcC hx (hw _ (List.mem_of_getElem? (i := 28) rfl)) hSA (by decide +kernel) (z := (Int32.ofNat lit1.length)) (vs := (lit1.map (fun c => c.toInt8.toInt32)).map Value.int) (by decide +kernel) (by decide) (by decide +kernel) rfl (hb hby d_prog_19_m_3_14) (n := 204) (by decide +kernel) (by decide) (by decide) (by decide) ?_
  intro h_40 a_41 a_46 k_47 bk_44 O_42 E_43 hbk_45 X_48 F_49 F_50 V_51 nl_52
  have z_53 := E_43.1
  have lt_54 : @LT.lt Nat _ a_41 (Array.size h_40) := X_48.lt
  have lt_55 : @LT.lt Nat _ a_46 (Array.size h_40) := V_51.lt
  have ne_56 : @Ne Nat a_1 a_41 := (nl_52 a_1 (show @LT.lt Nat _ a_1 (Array.size h_26) by omega) nb_11).1
  have ne_57 : @Ne Nat a_1 a_46 := (nl_52 a_1 (show @LT.lt Nat _ a_1 (Array.size h_26) by omega) nb_11).2
  have ne_58 : @Ne Nat a_12 a_41 := (nl_52 a_12 (show @LT.lt Nat _ a_12 (Array.size h_26) by omega) nb_23).1
  have ne_59 : @Ne Nat a_12 a_46 := (nl_52 a_12 (show @LT.lt Nat _ a_12 (Array.size h_26) by omega) nb_23).2
  have ne_60 : @Ne Nat a_31 a_41 := (nl_52 a_31 (show @LT.lt Nat _ a_31 (Array.size h_26) by omega) P_36).1
  have ne_61 : @Ne Nat a_31 a_46 := (nl_52 a_31 (show @LT.lt Nat _ a_31 (Array.size h_26) by omega) P_36).2
  have S_62 : StrL Z h_40 a_41 a_46 k_47 lit1 := ⟨X_48, F_49, F_50, V_51, bd1, by decide⟩
  have hbl_63 : ∀ y, bk y → @LT.lt Nat _ y (Array.size h_26) := fun y q => Nat.lt_of_lt_of_le (hbl_24 y q) (by omega)
  have nb_64 : ¬ bk_44 a_1 := fun q => (hbk_45 _ q).elim nb_11 (fun r => Nat.not_le_of_lt (show @LT.lt Nat _ a_1 (Array.size h_26) by omega) r.1)
  have nb_65 : ¬ bk_44 a_12 := fun q => (hbk_45 _ q).elim nb_23 (fun r => Nat.not_le_of_lt (show @LT.lt Nat _ a_12 (Array.size h_26) by omega) r.1)
  have nb_66 : ¬ bk_44 a_31 := fun q => (hbk_45 _ q).elim P_36 (fun r => Nat.not_le_of_lt (show @LT.lt Nat _ a_31 (Array.size h_26) by omega) r.1)
  have hbl_67 : ∀ y, bk_44 y → @LT.lt Nat _ y (Array.size h_40) := fun y q => (hbk_45 y q).elim (fun r => Nat.lt_of_lt_of_le (hbl_63 y r) (by omega)) (fun r => r.2)
  have hbs_68 : ∀ y, bk_44 y → bk y ∨ (@LE.le Nat _ (Array.size h0) y ∧ @LT.lt Nat _ y (Array.size h_40)) := fun y q => (hbk_45 y q).imp id (fun r => ⟨Nat.le_trans (by omega) r.1, r.2⟩)
  show Run p l e _ s m _ below meth c Z EL1 _ n0 bk_44 h_40 5 235 (mkF m 16 #[.val (.int lm)] [(.ref a_41), (.ref a_12), (.int (431 : Int32)), (.ref a_1), (.ref a_1)]) _
  have F_69 : SbW Z h_40 a_12 a_31 k_32 16 0 ([] : List Value) := (F_34.ext E_43)
  have F_70 : Exa Z h_40 a_12 "java/lang/StringBuilder" := (F_34.1.ext E_43)
  refine k_callV hx (y := (⟨"java/lang/StringBuilder", "append", "(Ljava/lang/String;)Ljava/lang/StringBuilder;"⟩ : MethodName)) (z := (⟨"java/lang/StringBuilder", "append", "(Ljava/lang/String;)Ljava/lang/StringBuilder;"⟩ : MethodName)) (hw _ (List.mem_of_getElem? (i := 34) rfl)) (hw _ (List.mem_of_getElem? (i := 35) rfl)) (fun s' hZ => notFace_of_selects (args := #[]) (mv hZ (hw _ (List.mem_of_getElem? (i := 37) rfl)))) (hw _ (List.mem_of_getElem? (i := 37) rfl)) (hw _ (List.mem_of_getElem? (i := 36) rfl)) (by decide) (W := 3) (a := a_12) (argsL := [(.ref a_41)]) (rest := [(.int (431 : Int32)), (.ref a_1), (.ref a_1)]) (Pays.of_met (rm_sbapg l Z a0 G1 G3 d1 d2 us ss kd1 kd2 w1 w2 hX hY n0 bk_44 h_40 O_42 a_12 a_31 k_32 16 0 ([] : List Value) a_41 a_46 k_47 lit1 F_69 S_62 (by rw [len1]; decide) (by rw [len1]; decide) hbl_67 (by omega) (by omega) (by omega) (by omega) nb_65 nb_66 (by omega) (by omega) []) (hw _ (List.mem_of_getElem? (i := 38) rfl)) (hw _ (List.mem_of_getElem? (i := 8) rfl)) (by decide) (by decide)) F_70 rfl (by rw [hml]; rfl) (lenOf pd__28_Ljava_2f_lang_2f_String_3b__29_Ljava_2f_lang_2f_StringBuilder_3b_ rfl) rfl (by show 2 * 0 + _ ≤ _; exact Nat.le_of_eq rfl) (hb hby d_prog_19_m_3_16) (by decide) (by decide) ?_
  intro v_71 h_72 bk_73 O_74 z_75 Q_76
  obtain ⟨a_77, k_78, e_79, e_80, rfl, rfl, K_81, F_82, P_83, P_84, P_85⟩ := Q_76
  have ne_86 : @Ne Nat a_12 a_77 := F_82.2.2.2.2.2.2.2
  have lt_87 : @LT.lt Nat _ a_12 (Array.size h_72) := F_82.lt1
  have lt_88 : @LT.lt Nat _ a_77 (Array.size h_72) := F_82.lt2
  show Run p l e _ s m _ below meth c Z EL1 _ n0 bk_44 h_72 6 365 (mkF m 19 #[.val (.int lm)] [(.ref a_12), (.int (431 : Int32)), (.ref a_1), (.ref a_1)]) _
  have hA := P_83
  rw [len1] at hA
  refine k_pure (g' := (mkF m 20 #[.val (.int lm)] [(.int lm), (.ref a_12), (.int (431 : Int32)), (.ref a_1), (.ref a_1)])) (fun TT HH tt kk => XS.iloadN HH hx rfl (hb hby d_prog_19_m_3_19) rfl kk) ?_
  have hbl_89 : ∀ y, bk_44 y → @LT.lt Nat _ y (Array.size h_72) := fun y q => Nat.lt_of_lt_of_le (hbl_67 y q) (by omega)
  refine k_callV hx (y := (⟨"java/lang/StringBuilder", "append", "(I)Ljava/lang/StringBuilder;"⟩ : MethodName)) (z := (⟨"java/lang/StringBuilder", "append", "(I)Ljava/lang/StringBuilder;"⟩ : MethodName)) (hw _ (List.mem_of_getElem? (i := 107) rfl)) (hw _ (List.mem_of_getElem? (i := 108) rfl)) (fun s' hZ => notFace_of_selects (args := #[]) (mv hZ (hw _ (List.mem_of_getElem? (i := 110) rfl)))) (hw _ (List.mem_of_getElem? (i := 110) rfl)) (hw _ (List.mem_of_getElem? (i := 109) rfl)) (by decide) (W := 3) (a := a_12) (argsL := [(.int lm)]) (rest := [(.int (431 : Int32)), (.ref a_1), (.ref a_1)]) (Pays.of_met (rm_spi l Z a0 G1 G3 d1 d2 us ss kd1 kd2 w1 w2 hX hY n0 bk_44 h_72 O_74 a_12 a_77 k_78 e_79 (0 + lit1.length) e_80 lm F_82 (by have := hA; rw [len1]; omega) (by rw [len1]; decide) (by rw [len1]; omega) hbl_89 nb_65 (by omega) []) (hw _ (List.mem_of_getElem? (i := 111) rfl)) (hw _ (List.mem_of_getElem? (i := 8) rfl)) (by decide) (by decide)) F_82.1 rfl (by rw [hml]; rfl) (lenOf pd__28_I_29_Ljava_2f_lang_2f_StringBuilder_3b_ rfl) rfl (by show 2 * 0 + _ ≤ _; exact Nat.le_of_eq rfl) (hb hby d_prog_19_m_3_20) (by decide) (by decide) ?_
  intro v_90 h_91 bk_92 O_93 z_94 Q_95
  obtain ⟨a_96, k_97, e_98, e_99, e_100, rfl, rfl, K_101, F_102, P_103, P_104, P_105⟩ := Q_95
  have ne_106 : @Ne Nat a_12 a_96 := F_102.2.2.2.2.2.2.2
  have lt_107 : @LT.lt Nat _ a_12 (Array.size h_91) := F_102.lt1
  have lt_108 : @LT.lt Nat _ a_96 (Array.size h_91) := F_102.lt2
  show Run p l e _ s m _ below meth c Z EL1 _ n0 bk_44 h_91 7 495 (mkF m 23 #[.val (.int lm)] [(.ref a_12), (.int (431 : Int32)), (.ref a_1), (.ref a_1)]) _
  have hB := P_103
  refine k_ldcC hx (hw _ (List.mem_of_getElem? (i := 129) rfl)) hSA (by decide +kernel) (z := (Int32.ofNat lit2.length)) (vs := (lit2.map (fun c => c.toInt8.toInt32)).map Value.int) (by decide +kernel) (by decide) (by decide +kernel) rfl (hb hby d_prog_19_m_3_23) (n := 28) (by decide +kernel) (by decide) (by decide) (by decide) ?_
  intro h_109 a_110 a_115 k_116 bk_113 O_111 E_112 hbk_114 X_117 F_118 F_119 V_120 nl_121
  have z_122 := E_112.1
  have lt_123 : @LT.lt Nat _ a_110 (Array.size h_109) := X_117.lt
  have lt_124 : @LT.lt Nat _ a_115 (Array.size h_109) := V_120.lt
  have ne_125 : @Ne Nat a_1 a_110 := (nl_121 a_1 (show @LT.lt Nat _ a_1 (Array.size h_91) by omega) nb_64).1
  have ne_126 : @Ne Nat a_1 a_115 := (nl_121 a_1 (show @LT.lt Nat _ a_1 (Array.size h_91) by omega) nb_64).2
  have ne_127 : @Ne Nat a_12 a_110 := (nl_121 a_12 (show @LT.lt Nat _ a_12 (Array.size h_91) by omega) nb_65).1
  have ne_128 : @Ne Nat a_12 a_115 := (nl_121 a_12 (show @LT.lt Nat _ a_12 (Array.size h_91) by omega) nb_65).2
  have ne_129 : @Ne Nat a_31 a_110 := (nl_121 a_31 (show @LT.lt Nat _ a_31 (Array.size h_91) by omega) nb_66).1
  have ne_130 : @Ne Nat a_31 a_115 := (nl_121 a_31 (show @LT.lt Nat _ a_31 (Array.size h_91) by omega) nb_66).2
  have ne_131 : @Ne Nat a_77 a_110 := (nl_121 a_77 (show @LT.lt Nat _ a_77 (Array.size h_91) by omega) P_85).1
  have ne_132 : @Ne Nat a_77 a_115 := (nl_121 a_77 (show @LT.lt Nat _ a_77 (Array.size h_91) by omega) P_85).2
  have ne_133 : @Ne Nat a_96 a_110 := (nl_121 a_96 (show @LT.lt Nat _ a_96 (Array.size h_91) by omega) P_105).1
  have ne_134 : @Ne Nat a_96 a_115 := (nl_121 a_96 (show @LT.lt Nat _ a_96 (Array.size h_91) by omega) P_105).2
  have S_135 : StrL Z h_109 a_110 a_115 k_116 lit2 := ⟨X_117, F_118, F_119, V_120, bd2, by decide⟩
  have hbl_136 : ∀ y, bk_44 y → @LT.lt Nat _ y (Array.size h_91) := fun y q => Nat.lt_of_lt_of_le (hbl_89 y q) (by omega)
  have nb_137 : ¬ bk_113 a_1 := fun q => (hbk_114 _ q).elim nb_64 (fun r => Nat.not_le_of_lt (show @LT.lt Nat _ a_1 (Array.size h_91) by omega) r.1)
  have nb_138 : ¬ bk_113 a_12 := fun q => (hbk_114 _ q).elim nb_65 (fun r => Nat.not_le_of_lt (show @LT.lt Nat _ a_12 (Array.size h_91) by omega) r.1)
  have nb_139 : ¬ bk_113 a_31 := fun q => (hbk_114 _ q).elim nb_66 (fun r => Nat.not_le_of_lt (show @LT.lt Nat _ a_31 (Array.size h_91) by omega) r.1)
  have nb_140 : ¬ bk_113 a_77 := fun q => (hbk_114 _ q).elim P_85 (fun r => Nat.not_le_of_lt (show @LT.lt Nat _ a_77 (Array.size h_91) by omega) r.1)
  have nb_141 : ¬ bk_113 a_96 := fun q => (hbk_114 _ q).elim P_105 (fun r => Nat.not_le_of_lt (show @LT.lt Nat _ a_96 (Array.size h_91) by omega) r.1)
  have hbl_142 : ∀ y, bk_113 y → @LT.lt Nat _ y (Array.size h_109) := fun y q => (hbk_114 y q).elim (fun r => Nat.lt_of_lt_of_le (hbl_136 y r) (by omega)) (fun r => r.2)
  have hbs_143 : ∀ y, bk_113 y → bk y ∨ (@LE.le Nat _ (Array.size h0) y ∧ @LT.lt Nat _ y (Array.size h_109)) := fun y q => (hbk_114 y q).elim (fun r => (hbs_68 y r).imp id (fun t => ⟨t.1, Nat.lt_of_lt_of_le t.2 (by omega)⟩)) (fun r => Or.inr ⟨Nat.le_trans (by omega) r.1, r.2⟩)
  show Run p l e _ s m _ below meth c Z EL1 _ n0 bk_113 h_109 9 527 (mkF m 25 #[.val (.int lm)] [(.ref a_110), (.ref a_12), (.int (431 : Int32)), (.ref a_1), (.ref a_1)]) _
  have F_144 : SbW Z h_109 a_12 a_96 k_97 e_98 ((0 + lit1.length) + e_99) e_100 := (F_102.ext E_112)
  have F_145 : Exa Z h_109 a_12 "java/lang/StringBuilder" := (F_102.1.ext E_112)
  refine k_callV hx (y := (⟨"java/lang/StringBuilder", "append", "(Ljava/lang/String;)Ljava/lang/StringBuilder;"⟩ : MethodName)) (z := (⟨"java/lang/StringBuilder", "append", "(Ljava/lang/String;)Ljava/lang/StringBuilder;"⟩ : MethodName)) (hw _ (List.mem_of_getElem? (i := 34) rfl)) (hw _ (List.mem_of_getElem? (i := 35) rfl)) (fun s' hZ => notFace_of_selects (args := #[]) (mv hZ (hw _ (List.mem_of_getElem? (i := 37) rfl)))) (hw _ (List.mem_of_getElem? (i := 37) rfl)) (hw _ (List.mem_of_getElem? (i := 36) rfl)) (by decide) (W := 3) (a := a_12) (argsL := [(.ref a_110)]) (rest := [(.int (431 : Int32)), (.ref a_1), (.ref a_1)]) (Pays.of_met (rm_sbaps l Z a0 G1 G3 d1 d2 us ss kd1 kd2 w1 w2 hX hY n0 bk_113 h_109 O_111 a_12 a_96 k_97 e_98 ((0 + lit1.length) + e_99) e_100 a_110 a_115 k_116 lit2 F_144 S_135 (by rw [len1, len2]; omega) (by omega) (by omega) (by omega) (by omega) nb_138 nb_141 (by omega) (by omega) []) (hw _ (List.mem_of_getElem? (i := 38) rfl)) (hw _ (List.mem_of_getElem? (i := 8) rfl)) (by decide) (by decide)) F_145 rfl (by rw [hml]; rfl) (lenOf pd__28_Ljava_2f_lang_2f_String_3b__29_Ljava_2f_lang_2f_StringBuilder_3b_ rfl) rfl (by show 2 * 0 + _ ≤ _; exact Nat.le_of_eq rfl) (hb hby d_prog_19_m_3_25) (by decide) (by decide) ?_
  intro v_146 h_147 bk_148 O_149 z_150 Q_151
  obtain ⟨e_152, rfl, rfl, K_153, F_154⟩ := Q_151
  have ne_155 : @Ne Nat a_12 a_96 := F_154.2.2.2.2.2.2.2
  have lt_156 : @LT.lt Nat _ a_12 (Array.size h_147) := F_154.lt1
  have lt_157 : @LT.lt Nat _ a_96 (Array.size h_147) := F_154.lt2
  show Run p l e _ s m _ below meth c Z EL1 _ n0 bk_113 h_147 9 527 (mkF m 28 #[.val (.int lm)] [(.ref a_12), (.int (431 : Int32)), (.ref a_1), (.ref a_1)]) _
  have hbl_158 : ∀ y, bk_113 y → @LT.lt Nat _ y (Array.size h_147) := fun y q => Nat.lt_of_lt_of_le (hbl_142 y q) (by omega)
  refine k_callV hx (y := (⟨"java/lang/StringBuilder", "toString", "()Ljava/lang/String;"⟩ : MethodName)) (z := (⟨"java/lang/StringBuilder", "toString", "()Ljava/lang/String;"⟩ : MethodName)) (hw _ (List.mem_of_getElem? (i := 130) rfl)) (hw _ (List.mem_of_getElem? (i := 131) rfl)) (fun s' hZ => notFace_of_selects (args := #[]) (mv hZ (hw _ (List.mem_of_getElem? (i := 133) rfl)))) (hw _ (List.mem_of_getElem? (i := 133) rfl)) (hw _ (List.mem_of_getElem? (i := 132) rfl)) (by decide) (W := 3) (a := a_12) (argsL := []) (rest := [(.int (431 : Int32)), (.ref a_1), (.ref a_1)]) (Pays.of_met (rm_sts l Z a0 G1 G3 d1 d2 us ss kd1 kd2 w1 w2 hX hY n0 bk_113 h_147 O_149 a_12 a_96 k_97 e_98 (((0 + lit1.length) + e_99) + lit2.length) e_152 F_154 (by rw [len1, len2]; omega) (by rw [len1, len2]; omega) hbl_158 []) (hw _ (List.mem_of_getElem? (i := 134) rfl)) (hw _ (List.mem_of_getElem? (i := 8) rfl)) (by decide) (by decide)) F_154.1 rfl (by rw [hml]; rfl) (lenOf pd__28__29_Ljava_2f_lang_2f_String_3b_ rfl) rfl (by show 2 * 0 + _ ≤ _; exact Nat.le_of_eq rfl) (hb hby d_prog_19_m_3_28) (by decide) (by decide) ?_
  intro v_159 h_160 bk_161 O_162 z_163 Q_164
  obtain ⟨a_165, rfl, rfl, K_166, F_167⟩ := Q_164
  have lt_168 : @LT.lt Nat _ a_165 (Array.size h_160) := F_167.lt
  show Run p l e _ s m _ below meth c Z EL1 _ n0 bk_113 h_160 11 611 (mkF m 31 #[.val (.int lm)] [(.ref a_165), (.int (431 : Int32)), (.ref a_1), (.ref a_1)]) _
  have F_169 : Exa Z h_160 a_1 "com/example/lidmaat/lidmaat/http/Refusal" := ((((((((A_5.ext E_15).keep K_33).ext E_43).keep K_81).keep K_101).ext E_112).keep K_153).keep K_166)
  have F_170 : Fld Z h_160 a_1 "java/lang/Throwable" "cause" "Ljava/lang/Throwable;" .null := (((((((((D_6 (Or.inl (hw _ (List.mem_of_getElem? (i := 183) rfl))) (ty := (.object "java/lang/Throwable")) (by decide)).ext E_15).keep K_33 (ninS (ne_ad (by omega)) nin0)).ext E_43).keep K_81 (ninS (ne_ad (by omega)) nin0)).keep K_101 (ninS (ne_ad (by omega)) nin0)).ext E_112).keep K_153 (ninS (ne_ad (by omega)) (ninS (ne_ad (by omega)) nin0))).keep K_166 nin0)
  have F_171 : Fld Z h_160 a_1 "java/lang/Throwable" "stackTrace" "[Ljava/lang/StackTraceElement;" .null := (((((((((D_6 (Or.inl (hw _ (List.mem_of_getElem? (i := 186) rfl))) (ty := (.array (.object "java/lang/StackTraceElement"))) (by decide)).ext E_15).keep K_33 (ninS (ne_ad (by omega)) nin0)).ext E_43).keep K_81 (ninS (ne_ad (by omega)) nin0)).keep K_101 (ninS (ne_ad (by omega)) nin0)).ext E_112).keep K_153 (ninS (ne_ad (by omega)) (ninS (ne_ad (by omega)) nin0))).keep K_166 nin0)
  have F_172 : Fld Z h_160 a_1 "java/lang/Throwable" "suppressedExceptions" "Ljava/util/List;" .null := (((((((((D_6 (Or.inl (hw _ (List.mem_of_getElem? (i := 189) rfl))) (ty := (.object "java/util/List")) (by decide)).ext E_15).keep K_33 (ninS (ne_ad (by omega)) nin0)).ext E_43).keep K_81 (ninS (ne_ad (by omega)) nin0)).keep K_101 (ninS (ne_ad (by omega)) nin0)).ext E_112).keep K_153 (ninS (ne_ad (by omega)) (ninS (ne_ad (by omega)) nin0))).keep K_166 nin0)
  have F_173 : Fld Z h_160 a_1 "java/lang/Throwable" "detailMessage" "Ljava/lang/String;" .null := (((((((((D_6 (Or.inl (hw _ (List.mem_of_getElem? (i := 191) rfl))) (ty := (.object "java/lang/String")) (by decide)).ext E_15).keep K_33 (ninS (ne_ad (by omega)) nin0)).ext E_43).keep K_81 (ninS (ne_ad (by omega)) nin0)).keep K_101 (ninS (ne_ad (by omega)) nin0)).ext E_112).keep K_153 (ninS (ne_ad (by omega)) (ninS (ne_ad (by omega)) nin0))).keep K_166 nin0)
  have F_174 : Fld Z h_160 a_1 "com/example/lidmaat/lidmaat/http/Refusal" "status" "I" (.int (0 : Int32)) := (((((((((D_6 (Or.inr (hw _ (List.mem_of_getElem? (i := 193) rfl))) (ty := .int) (by decide)).ext E_15).keep K_33 (ninS (ne_ad (by omega)) nin0)).ext E_43).keep K_81 (ninS (ne_ad (by omega)) nin0)).keep K_101 (ninS (ne_ad (by omega)) nin0)).ext E_112).keep K_153 (ninS (ne_ad (by omega)) (ninS (ne_ad (by omega)) nin0))).keep K_166 nin0)
  refine k_callI hx (y := (⟨"com/example/lidmaat/lidmaat/http/Refusal", "<init>", "(ILjava/lang/String;)V"⟩ : MethodName)) rfl (hw _ (List.mem_of_getElem? (i := 167) rfl)) (hw _ (List.mem_of_getElem? (i := 168) rfl)) (hw _ (List.mem_of_getElem? (i := 169) rfl)) (by decide) (W := 1) (a := a_1) (argsL := [(.int (431 : Int32)), (.ref a_165)]) (rest := [(.ref a_1)]) (Pays.of_met (rm_rin l Z a0 G1 G3 d1 d2 us ss kd1 kd2 w1 w2 hX hY n0 bk_113 h_160 O_162 a_1 (431 : Int32) a_165 F_169 F_170 F_171 F_172 F_173 nb_137 (by omega) F_174 []) (hw _ (List.mem_of_getElem? (i := 169) rfl)) (hw _ (List.mem_of_getElem? (i := 2) rfl)) (by decide) (by decide)) rfl (by rw [hml]; rfl) (lenOf pd__28_ILjava_2f_lang_2f_String_3b__29_V rfl) rfl (by show 2 * 0 + _ ≤ _; exact Nat.le_of_eq rfl) (hb hby d_prog_19_m_3_31) (by decide) (by decide) ?_
  intro v_175 h_176 bk_177 O_178 z_179 Q_180
  obtain ⟨rfl, rfl, K_181, F_182, F_183⟩ := Q_180
  have lt_184 : @LT.lt Nat _ a_1 (Array.size h_176) := F_182.lt
  have lt_185 : @LT.lt Nat _ a_1 (Array.size h_176) := F_183.lt
  show Run p l e _ s m _ below meth c Z EL1 _ n0 bk_113 h_176 11 611 (mkF m 34 #[.val (.int lm)] [(.ref a_1)]) _
  exact k_retA hx hlk hret rfl rfl rfl (hb hby d_prog_19_m_3_34) (by decide) (by decide) ⟨a_1, rfl, (fun y q => (hbs_143 y q).imp id (fun t => ⟨t.1, Nat.lt_of_lt_of_le t.2 (by omega)⟩)), (((((((((((Keep.refl _ _).ext E_4).ext E_15).trans K_33 (kkS (Or.inr (by omega)) kk0)).ext E_43).trans K_81 (kkS (Or.inr (by omega)) kk0)).trans K_101 (kkS (Or.inr (by omega)) kk0)).ext E_112).trans K_153 (kkS (Or.inr (by omega)) (kkS (Or.inr (by omega)) kk0))).trans K_166 kk0).trans K_181 (kkS (Or.inr (by omega)) kk0)), F_182, F_183⟩
def Q_law (Z : State) (G1 : Int32) (G3 : Value) (d1 d2 us ss : Addr) (kd1 kd2 : ClassId) (w1 w2 : List Value) (lm : Int32) (h0 : Heap) (n0 : Nat) (bk : Addr → Prop) (v : Option Value) (h : Heap) (bk' : Addr → Prop) : Prop := v = some (.int (1 : Int32)) ∧ (∀ y, bk' y → bk y ∨ (@LE.le Nat _ (Array.size h0) y ∧ @LT.lt Nat _ y (Array.size h))) ∧ Keep h0 h []
theorem pd__28_I_29_Lcom_2f_example_2f_lidmaat_2f_lidmaat_2f_http_2f_Refusal_3b_ : parseMethodDescriptor "(I)Lcom/example/lidmaat/lidmaat/http/Refusal;" = some ⟨[.int], some (.object "com/example/lidmaat/lidmaat/http/Refusal")⟩ := by decide +kernel
theorem ef_law (m : MethodId) (x0 : Int32) : entryFrame m #[(.int x0)] maxLocals = mkF m 0 #[.val (.int x0), .unset] [] := by first | (simp [entryFrame, mkF, argsToLocals, Value.category, maxLocals]; done) | rfl
set_option maxRecDepth 65536 in
set_option maxHeartbeats 40000000 in
theorem rm_law (l : Launch) (Z : State) (a0 : Array Value) (G1 : Int32) (G3 : Value) (d1 d2 us ss : Addr) (kd1 kd2 : ClassId) (w1 w2 : List Value) (hX : Ctx Z a0 G1 G3) (hY : More Z d1 d2 us ss kd1 kd2 w1 w2) (n0 : Nat) (bk : Addr → Prop) (h0 : Heap) (O0 : Old Z n0 h0) (lm : Int32) (hbl : ∀ y, bk y → @LT.lt Nat _ y (Array.size h0)) (ws : List Jvm.Cond) : Met l Z EL1 n0 bk Jvm.Pilot.@@N@@.x code maxLocals ret room_1 #[(.int lm)] h0 (Q_law Z G1 G3 d1 d2 us ss kd1 kd2 w1 w2 lm h0 n0 bk) ws := by
  have hX' := hX
  obtain ⟨hw, hE, S1, P1, S3, P3⟩ := hX'
  have hY' := hY
  obtain ⟨s_d1, a_d1, s_d2, a_d2, s_us, s_ss⟩ := hY'
  have hSA := sa_of hw
  have z0 : n0 ≤ h0.size := by rw [← O0.1]; exact O0.2.1
  refine Met.of (by decide +kernel) O0 hE ?_
  intro p e s m below meth c hx hby hml hret hlk hnm
  refine k_cast (ef_law m lm) ?_
  show Run p l e _ s m _ below meth c Z EL1 _ n0 bk h0 0 0 (mkF m 0 #[.val (.int lm), .unset] []) _
  refine k_pure (g' := (mkF m 1 #[.val (.int lm), .unset] [(.int lm)])) (fun TT HH tt kk => XS.iloadN HH hx rfl (hb hby at_0) rfl kk) ?_
  refine k_callS hx (y := (⟨"com/example/lidmaat/lidmaat/http/Refusal", "headTooLarge", "(I)Lcom/example/lidmaat/lidmaat/http/Refusal;"⟩ : MethodName)) (hw _ (List.mem_of_getElem? (i := 0) rfl)) (hw _ (List.mem_of_getElem? (i := 1) rfl)) (hw _ (List.mem_of_getElem? (i := 2) rfl)) (hw _ (List.mem_of_getElem? (i := 3) rfl)) (by decide) (W := 0) (argsL := [(.int lm)]) (rest := []) (Pays.of_met (rm_htl l Z a0 G1 G3 d1 d2 us ss kd1 kd2 w1 w2 hX hY n0 bk h0 O0 lm hbl []) (hw _ (List.mem_of_getElem? (i := 3) rfl)) (hw _ (List.mem_of_getElem? (i := 2) rfl)) (by decide) (by decide)) rfl (by rw [hml]; rfl) (lenOf pd__28_I_29_Lcom_2f_example_2f_lidmaat_2f_lidmaat_2f_http_2f_Refusal_3b_ rfl) rfl (by show 2 * 0 + _ ≤ _; exact Nat.le_of_eq rfl) (hb hby at_1) (by decide) (by decide) ?_
  intro v_1 h_2 bk_3 O_4 z_5 Q_6
  obtain ⟨a_7, rfl, hbk_8, K_9, F_10, F_11⟩ := Q_6
  have hbl_12 : ∀ y, bk_3 y → @LT.lt Nat _ y (Array.size h_2) := fun y q => (hbk_8 y q).elim (fun r => Nat.lt_of_lt_of_le (hbl y r) (by omega)) (fun r => r.2)
  have hbs_13 : ∀ y, bk_3 y → bk y ∨ (@LE.le Nat _ (Array.size h0) y ∧ @LT.lt Nat _ y (Array.size h_2)) := fun y q => (hbk_8 y q).imp id (fun r => ⟨Nat.le_trans (by omega) r.1, r.2⟩)
  have lt_14 : @LT.lt Nat _ a_7 (Array.size h_2) := F_10.lt
  have lt_15 : @LT.lt Nat _ a_7 (Array.size h_2) := F_11.lt
  show Run p l e _ s m _ below meth c Z EL1 _ n0 bk_3 h_2 11 611 (mkF m 4 #[.val (.int lm), .unset] [(.ref a_7)]) _
  refine k_pure (g' := (mkF m 5 #[.val (.int lm), .val (.ref a_7)] [])) (fun TT HH tt kk => XS.astoreN HH hx rfl (hb hby at_4) rfl rfl (l' := #[.val (.int lm), .val (.ref a_7)]) rfl kk) ?_
  refine k_pure (g' := (mkF m 6 #[.val (.int lm), .val (.ref a_7)] [(.ref a_7)])) (fun TT HH tt kk => XS.aloadN HH hx rfl (hb hby at_5) rfl rfl kk) ?_
  refine k_pure (g' := (mkF m 11 #[.val (.int lm), .val (.ref a_7)] [])) (fun TT HH tt kk => XS.ifnonnullYes HH hx rfl (pc0 := 6) (pc' := 11) rfl (hb hby at_6) rfl (by decide) (by decide) kk) ?_
  refine k_pure (g' := (mkF m 12 #[.val (.int lm), .val (.ref a_7)] [(.ref a_7)])) (fun TT HH tt kk => XS.aloadN HH hx rfl (hb hby at_11) rfl rfl kk) ?_
  refine k_callV hx (y := (⟨"com/example/lidmaat/lidmaat/http/Refusal", "status", "()I"⟩ : MethodName)) (z := (⟨"com/example/lidmaat/lidmaat/http/Refusal", "status", "()I"⟩ : MethodName)) (hw _ (List.mem_of_getElem? (i := 194) rfl)) (hw _ (List.mem_of_getElem? (i := 195) rfl)) (fun s' hZ => notFace_of_selects (args := #[]) (mv hZ (hw _ (List.mem_of_getElem? (i := 197) rfl)))) (hw _ (List.mem_of_getElem? (i := 197) rfl)) (hw _ (List.mem_of_getElem? (i := 196) rfl)) (by decide) (W := 0) (a := a_7) (argsL := []) (rest := []) (Pays.of_met (rm_sta l Z a0 G1 G3 d1 d2 us ss kd1 kd2 w1 w2 hX hY n0 bk_3 h_2 O_4 a_7 (431 : Int32) F_10 F_11 []) (hw _ (List.mem_of_getElem? (i := 198) rfl)) (hw _ (List.mem_of_getElem? (i := 2) rfl)) (by decide) (by decide)) F_10 rfl (by rw [hml]; rfl) (lenOf pd__28__29_I rfl) rfl (by show 2 * 0 + _ ≤ _; exact Nat.le_of_eq rfl) (hb hby at_12) (by decide) (by decide) ?_
  intro v_16 h_17 bk_18 O_19 z_20 Q_21
  obtain ⟨rfl, rfl, rfl⟩ := Q_21
  show Run p l e _ s m _ below meth c Z EL1 _ n0 bk_3 h_2 11 611 (mkF m 15 #[.val (.int lm), .val (.ref a_7)] [(.int (431 : Int32))]) _
  refine k_pure (g' := (mkF m 18 #[.val (.int lm), .val (.ref a_7)] [(.int (431 : Int32)), (.int (431 : Int32))])) (fun TT HH tt kk => XS.sipush HH hx rfl (hb hby at_15) kk) ?_
  refine k_pure (g' := (mkF m 21 #[.val (.int lm), .val (.ref a_7)] [])) (fun TT HH tt kk => XS.icmpNo HH hx rfl (hb hby at_18) rfl (teq rfl).2 kk) ?_
  refine k_pure (g' := (mkF m 22 #[.val (.int lm), .val (.ref a_7)] [(.int (1 : Int32))])) (fun TT HH tt kk => XS.iconst HH hx rfl (hb hby at_21) kk) ?_
  refine k_pure (g' := (mkF m 26 #[.val (.int lm), .val (.ref a_7)] [(.int (1 : Int32))])) (fun TT HH tt kk => XS.goto HH hx rfl (pc0 := 22) (pc' := 26) rfl (hb hby at_22) (by decide) (by decide) kk) ?_
  exact k_retN hx hlk hret (by simp) (hb hby at_26) (by decide) (by decide) ⟨rfl, (fun y q => (hbs_13 y q).imp id (fun t => ⟨t.1, Nat.lt_of_lt_of_le t.2 (by omega)⟩)), ((Keep.refl _ _).trans K_9 kk0)⟩
set_option maxRecDepth 65536 in
set_option maxHeartbeats 40000000 in
theorem comes_1 {Post : Tables → Env → Array Value → State → Outcome → State → Prop} (hpost : ∀ tb e args s v u, (limb_1_1.after args s (.returned v) u = true ∧ limb_1_2.after args s (.returned v) u = true ∧ True) → FramedW s (.returned v) u (Jvm.fieldLocs frame_1_writes args s ++ Jvm.arrayLocs frame_1_arrays args s ++ Jvm.staticLocs frame_1_statics s) 32 2688 → Post tb e args s (.returned v) u) :
    ArmFor flags0 classFile x code maxLocals ret World_1 tables_1 room_1 Calls_1 rest_1 Pre_1 Post := by
  intro l hfl _ _ p e ha hc hk s m args below hf hA hF happ hP
  obtain ⟨hcalls, hrest, hpre⟩ := hP
  obtain ⟨-, -, -, hnamed, -, -, -, hat⟩ := (Spec.applies_iff hf).mp happ
  obtain ⟨hg, hn⟩ := and_e (Cond.before_iff.mp (show (Jvm.Cond.and given_1 narrow_1).before args s = true from hpre))
  obtain ⟨q0, r0⟩ := and_e hg
  obtain ⟨w0, rfl⟩ : ∃ w0 : Value, args = #[w0] := by
    have hs : args.size = 1 := by simpa [Cond.value, given_1] using q0
    obtain ⟨L⟩ := args
    match L, hs with
    | [w0], _ => exact ⟨w0, rfl⟩
  have hw := fun d (hd : d ∈ tables_1) => atoms_spec (ws := Jvm.Cond.code x code maxLocals ret :: tables_1) hat d (List.mem_cons_of_mem _ hd)
  obtain ⟨hsets, hown0⟩ := atoms_of _ (rest_1_c_eq ▸ (show rest_1_c.before _ s = true from hrest))
  obtain ⟨i0, e0⟩ := is_v r0
  obtain rfl : w0 = (.int i0) := Option.some.inj e0
  obtain ⟨G1, eG1⟩ := is_v (Cond.before_iff.mp (hsets _ (List.mem_of_getElem? (i := 1) rfl)))
  have S1 : Sta s s.heap "java/lang/String" "COMPACT_STRINGS" "Z" (.int G1) := Sta.start eG1 (Or.inl (hsets _ (List.mem_of_getElem? (i := 0) rfl)))
  have P1 : ¬ (G1 = (0 : Int32)) := gotF (Cond.eq_ints eG1 (Term.int_eval (0))) (not_v (Cond.before_iff.mp (hsets _ (List.mem_of_getElem? (i := 2) rfl))))
  obtain ⟨G3, eG3, P3⟩ := isR_v (Cond.before_iff.mp (hsets _ (List.mem_of_getElem? (i := 8) rfl)))
  have S3 : Sta s s.heap "jdk/internal/util/Preconditions" "SIOOBE_FORMATTER" "Ljava/util/function/BiFunction;" G3 := Sta.start eG3 (Or.inl (hsets _ (List.mem_of_getElem? (i := 7) rfl)))
  have hE : EW s #[(.int i0)] EL1 := (EW.cons (hw _ (List.mem_of_getElem? (i := 28) rfl)) (by decide +kernel) (EW.cons (hw _ (List.mem_of_getElem? (i := 129) rfl)) (by decide +kernel) EW.nil))
  have hCH : CHv s EL1 s.vm s.heap := CHv.start hE (fun p hp => hcalls.1 p ((by decide +kernel : ∀ p ∈ EL1, p ∈ consts_1) p hp)) (hsets _ (List.mem_of_getElem? (i := 2) rfl)) (hw _ (List.mem_of_getElem? (i := 23) rfl)) (hw _ (List.mem_of_getElem? (i := 29) rfl))
  have hFit : Fit s := fit_of hF
  obtain ⟨d1, kd1, w1, e_d1, -, a_d1⟩ := dig_start hFit (hw _ (List.mem_of_getElem? (i := 23) rfl)) (hsets _ (List.mem_of_getElem? (i := 12) rfl)) (ev_int (hsets _ (List.mem_of_getElem? (i := 13) rfl)))
  have s_d1 := Sta.start e_d1 (Or.inl (hsets _ (List.mem_of_getElem? (i := 11) rfl)))
  obtain ⟨d2, kd2, w2, e_d2, -, a_d2⟩ := dig_start hFit (hw _ (List.mem_of_getElem? (i := 23) rfl)) (hsets _ (List.mem_of_getElem? (i := 17) rfl)) (ev_int (hsets _ (List.mem_of_getElem? (i := 18) rfl)))
  have s_d2 := Sta.start e_d2 (Or.inl (hsets _ (List.mem_of_getElem? (i := 16) rfl)))
  obtain ⟨us, e_us⟩ := arr_v (Cond.before_iff.mp (hsets _ (List.mem_of_getElem? (i := 28) rfl)))
  have s_us := Sta.start e_us (Or.inl (hsets _ (List.mem_of_getElem? (i := 26) rfl)))
  obtain ⟨ss, e_ss, -⟩ := exa_start (hsets _ (List.mem_of_getElem? (i := 33) rfl))
  have s_ss := Sta.start e_ss (Or.inl (hsets _ (List.mem_of_getElem? (i := 31) rfl)))
  have hY : More s d1 d2 us ss kd1 kd2 w1 w2 := ⟨s_d1, a_d1, s_d2, a_d2, s_us, s_ss⟩
  have hX : Ctx s _ G1 G3 := ⟨hw, hE, S1, P1, S3, P3⟩
  obtain ⟨n, o, h1, h2, h3, v, L, bk', rfl, ⟨⟨rfl, -⟩, N, -⟩, hq⟩ := rm_law l s _ G1 G3 d1 d2 us ss kd1 kd2 w1 w2 hX hY s.heap.size (Bk s EL1 s.vm s.heap) s.heap (Old.start s) i0 (fun y q => (Array.getElem?_eq_some_iff.mp (Bk.there q).choose_spec).1) tables_1 p e ha hc hk s m _ below hf ((Spec.applies_iff_loose hf).mp happ).1 ⟨rfl, State.Warmed39.refl s, rfl, hCH, (fun _ q => q)⟩ trivial
  refine ⟨n, _, h1, h2, h3, hpost _ _ _ _ _ _ ⟨Cond.after_iff.mpr rfl, Cond.after_iff.mpr (eq_i res_at (Term.int_eval (1)) rfl), trivial⟩ ⟨hq.1, hq.2.1, hq.2.2.1, (hq.2.2.2.sift fun y hy => Or.inr (N y hy)).mono (by decide) (by decide)⟩⟩
theorem main_1_1 : Claimed_1_1 := comes_1 fun _ _ _ _ _ _ h hF => ⟨h.1, hF⟩
theorem main_1_2 : Claimed_1_2 := comes_1 fun _ _ _ _ _ _ h hF => ⟨h.2.1, hF⟩
end Jvm.Pilot.@@N@@
namespace Jvm.Pilot.@@N@@
open Jvm Jvm.ClassFile Sem Op Lib Jvm.Free Jvm.Stand Jvm.Pilot.@@N@@.Jvm.D
/-! MADE BY PROGRAM (witnessworld.py) out of the Statement's table words and the real class files: 39 classes; the members and pool entries that the words name. The judged class is class 1, her method 1. -/
namespace start1
open Jvm.ClassFile
def u (s : String) : CpInfo := .utf8 (stringToUtf16 s)
/-- a pool by its gaps: so many unusable entries, then the entry; so many at the end -/
def gap : Nat → List CpInfo → List CpInfo
  | 0, r => r
  | n + 1, r => .unusable :: gap n r
def poolList (es : List (Nat × CpInfo)) (last : Nat) : List CpInfo := es.foldr (fun e r => gap e.1 (e.2 :: r)) (gap last [])
def pool (es : List (Nat × CpInfo)) (last : Nat) : Array CpInfo := ⟨poolList es last⟩
def fileOf (pool : Array CpInfo) (this : Nat) (attrs : Array Attribute := #[]) (ms : Array MethodInfo := #[]) (fl : Nat := 33) (sup : Nat := 0) (ifs : Array Nat := #[]) (fds : Array FieldInfo := #[]) : ClassFile where
  minorVersion := 0
  majorVersion := 65
  constantPool := pool
  accessFlags := fl
  thisClass := this
  superClass := sup
  interfaces := ifs
  fields := fds
  methods := ms
  attributes := attrs
def plain (name : String) (sup : Option ClassId) : Class where
  name := name
  kind := .ordinary
  loader := none
  accessFlags := 33
  super := sup
  interfaces := #[]
  cf := none
  fields := #[]
  methods := #[]
  instanceTypes := #[]
  staticTypes := #[]
  resolved := #[]
  callSites := []
  init := .initialized
  statics := none
  mirror := none

def pool0 : Array CpInfo := pool [(5, u "<init>"), (0, u "()V"), (1, .class_ 10), (1, u "java/lang/Object")] 113

def k0c0 : Code := { maxStack := 0, maxLocals := 1, code := object_method_1_code, exceptionTable := #[], attributes := #[] }
def k0m0 : Method := { name := "<init>", desc := "()V", sig := { parameters := [], returnType := none }, accessFlags := 1, code := some k0c0 }
/-- java/lang/Object -/
def k0 : Class := { plain "java/lang/Object" none with
  accessFlags := 33
  interfaces := #[]
  cf := some (fileOf pool0 8 #[] #[{ accessFlags := 1, nameIndex := 5, descriptorIndex := 6, attributes := #[] }] 33 0 #[] #[])
  fields := #[]
  methods := #[k0m0]
  instanceTypes := #[]
  staticTypes := #[]
  resolved := Array.replicate 124 none
  statics := none }

def pool1 : Array CpInfo := pool [(2, .class_ 4), (1, u "java/lang/Object"), (0, u "<init>"), (0, u "()V"), (0, .methodref 8 9), (0, .class_ 10), (0, .nameAndType 11 12), (0, u "com/example/lidmaat/lidmaat/http/Refusal"), (0, u "headTooLarge"), (0, u "(I)Lcom/example/lidmaat/lidmaat/http/Refusal;"), (0, .methodref 8 14), (0, .nameAndType 15 16), (0, u "status"), (0, u "()I"), (0, .class_ 18), (0, u "com/example/lidmaat/lidmaat/http/RefusalHeadTooLargePinLaw"), (2, u "law"), (0, u "(I)Z")] 3

def k1m0 : Method := { name := "<init>", desc := "()V", sig := { parameters := [], returnType := none }, accessFlags := 2, code := none }
def k1c1 : Code := { maxStack := 2, maxLocals := 2, code := code, exceptionTable := #[], attributes := #[] }
def k1m1 : Method := { name := "law", desc := "(I)Z", sig := { parameters := [.int], returnType := some .boolean }, accessFlags := 9, code := some k1c1 }
/-- com/example/lidmaat/lidmaat/http/RefusalHeadTooLargePinLaw -/
def k1 : Class := { plain "com/example/lidmaat/lidmaat/http/RefusalHeadTooLargePinLaw" (some 0) with
  accessFlags := 49
  interfaces := #[]
  cf := some (fileOf pool1 17 #[] #[{ accessFlags := 2, nameIndex := 5, descriptorIndex := 6, attributes := #[] }, { accessFlags := 9, nameIndex := 21, descriptorIndex := 22, attributes := #[] }] 49 2 #[] #[])
  fields := #[]
  methods := #[k1m0, k1m1]
  instanceTypes := #[]
  staticTypes := #[]
  resolved := Array.replicate 26 none
  statics := none }

def pool2 : Array CpInfo := pool [(1, .class_ 2), (0, u "java/io/Serializable"), (0, .class_ 4), (0, u "java/lang/Object")] 2

/-- java/io/Serializable -/
def k2 : Class := { plain "java/io/Serializable" (some 0) with
  accessFlags := 1537
  interfaces := #[]
  cf := some (fileOf pool2 1 #[] #[] 1537 3 #[] #[])
  fields := #[]
  methods := #[]
  instanceTypes := #[]
  staticTypes := #[]
  resolved := Array.replicate 7 none
  statics := none }

def pool3 : Array CpInfo := pool [(1, .methodref 2 3), (0, .class_ 4), (0, .nameAndType 5 6), (0, u "java/lang/Object"), (0, u "<init>"), (0, u "()V"), (0, .fieldref 8 9), (0, .class_ 10), (0, .nameAndType 11 12), (0, u "java/lang/Throwable"), (0, u "cause"), (0, u "Ljava/lang/Throwable;"), (0, .fieldref 8 14), (0, .nameAndType 15 16), (0, u "UNASSIGNED_STACK"), (0, u "[Ljava/lang/StackTraceElement;"), (0, .fieldref 8 18), (0, .nameAndType 19 16), (0, u "stackTrace"), (0, .fieldref 8 21), (0, .nameAndType 22 23), (0, u "SUPPRESSED_SENTINEL"), (0, u "Ljava/util/List;"), (0, .fieldref 8 25), (0, .nameAndType 26 23), (0, u "suppressedExceptions"), (4, .fieldref 8 32), (0, .nameAndType 33 34), (0, u "detailMessage"), (0, u "Ljava/lang/String;"), (58, .class_ 94), (0, u "java/lang/Throwable$WrappedPrintStream"), (6, .class_ 103), (1, u "java/lang/Throwable$PrintStreamOrWriter"), (61, u "$assertionsDisabled"), (0, u "Z"), (26, .class_ 194), (0, u "java/lang/Throwable$WrappedPrintWriter"), (5, u "backtrace"), (0, u "Ljava/lang/Object;"), (9, u "depth"), (0, u "I"), (56, .class_ 271), (1, u "java/lang/Throwable$SentinelHolder"), (32, u "EMPTY_THROWABLE_ARRAY"), (0, u "[Ljava/lang/Throwable;"), (12, .class_ 319), (0, u "java/io/Serializable"), (0, u "serialVersionUID"), (0, u "J"), (5, u "NULL_CAUSE_MESSAGE"), (0, u "SELF_SUPPRESSION_MESSAGE"), (0, u "CAUSE_CAPTION"), (0, u "SUPPRESSED_CAPTION"), (9, u "(Ljava/lang/String;Ljava/lang/Throwable;ZZ)V")] 63

def k3m0 : Method := { name := "<init>", desc := "()V", sig := { parameters := [], returnType := none }, accessFlags := 1, code := none }
def k3c1 : Code := { maxStack := 2, maxLocals := 5, code := jdk_78_method_5_code, exceptionTable := #[], attributes := #[] }
def k3m1 : Method := { name := "<init>", desc := "(Ljava/lang/String;Ljava/lang/Throwable;ZZ)V", sig := { parameters := [(.object "java/lang/String"), (.object "java/lang/Throwable"), .boolean, .boolean], returnType := none }, accessFlags := 4, code := some k3c1 }
/-- java/lang/Throwable -/
def k3 : Class := { plain "java/lang/Throwable" (some 0) with
  accessFlags := 33
  interfaces := #[2]
  cf := some (fileOf pool3 8 #[.nestMembers #[193, 93, 101, 269]] #[{ accessFlags := 1, nameIndex := 5, descriptorIndex := 6, attributes := #[] }, { accessFlags := 4, nameIndex := 5, descriptorIndex := 340, attributes := #[] }] 33 2 #[318] #[{ accessFlags := 26, nameIndex := 320, descriptorIndex := 321, attributes := #[] }, { accessFlags := 130, nameIndex := 200, descriptorIndex := 201, attributes := #[] }, { accessFlags := 2, nameIndex := 33, descriptorIndex := 34, attributes := #[] }, { accessFlags := 26, nameIndex := 15, descriptorIndex := 16, attributes := #[] }, { accessFlags := 2, nameIndex := 11, descriptorIndex := 12, attributes := #[] }, { accessFlags := 2, nameIndex := 19, descriptorIndex := 16, attributes := #[] }, { accessFlags := 130, nameIndex := 211, descriptorIndex := 212, attributes := #[] }, { accessFlags := 26, nameIndex := 22, descriptorIndex := 23, attributes := #[] }, { accessFlags := 2, nameIndex := 26, descriptorIndex := 23, attributes := #[] }, { accessFlags := 26, nameIndex := 327, descriptorIndex := 34, attributes := #[] }, { accessFlags := 26, nameIndex := 328, descriptorIndex := 34, attributes := #[] }, { accessFlags := 26, nameIndex := 329, descriptorIndex := 34, attributes := #[] }, { accessFlags := 26, nameIndex := 330, descriptorIndex := 34, attributes := #[] }, { accessFlags := 26, nameIndex := 304, descriptorIndex := 305, attributes := #[] }, { accessFlags := 4120, nameIndex := 165, descriptorIndex := 166, attributes := #[] }])
  fields := #[{ name := "serialVersionUID", type := .long, accessFlags := 26, slot := 0, constantValue := 0 }, { name := "backtrace", type := (.object "java/lang/Object"), accessFlags := 130, slot := 0, constantValue := 0 }, { name := "detailMessage", type := (.object "java/lang/String"), accessFlags := 2, slot := 1, constantValue := 0 }, { name := "UNASSIGNED_STACK", type := (.array (.object "java/lang/StackTraceElement")), accessFlags := 26, slot := 1, constantValue := 0 }, { name := "cause", type := (.object "java/lang/Throwable"), accessFlags := 2, slot := 2, constantValue := 0 }, { name := "stackTrace", type := (.array (.object "java/lang/StackTraceElement")), accessFlags := 2, slot := 3, constantValue := 0 }, { name := "depth", type := .int, accessFlags := 130, slot := 4, constantValue := 0 }, { name := "SUPPRESSED_SENTINEL", type := (.object "java/util/List"), accessFlags := 26, slot := 2, constantValue := 0 }, { name := "suppressedExceptions", type := (.object "java/util/List"), accessFlags := 2, slot := 5, constantValue := 0 }, { name := "NULL_CAUSE_MESSAGE", type := (.object "java/lang/String"), accessFlags := 26, slot := 3, constantValue := 0 }, { name := "SELF_SUPPRESSION_MESSAGE", type := (.object "java/lang/String"), accessFlags := 26, slot := 4, constantValue := 0 }, { name := "CAUSE_CAPTION", type := (.object "java/lang/String"), accessFlags := 26, slot := 5, constantValue := 0 }, { name := "SUPPRESSED_CAPTION", type := (.object "java/lang/String"), accessFlags := 26, slot := 6, constantValue := 0 }, { name := "EMPTY_THROWABLE_ARRAY", type := (.array (.object "java/lang/Throwable")), accessFlags := 26, slot := 7, constantValue := 0 }, { name := "$assertionsDisabled", type := .boolean, accessFlags := 4120, slot := 8, constantValue := 0 }]
  methods := #[k3m0, k3m1]
  instanceTypes := #[(.object "java/lang/Object"), (.object "java/lang/String"), (.object "java/lang/Throwable"), (.array (.object "java/lang/StackTraceElement")), .int, (.object "java/util/List")]
  staticTypes := #[.long, (.array (.object "java/lang/StackTraceElement")), (.object "java/util/List"), (.object "java/lang/String"), (.object "java/lang/String"), (.object "java/lang/String"), (.object "java/lang/String"), (.array (.object "java/lang/Throwable")), .boolean]
  resolved := Array.replicate 404 none
  statics := some 0 }

def pool4 : Array CpInfo := pool [(2, .class_ 4), (1, u "java/lang/Throwable"), (0, u "<init>"), (0, u "()V"), (9, .methodref 2 17), (0, .nameAndType 5 18), (0, u "(Ljava/lang/String;Ljava/lang/Throwable;ZZ)V"), (0, .class_ 20), (0, u "java/lang/Exception"), (0, u "serialVersionUID"), (0, u "J")] 17

def k4m0 : Method := { name := "<init>", desc := "()V", sig := { parameters := [], returnType := none }, accessFlags := 1, code := none }
def k4c1 : Code := { maxStack := 5, maxLocals := 5, code := jdk_59_method_5_code, exceptionTable := #[], attributes := #[] }
def k4m1 : Method := { name := "<init>", desc := "(Ljava/lang/String;Ljava/lang/Throwable;ZZ)V", sig := { parameters := [(.object "java/lang/String"), (.object "java/lang/Throwable"), .boolean, .boolean], returnType := none }, accessFlags := 4, code := some k4c1 }
/-- java/lang/Exception -/
def k4 : Class := { plain "java/lang/Exception" (some 3) with
  accessFlags := 33
  interfaces := #[]
  cf := some (fileOf pool4 19 #[] #[{ accessFlags := 1, nameIndex := 5, descriptorIndex := 6, attributes := #[] }, { accessFlags := 4, nameIndex := 5, descriptorIndex := 18, attributes := #[] }] 33 2 #[] #[{ accessFlags := 24, nameIndex := 21, descriptorIndex := 22, attributes := #[] }])
  fields := #[{ name := "serialVersionUID", type := .long, accessFlags := 24, slot := 0, constantValue := 0 }]
  methods := #[k4m0, k4m1]
  instanceTypes := #[(.object "java/lang/Object"), (.object "java/lang/String"), (.object "java/lang/Throwable"), (.array (.object "java/lang/StackTraceElement")), .int, (.object "java/util/List")]
  staticTypes := #[.long]
  resolved := Array.replicate 40 none
  statics := none }

def pool5 : Array CpInfo := pool [(1, .methodref 2 3), (0, .class_ 4), (0, .nameAndType 5 6), (0, u "java/lang/Exception"), (0, u "<init>"), (0, u "(Ljava/lang/String;Ljava/lang/Throwable;ZZ)V"), (0, .fieldref 8 9), (0, .class_ 10), (0, .nameAndType 11 12), (0, u "com/example/lidmaat/lidmaat/http/Refusal"), (0, u "status"), (0, u "I"), (0, .class_ 14), (0, u "java/lang/StringBuilder"), (0, .methodref 13 16), (0, .nameAndType 5 17), (0, u "()V"), (2, .methodref 13 21), (0, .nameAndType 22 23), (0, u "append"), (0, u "(Ljava/lang/String;)Ljava/lang/StringBuilder;"), (2, .methodref 13 27), (0, .nameAndType 28 29), (0, u "toString"), (0, u "()Ljava/lang/String;"), (0, .methodref 8 31), (0, .nameAndType 5 32), (0, u "(ILjava/lang/String;)V"), (0, .string 34), (0, u "The request line and header fields are larger than "), (0, .methodref 13 36), (0, .nameAndType 22 37), (0, u "(I)Ljava/lang/StringBuilder;"), (0, .string 39), (0, u " bytes."), (4, u "serialVersionUID"), (0, u "J"), (7, u "headTooLarge"), (0, u "(I)Lcom/example/lidmaat/lidmaat/http/Refusal;"), (3, u "()I")] 2

def k5c0 : Code := { maxStack := 5, maxLocals := 3, code := prog_19_method_1_code, exceptionTable := #[], attributes := #[] }
def k5m0 : Method := { name := "<init>", desc := "(ILjava/lang/String;)V", sig := { parameters := [.int, (.object "java/lang/String")], returnType := none }, accessFlags := 2, code := some k5c0 }
def k5c1 : Code := { maxStack := 5, maxLocals := 1, code := prog_19_method_3_code, exceptionTable := #[], attributes := #[] }
def k5m1 : Method := { name := "headTooLarge", desc := "(I)Lcom/example/lidmaat/lidmaat/http/Refusal;", sig := { parameters := [.int], returnType := some (.object "com/example/lidmaat/lidmaat/http/Refusal") }, accessFlags := 8, code := some k5c1 }
def k5c2 : Code := { maxStack := 1, maxLocals := 1, code := prog_19_method_6_code, exceptionTable := #[], attributes := #[] }
def k5m2 : Method := { name := "status", desc := "()I", sig := { parameters := [], returnType := some .int }, accessFlags := 1, code := some k5c2 }
/-- com/example/lidmaat/lidmaat/http/Refusal -/
def k5 : Class := { plain "com/example/lidmaat/lidmaat/http/Refusal" (some 4) with
  accessFlags := 49
  interfaces := #[]
  cf := some (fileOf pool5 8 #[] #[{ accessFlags := 2, nameIndex := 5, descriptorIndex := 32, attributes := #[] }, { accessFlags := 8, nameIndex := 53, descriptorIndex := 54, attributes := #[] }, { accessFlags := 1, nameIndex := 11, descriptorIndex := 58, attributes := #[] }] 49 2 #[] #[{ accessFlags := 26, nameIndex := 44, descriptorIndex := 45, attributes := #[] }, { accessFlags := 18, nameIndex := 11, descriptorIndex := 12, attributes := #[] }])
  fields := #[{ name := "serialVersionUID", type := .long, accessFlags := 26, slot := 0, constantValue := 0 }, { name := "status", type := .int, accessFlags := 18, slot := 6, constantValue := 0 }]
  methods := #[k5m0, k5m1, k5m2]
  instanceTypes := #[(.object "java/lang/Object"), (.object "java/lang/String"), (.object "java/lang/Throwable"), (.array (.object "java/lang/StackTraceElement")), .int, (.object "java/util/List"), .int]
  staticTypes := #[.long]
  resolved := Array.replicate 61 none
  statics := none }

def pool6 : Array CpInfo := pool [(1, .class_ 2), (0, u "java/lang/Appendable"), (0, .class_ 4), (0, u "java/lang/Object")] 9

/-- java/lang/Appendable -/
def k6 : Class := { plain "java/lang/Appendable" (some 0) with
  accessFlags := 1537
  interfaces := #[]
  cf := some (fileOf pool6 1 #[] #[] 1537 3 #[] #[])
  fields := #[]
  methods := #[]
  instanceTypes := #[]
  staticTypes := #[]
  resolved := Array.replicate 14 none
  statics := none }

def pool7 : Array CpInfo := pool [(2, .class_ 4), (1, u "java/lang/CharSequence"), (42, .class_ 48), (0, u "java/lang/CharSequence$1CodePointIterator"), (10, .class_ 60), (0, u "java/lang/CharSequence$1CharIterator"), (5, .class_ 67), (0, u "java/lang/Object")] 63

/-- java/lang/CharSequence -/
def k7 : Class := { plain "java/lang/CharSequence" (some 0) with
  accessFlags := 1537
  interfaces := #[]
  cf := some (fileOf pool7 2 #[.nestMembers #[47, 59]] #[] 1537 66 #[] #[])
  fields := #[]
  methods := #[]
  instanceTypes := #[]
  staticTypes := #[]
  resolved := Array.replicate 131 none
  statics := none }

def pool8 : Array CpInfo := pool [(1, .class_ 2), (0, u "java/lang/String"), (0, .methodref 4 5), (0, .class_ 6), (0, .nameAndType 7 8), (0, u "java/lang/Object"), (0, u "<init>"), (0, u "()V"), (1, .class_ 12), (1, u "java/lang/AbstractStringBuilder"), (0, u "EMPTYVALUE"), (0, u "[B"), (0, .fieldref 10 16), (0, .nameAndType 17 14), (0, u "value"), (0, .fieldref 1 19), (0, .nameAndType 20 21), (0, u "COMPACT_STRINGS"), (0, u "Z"), (0, .fieldref 10 23), (0, .nameAndType 24 25), (0, u "coder"), (0, u "B"), (6, .methodref 1 33), (0, .nameAndType 34 35), (0, u "length"), (0, u "()I"), (0, .class_ 37), (0, u "java/lang/Integer"), (1, .integer 2147483647), (0, .methodref 1 41), (0, .nameAndType 24 42), (0, u "()B"), (2, u "append"), (0, u "(Ljava/lang/String;)Ljava/lang/AbstractStringBuilder;"), (1, .class_ 49), (0, u "java/lang/CharSequence"), (19, u "(Ljava/lang/String;)V"), (5, u "maybeLatin1"), (3, .fieldref 10 80), (0, .nameAndType 81 82), (0, u "count"), (0, u "I"), (0, .methodref 10 84), (0, .nameAndType 85 86), (0, u "isLatin1"), (0, u "()Z"), (13, .methodref 10 101), (0, .nameAndType 102 103), (0, u "ensureCapacityInternal"), (0, u "(I)V"), (0, .methodref 10 105), (0, .nameAndType 106 107), (0, u "newCapacity"), (0, u "(I)I"), (0, .methodref 109 110), (0, .class_ 111), (0, .nameAndType 112 113), (0, u "java/util/Arrays"), (0, u "copyOf"), (0, u "([BI)[B"), (0, .methodref 115 116), (0, .class_ 117), (0, .nameAndType 118 119), (0, u "jdk/internal/util/ArraysSupport"), (0, u "newLength"), (0, u "(III)I"), (68, u "getChars"), (19, .methodref 10 209), (0, .nameAndType 210 211), (0, u "putStringAt"), (0, u "(ILjava/lang/String;)V"), (5, u "inflateIfNeededFor"), (2, .nameAndType 221 222), (0, u "getBytes"), (0, u "([BIB)V"), (22, .methodref 36 246), (0, .nameAndType 247 107), (0, u "stringSize"), (0, .methodref 36 249), (0, .nameAndType 188 250), (0, u "(II[B)I"), (146, .methodref 10 398), (0, .nameAndType 217 69), (0, .methodref 1 220), (3, u "()[B"), (40, .class_ 445), (0, u "java/lang/Appendable"), (65, u "(I)Ljava/lang/AbstractStringBuilder;"), (40, u "getValue")] 56

def k8m0 : Method := { name := "<init>", desc := "()V", sig := { parameters := [], returnType := none }, accessFlags := 0, code := none }
def k8c1 : Code := { maxStack := 2, maxLocals := 2, code := jdk_68_method_2_code, exceptionTable := #[], attributes := #[] }
def k8m1 : Method := { name := "<init>", desc := "(I)V", sig := { parameters := [.int], returnType := none }, accessFlags := 0, code := some k8c1 }
def k8c2 : Code := { maxStack := 1, maxLocals := 1, code := jdk_68_method_6_code, exceptionTable := #[], attributes := #[] }
def k8m2 : Method := { name := "length", desc := "()I", sig := { parameters := [], returnType := some .int }, accessFlags := 1, code := some k8c2 }
def k8c3 : Code := { maxStack := 4, maxLocals := 3, code := jdk_68_method_9_code, exceptionTable := #[], attributes := #[] }
def k8m3 : Method := { name := "ensureCapacityInternal", desc := "(I)V", sig := { parameters := [.int], returnType := none }, accessFlags := 2, code := some k8c3 }
def k8c4 : Code := { maxStack := 5, maxLocals := 6, code := jdk_68_method_10_code, exceptionTable := #[], attributes := #[] }
def k8m4 : Method := { name := "newCapacity", desc := "(I)I", sig := { parameters := [.int], returnType := some .int }, accessFlags := 2, code := some k8c4 }
def k8c5 : Code := { maxStack := 3, maxLocals := 3, code := jdk_68_method_22_code, exceptionTable := #[], attributes := #[] }
def k8m5 : Method := { name := "append", desc := "(Ljava/lang/String;)Ljava/lang/AbstractStringBuilder;", sig := { parameters := [(.object "java/lang/String")], returnType := some (.object "java/lang/AbstractStringBuilder") }, accessFlags := 1, code := some k8c5 }
def k8c6 : Code := { maxStack := 4, maxLocals := 4, code := jdk_68_method_32_code, exceptionTable := #[], attributes := #[] }
def k8m6 : Method := { name := "append", desc := "(I)Ljava/lang/AbstractStringBuilder;", sig := { parameters := [.int], returnType := some (.object "java/lang/AbstractStringBuilder") }, accessFlags := 1, code := some k8c6 }
def k8c7 : Code := { maxStack := 1, maxLocals := 1, code := jdk_68_method_64_code, exceptionTable := #[], attributes := #[] }
def k8m7 : Method := { name := "getValue", desc := "()[B", sig := { parameters := [], returnType := some (.array .byte) }, accessFlags := 16, code := some k8c7 }
def k8c8 : Code := { maxStack := 1, maxLocals := 1, code := jdk_68_method_68_code, exceptionTable := #[], attributes := #[] }
def k8m8 : Method := { name := "isLatin1", desc := "()Z", sig := { parameters := [], returnType := some .boolean }, accessFlags := 16, code := some k8c8 }
def k8c9 : Code := { maxStack := 2, maxLocals := 2, code := jdk_68_method_71_code, exceptionTable := #[], attributes := #[] }
def k8m9 : Method := { name := "inflateIfNeededFor", desc := "(Ljava/lang/String;)V", sig := { parameters := [(.object "java/lang/String")], returnType := none }, accessFlags := 2, code := some k8c9 }
def k8c10 : Code := { maxStack := 4, maxLocals := 3, code := jdk_68_method_73_code, exceptionTable := #[], attributes := #[] }
def k8m10 : Method := { name := "putStringAt", desc := "(ILjava/lang/String;)V", sig := { parameters := [.int, (.object "java/lang/String")], returnType := none }, accessFlags := 2, code := some k8c10 }
/-- java/lang/AbstractStringBuilder -/
def k8 : Class := { plain "java/lang/AbstractStringBuilder" (some 0) with
  accessFlags := 1056
  interfaces := #[6, 7]
  cf := some (fileOf pool8 10 #[] #[{ accessFlags := 0, nameIndex := 7, descriptorIndex := 8, attributes := #[] }, { accessFlags := 0, nameIndex := 7, descriptorIndex := 103, attributes := #[] }, { accessFlags := 1, nameIndex := 34, descriptorIndex := 35, attributes := #[] }, { accessFlags := 2, nameIndex := 102, descriptorIndex := 103, attributes := #[] }, { accessFlags := 2, nameIndex := 106, descriptorIndex := 107, attributes := #[] }, { accessFlags := 1, nameIndex := 45, descriptorIndex := 46, attributes := #[] }, { accessFlags := 1, nameIndex := 45, descriptorIndex := 511, attributes := #[] }, { accessFlags := 16, nameIndex := 552, descriptorIndex := 403, attributes := #[] }, { accessFlags := 16, nameIndex := 85, descriptorIndex := 86, attributes := #[] }, { accessFlags := 2, nameIndex := 217, descriptorIndex := 69, attributes := #[] }, { accessFlags := 2, nameIndex := 210, descriptorIndex := 211, attributes := #[] }] 1056 4 #[444, 48] #[{ accessFlags := 0, nameIndex := 17, descriptorIndex := 14, attributes := #[] }, { accessFlags := 0, nameIndex := 24, descriptorIndex := 25, attributes := #[] }, { accessFlags := 0, nameIndex := 75, descriptorIndex := 21, attributes := #[] }, { accessFlags := 0, nameIndex := 81, descriptorIndex := 82, attributes := #[] }, { accessFlags := 26, nameIndex := 13, descriptorIndex := 14, attributes := #[] }])
  fields := #[{ name := "value", type := (.array .byte), accessFlags := 0, slot := 0, constantValue := 0 }, { name := "coder", type := .byte, accessFlags := 0, slot := 1, constantValue := 0 }, { name := "maybeLatin1", type := .boolean, accessFlags := 0, slot := 2, constantValue := 0 }, { name := "count", type := .int, accessFlags := 0, slot := 3, constantValue := 0 }, { name := "EMPTYVALUE", type := (.array .byte), accessFlags := 26, slot := 0, constantValue := 0 }]
  methods := #[k8m0, k8m1, k8m2, k8m3, k8m4, k8m5, k8m6, k8m7, k8m8, k8m9, k8m10]
  instanceTypes := #[(.array .byte), .byte, .boolean, .int]
  staticTypes := #[(.array .byte)]
  resolved := Array.replicate 609 none
  statics := none }

def pool9 : Array CpInfo := pool [(1, .class_ 2), (0, u "java/lang/Comparable"), (0, .class_ 4), (0, u "java/lang/Object")] 7

/-- java/lang/Comparable -/
def k9 : Class := { plain "java/lang/Comparable" (some 0) with
  accessFlags := 1537
  interfaces := #[]
  cf := some (fileOf pool9 1 #[] #[] 1537 3 #[] #[])
  fields := #[]
  methods := #[]
  instanceTypes := #[]
  staticTypes := #[]
  resolved := Array.replicate 12 none
  statics := none }

def pool10 : Array CpInfo := pool [(1, .methodref 2 3), (0, .class_ 4), (0, .nameAndType 5 6), (0, u "java/lang/AbstractStringBuilder"), (0, u "<init>"), (0, u "(I)V"), (11, .class_ 20), (1, u "java/lang/String"), (3, .class_ 26), (1, u "java/lang/StringBuilder"), (0, u "append"), (0, u "(Ljava/lang/String;)Ljava/lang/StringBuilder;"), (0, .methodref 2 30), (0, .nameAndType 27 31), (0, u "(Ljava/lang/String;)Ljava/lang/AbstractStringBuilder;"), (21, .methodref 2 54), (0, .nameAndType 27 55), (0, u "(I)Ljava/lang/AbstractStringBuilder;"), (81, .methodref 18 138), (0, .nameAndType 5 139), (0, u "(Ljava/lang/StringBuilder;)V"), (5, u "()V"), (10, u "()I"), (111, u "(I)Ljava/lang/StringBuilder;"), (74, .methodref 2 344), (0, .nameAndType 345 156), (0, u "length"), (3, .class_ 350), (0, u "java/lang/Appendable"), (0, .class_ 352), (0, u "java/io/Serializable"), (0, .class_ 354), (0, u "java/lang/Comparable"), (0, .class_ 356), (0, u "java/lang/CharSequence"), (0, u "serialVersionUID"), (0, u "J"), (40, u "toString"), (0, u "()Ljava/lang/String;")] 21

def k10c0 : Code := { maxStack := 2, maxLocals := 1, code := jdk_67_method_1_code, exceptionTable := #[], attributes := #[] }
def k10m0 : Method := { name := "<init>", desc := "()V", sig := { parameters := [], returnType := none }, accessFlags := 1, code := some k10c0 }
def k10c1 : Code := { maxStack := 2, maxLocals := 2, code := jdk_67_method_7_code, exceptionTable := #[], attributes := #[] }
def k10m1 : Method := { name := "append", desc := "(Ljava/lang/String;)Ljava/lang/StringBuilder;", sig := { parameters := [(.object "java/lang/String")], returnType := some (.object "java/lang/StringBuilder") }, accessFlags := 1, code := some k10c1 }
def k10c2 : Code := { maxStack := 2, maxLocals := 2, code := jdk_67_method_15_code, exceptionTable := #[], attributes := #[] }
def k10m2 : Method := { name := "append", desc := "(I)Ljava/lang/StringBuilder;", sig := { parameters := [.int], returnType := some (.object "java/lang/StringBuilder") }, accessFlags := 1, code := some k10c2 }
def k10c3 : Code := { maxStack := 3, maxLocals := 1, code := jdk_67_method_42_code, exceptionTable := #[], attributes := #[] }
def k10m3 : Method := { name := "toString", desc := "()Ljava/lang/String;", sig := { parameters := [], returnType := some (.object "java/lang/String") }, accessFlags := 1, code := some k10c3 }
def k10c4 : Code := { maxStack := 1, maxLocals := 1, code := jdk_67_method_93_code, exceptionTable := #[], attributes := #[] }
def k10m4 : Method := { name := "length", desc := "()I", sig := { parameters := [], returnType := some .int }, accessFlags := 4161, code := some k10c4 }
/-- java/lang/StringBuilder -/
def k10 : Class := { plain "java/lang/StringBuilder" (some 8) with
  accessFlags := 49
  interfaces := #[6, 2, 9, 7]
  cf := some (fileOf pool10 24 #[] #[{ accessFlags := 1, nameIndex := 5, descriptorIndex := 145, attributes := #[] }, { accessFlags := 1, nameIndex := 27, descriptorIndex := 28, attributes := #[] }, { accessFlags := 1, nameIndex := 27, descriptorIndex := 268, attributes := #[] }, { accessFlags := 1, nameIndex := 399, descriptorIndex := 400, attributes := #[] }, { accessFlags := 4161, nameIndex := 345, descriptorIndex := 156, attributes := #[] }] 49 2 #[349, 351, 353, 355] #[{ accessFlags := 24, nameIndex := 357, descriptorIndex := 358, attributes := #[] }])
  fields := #[{ name := "serialVersionUID", type := .long, accessFlags := 24, slot := 0, constantValue := 0 }]
  methods := #[k10m0, k10m1, k10m2, k10m3, k10m4]
  instanceTypes := #[(.array .byte), .byte, .boolean, .int]
  staticTypes := #[.long]
  resolved := Array.replicate 422 none
  statics := none }

def pool11 : Array CpInfo := pool [(1, .class_ 2), (0, u "java/lang/constant/Constable"), (0, .class_ 4), (0, u "java/lang/Object")] 6

/-- java/lang/constant/Constable -/
def k11 : Class := { plain "java/lang/constant/Constable" (some 0) with
  accessFlags := 1537
  interfaces := #[]
  cf := some (fileOf pool11 1 #[] #[] 1537 3 #[] #[])
  fields := #[]
  methods := #[]
  instanceTypes := #[]
  staticTypes := #[]
  resolved := Array.replicate 11 none
  statics := none }

def pool12 : Array CpInfo := pool [(1, .class_ 2), (0, u "java/lang/constant/ConstantDesc"), (0, .class_ 4), (0, u "java/lang/Object")] 32

/-- java/lang/constant/ConstantDesc -/
def k12 : Class := { plain "java/lang/constant/ConstantDesc" (some 0) with
  accessFlags := 1537
  interfaces := #[]
  cf := some (fileOf pool12 1 #[] #[] 1537 3 #[] #[])
  fields := #[]
  methods := #[]
  instanceTypes := #[]
  staticTypes := #[]
  resolved := Array.replicate 37 none
  statics := none }

def pool13 : Array CpInfo := pool [(1, .methodref 2 3), (0, .class_ 4), (0, .nameAndType 5 6), (0, u "java/lang/Object"), (0, u "<init>"), (0, u "()V"), (2, .fieldref 10 11), (0, .class_ 12), (0, .nameAndType 13 14), (0, u "java/lang/String"), (0, u "value"), (0, u "[B"), (0, .fieldref 10 16), (0, .nameAndType 17 18), (0, u "coder"), (0, u "B"), (2, u "hash"), (0, u "I"), (2, u "hashIsZero"), (0, u "Z"), (11, .fieldref 10 39), (0, .nameAndType 40 26), (0, u "COMPACT_STRINGS"), (13, .methodref 55 56), (0, .class_ 57), (0, .nameAndType 58 59), (0, u "java/util/Arrays"), (0, u "copyOfRange"), (0, u "([BII)[B"), (82, u "()Z"), (50, .class_ 195), (1, u "java/lang/System"), (16, .methodref 193 213), (0, .nameAndType 214 215), (0, u "arraycopy"), (0, u "(Ljava/lang/Object;ILjava/lang/Object;II)V"), (118, u "()I"), (0, .methodref 10 336), (0, .nameAndType 17 337), (0, u "()B"), (2, u "()[B"), (148, .methodref 10 490), (0, .nameAndType 5 491), (0, u "(Ljava/lang/AbstractStringBuilder;Ljava/lang/Void;)V"), (1, .nameAndType 494 142), (0, u "isLatin1"), (11, .nameAndType 507 334), (0, u "length"), (24, u "getBytes"), (16, .methodref 550 506), (0, .class_ 551), (0, u "java/lang/AbstractStringBuilder"), (0, .methodref 550 553), (0, .nameAndType 554 340), (0, u "getValue"), (20, .class_ 576), (0, u "java/lang/CharSequence"), (22, u "CASE_INSENSITIVE_ORDER"), (0, u "Ljava/util/Comparator;"), (220, u "([BIB)V"), (225, .methodref 550 493), (53, u "serialPersistentFields"), (0, u "[Ljava/io/ObjectStreamField;"), (0, .class_ 1104), (0, u "java/lang/String$CaseInsensitiveComparator"), (1, .class_ 1107), (0, u "java/io/Serializable"), (0, .class_ 1109), (0, u "java/lang/Comparable"), (0, .class_ 1111), (0, u "java/lang/constant/Constable"), (0, .class_ 1113), (0, u "java/lang/constant/ConstantDesc"), (2, u "serialVersionUID"), (0, u "J"), (3, u "REPL"), (0, u "C"), (2, u "LATIN1"), (1, u "UTF16"), (105, u "(Ljava/lang/StringBuilder;)V")] 217

def k13m0 : Method := { name := "<init>", desc := "()V", sig := { parameters := [], returnType := none }, accessFlags := 1, code := none }
def k13c1 : Code := { maxStack := 3, maxLocals := 2, code := jdk_42_method_53_code, exceptionTable := #[], attributes := #[] }
def k13m1 : Method := { name := "<init>", desc := "(Ljava/lang/StringBuilder;)V", sig := { parameters := [(.object "java/lang/StringBuilder")], returnType := none }, accessFlags := 1, code := some k13c1 }
def k13c2 : Code := { maxStack := 2, maxLocals := 1, code := jdk_42_method_54_code, exceptionTable := #[], attributes := #[] }
def k13m2 : Method := { name := "length", desc := "()I", sig := { parameters := [], returnType := some .int }, accessFlags := 1, code := some k13c2 }
def k13c3 : Code := { maxStack := 5, maxLocals := 4, code := jdk_42_method_147_code, exceptionTable := #[], attributes := #[] }
def k13m3 : Method := { name := "getBytes", desc := "([BIB)V", sig := { parameters := [(.array .byte), .int, .byte], returnType := none }, accessFlags := 0, code := some k13c3 }
def k13c4 : Code := { maxStack := 5, maxLocals := 5, code := jdk_42_method_150_code, exceptionTable := #[], attributes := #[] }
def k13m4 : Method := { name := "<init>", desc := "(Ljava/lang/AbstractStringBuilder;Ljava/lang/Void;)V", sig := { parameters := [(.object "java/lang/AbstractStringBuilder"), (.object "java/lang/Void")], returnType := none }, accessFlags := 0, code := some k13c4 }
def k13c5 : Code := { maxStack := 1, maxLocals := 1, code := jdk_42_method_152_code, exceptionTable := #[], attributes := #[] }
def k13m5 : Method := { name := "coder", desc := "()B", sig := { parameters := [], returnType := some .byte }, accessFlags := 0, code := some k13c5 }
/-- java/lang/String -/
def k13 : Class := { plain "java/lang/String" (some 0) with
  accessFlags := 49
  interfaces := #[2, 9, 7, 11, 12]
  cf := some (fileOf pool13 10 #[.nestMembers #[1103]] #[{ accessFlags := 1, nameIndex := 5, descriptorIndex := 6, attributes := #[] }, { accessFlags := 1, nameIndex := 5, descriptorIndex := 1233, attributes := #[] }, { accessFlags := 1, nameIndex := 507, descriptorIndex := 334, attributes := #[] }, { accessFlags := 0, nameIndex := 532, descriptorIndex := 821, attributes := #[] }, { accessFlags := 0, nameIndex := 5, descriptorIndex := 491, attributes := #[] }, { accessFlags := 0, nameIndex := 17, descriptorIndex := 337, attributes := #[] }] 49 2 #[1106, 1108, 575, 1110, 1112] #[{ accessFlags := 18, nameIndex := 13, descriptorIndex := 14, attributes := #[] }, { accessFlags := 18, nameIndex := 17, descriptorIndex := 18, attributes := #[] }, { accessFlags := 2, nameIndex := 21, descriptorIndex := 22, attributes := #[] }, { accessFlags := 2, nameIndex := 25, descriptorIndex := 26, attributes := #[] }, { accessFlags := 26, nameIndex := 1116, descriptorIndex := 1117, attributes := #[] }, { accessFlags := 24, nameIndex := 40, descriptorIndex := 26, attributes := #[] }, { accessFlags := 26, nameIndex := 1101, descriptorIndex := 1102, attributes := #[] }, { accessFlags := 26, nameIndex := 1121, descriptorIndex := 1122, attributes := #[] }, { accessFlags := 25, nameIndex := 599, descriptorIndex := 600, attributes := #[] }, { accessFlags := 24, nameIndex := 1125, descriptorIndex := 18, attributes := #[] }, { accessFlags := 24, nameIndex := 1127, descriptorIndex := 18, attributes := #[] }])
  fields := #[{ name := "value", type := (.array .byte), accessFlags := 18, slot := 0, constantValue := 0 }, { name := "coder", type := .byte, accessFlags := 18, slot := 1, constantValue := 0 }, { name := "hash", type := .int, accessFlags := 2, slot := 2, constantValue := 0 }, { name := "hashIsZero", type := .boolean, accessFlags := 2, slot := 3, constantValue := 0 }, { name := "serialVersionUID", type := .long, accessFlags := 26, slot := 0, constantValue := 0 }, { name := "COMPACT_STRINGS", type := .boolean, accessFlags := 24, slot := 1, constantValue := 0 }, { name := "serialPersistentFields", type := (.array (.object "java/io/ObjectStreamField")), accessFlags := 26, slot := 2, constantValue := 0 }, { name := "REPL", type := .char, accessFlags := 26, slot := 3, constantValue := 0 }, { name := "CASE_INSENSITIVE_ORDER", type := (.object "java/util/Comparator"), accessFlags := 25, slot := 4, constantValue := 0 }, { name := "LATIN1", type := .byte, accessFlags := 24, slot := 5, constantValue := 0 }, { name := "UTF16", type := .byte, accessFlags := 24, slot := 6, constantValue := 0 }]
  methods := #[k13m0, k13m1, k13m2, k13m3, k13m4, k13m5]
  instanceTypes := #[(.array .byte), .byte, .int, .boolean]
  staticTypes := #[.long, .boolean, (.array (.object "java/io/ObjectStreamField")), .char, (.object "java/util/Comparator"), .byte, .byte]
  resolved := Array.replicate 1451 none
  statics := some 1 }

def pool14 : Array CpInfo := pool [(9, u "<init>"), (6, .class_ 18), (1, u "java/lang/Object"), (0, u "()V"), (1, .class_ 23), (1, u "jdk/internal/util/ArraysSupport"), (0, u "LOG2_ARRAY_LONG_INDEX_SCALE"), (0, u "I"), (2, u "U"), (0, u "Ljdk/internal/misc/Unsafe;"), (8, u "BIG_ENDIAN"), (0, u "Z"), (8, u "LOG2_BYTE_BIT_SIZE"), (4, u "LOG2_ARRAY_INT_INDEX_SCALE"), (54, u "JLA"), (0, u "Ljdk/internal/access/JavaLangAccess;"), (11, u "LOG2_ARRAY_BOOLEAN_INDEX_SCALE"), (9, u "LOG2_ARRAY_BYTE_INDEX_SCALE"), (5, u "LOG2_ARRAY_CHAR_INDEX_SCALE"), (5, u "LOG2_ARRAY_SHORT_INDEX_SCALE"), (18, u "LOG2_ARRAY_FLOAT_INDEX_SCALE"), (24, u "LOG2_ARRAY_DOUBLE_INDEX_SCALE"), (6, .methodref 195 196), (0, .class_ 197), (0, .nameAndType 198 199), (0, u "java/lang/Math"), (0, u "max"), (0, u "(II)I"), (0, .integer 2147483639), (76, u "T_BOOLEAN"), (2, u "T_CHAR"), (1, u "T_FLOAT"), (1, u "T_DOUBLE"), (1, u "T_BYTE"), (1, u "T_SHORT"), (1, u "T_INT"), (1, u "T_LONG"), (1, u "SOFT_MAX_ARRAY_LENGTH"), (56, u "newLength"), (0, u "(III)I")] 25

def k14m0 : Method := { name := "<init>", desc := "()V", sig := { parameters := [], returnType := none }, accessFlags := 2, code := none }
def k14c1 : Code := { maxStack := 3, maxLocals := 4, code := jdk_48_method_27_code, exceptionTable := #[], attributes := #[] }
def k14m1 : Method := { name := "newLength", desc := "(III)I", sig := { parameters := [.int, .int, .int], returnType := some .int }, accessFlags := 9, code := some k14c1 }
/-- jdk/internal/util/ArraysSupport -/
def k14 : Class := { plain "jdk/internal/util/ArraysSupport" (some 0) with
  accessFlags := 33
  interfaces := #[]
  cf := some (fileOf pool14 21 #[] #[{ accessFlags := 2, nameIndex := 9, descriptorIndex := 19, attributes := #[] }, { accessFlags := 9, nameIndex := 351, descriptorIndex := 352, attributes := #[] }] 33 16 #[] #[{ accessFlags := 24, nameIndex := 28, descriptorIndex := 29, attributes := #[] }, { accessFlags := 26, nameIndex := 38, descriptorIndex := 39, attributes := #[] }, { accessFlags := 25, nameIndex := 121, descriptorIndex := 25, attributes := #[] }, { accessFlags := 25, nameIndex := 131, descriptorIndex := 25, attributes := #[] }, { accessFlags := 25, nameIndex := 137, descriptorIndex := 25, attributes := #[] }, { accessFlags := 25, nameIndex := 143, descriptorIndex := 25, attributes := #[] }, { accessFlags := 25, nameIndex := 53, descriptorIndex := 25, attributes := #[] }, { accessFlags := 25, nameIndex := 24, descriptorIndex := 25, attributes := #[] }, { accessFlags := 25, nameIndex := 162, descriptorIndex := 25, attributes := #[] }, { accessFlags := 25, nameIndex := 187, descriptorIndex := 25, attributes := #[] }, { accessFlags := 26, nameIndex := 48, descriptorIndex := 25, attributes := #[] }, { accessFlags := 25, nameIndex := 277, descriptorIndex := 25, attributes := #[] }, { accessFlags := 25, nameIndex := 280, descriptorIndex := 25, attributes := #[] }, { accessFlags := 25, nameIndex := 282, descriptorIndex := 25, attributes := #[] }, { accessFlags := 25, nameIndex := 284, descriptorIndex := 25, attributes := #[] }, { accessFlags := 25, nameIndex := 286, descriptorIndex := 25, attributes := #[] }, { accessFlags := 25, nameIndex := 288, descriptorIndex := 25, attributes := #[] }, { accessFlags := 25, nameIndex := 290, descriptorIndex := 25, attributes := #[] }, { accessFlags := 25, nameIndex := 292, descriptorIndex := 25, attributes := #[] }, { accessFlags := 26, nameIndex := 108, descriptorIndex := 109, attributes := #[] }, { accessFlags := 25, nameIndex := 294, descriptorIndex := 25, attributes := #[] }])
  fields := #[{ name := "U", type := (.object "jdk/internal/misc/Unsafe"), accessFlags := 24, slot := 0, constantValue := 0 }, { name := "BIG_ENDIAN", type := .boolean, accessFlags := 26, slot := 1, constantValue := 0 }, { name := "LOG2_ARRAY_BOOLEAN_INDEX_SCALE", type := .int, accessFlags := 25, slot := 2, constantValue := 0 }, { name := "LOG2_ARRAY_BYTE_INDEX_SCALE", type := .int, accessFlags := 25, slot := 3, constantValue := 0 }, { name := "LOG2_ARRAY_CHAR_INDEX_SCALE", type := .int, accessFlags := 25, slot := 4, constantValue := 0 }, { name := "LOG2_ARRAY_SHORT_INDEX_SCALE", type := .int, accessFlags := 25, slot := 5, constantValue := 0 }, { name := "LOG2_ARRAY_INT_INDEX_SCALE", type := .int, accessFlags := 25, slot := 6, constantValue := 0 }, { name := "LOG2_ARRAY_LONG_INDEX_SCALE", type := .int, accessFlags := 25, slot := 7, constantValue := 0 }, { name := "LOG2_ARRAY_FLOAT_INDEX_SCALE", type := .int, accessFlags := 25, slot := 8, constantValue := 0 }, { name := "LOG2_ARRAY_DOUBLE_INDEX_SCALE", type := .int, accessFlags := 25, slot := 9, constantValue := 0 }, { name := "LOG2_BYTE_BIT_SIZE", type := .int, accessFlags := 26, slot := 10, constantValue := 0 }, { name := "T_BOOLEAN", type := .int, accessFlags := 25, slot := 11, constantValue := 0 }, { name := "T_CHAR", type := .int, accessFlags := 25, slot := 12, constantValue := 0 }, { name := "T_FLOAT", type := .int, accessFlags := 25, slot := 13, constantValue := 0 }, { name := "T_DOUBLE", type := .int, accessFlags := 25, slot := 14, constantValue := 0 }, { name := "T_BYTE", type := .int, accessFlags := 25, slot := 15, constantValue := 0 }, { name := "T_SHORT", type := .int, accessFlags := 25, slot := 16, constantValue := 0 }, { name := "T_INT", type := .int, accessFlags := 25, slot := 17, constantValue := 0 }, { name := "T_LONG", type := .int, accessFlags := 25, slot := 18, constantValue := 0 }, { name := "JLA", type := (.object "jdk/internal/access/JavaLangAccess"), accessFlags := 26, slot := 19, constantValue := 0 }, { name := "SOFT_MAX_ARRAY_LENGTH", type := .int, accessFlags := 25, slot := 20, constantValue := 0 }]
  methods := #[k14m0, k14m1]
  instanceTypes := #[]
  staticTypes := #[(.object "jdk/internal/misc/Unsafe"), .boolean, .int, .int, .int, .int, .int, .int, .int, .int, .int, .int, .int, .int, .int, .int, .int, .int, .int, (.object "jdk/internal/access/JavaLangAccess"), .int]
  resolved := Array.replicate 378 none
  statics := none }

def pool15 : Array CpInfo := pool [(1, .class_ 2), (0, u "java/lang/Math"), (1, .class_ 6), (1, u "java/lang/Object"), (0, u "<init>"), (0, u "()V"), (89, .class_ 100), (1, u "java/lang/Math$RandomNumberGeneratorHolder"), (71, u "negativeZeroFloatBits"), (0, u "J"), (2, u "negativeZeroDoubleBits"), (21, u "max"), (2, u "min"), (43, u "$assertionsDisabled"), (0, u "Z"), (88, u "(II)I"), (2, u "twoToTheDoubleScaleDown"), (0, u "D"), (4, u "twoToTheDoubleScaleUp"), (9, u "E"), (3, u "PI"), (2, u "TAU"), (2, u "DEGREES_TO_RADIANS"), (0, u "RADIANS_TO_DEGREES")] 94

def k15m0 : Method := { name := "<init>", desc := "()V", sig := { parameters := [], returnType := none }, accessFlags := 2, code := none }
def k15c1 : Code := { maxStack := 2, maxLocals := 2, code := jdk_29_method_65_code, exceptionTable := #[], attributes := #[] }
def k15m1 : Method := { name := "max", desc := "(II)I", sig := { parameters := [.int, .int], returnType := some .int }, accessFlags := 9, code := some k15c1 }
def k15c2 : Code := { maxStack := 2, maxLocals := 2, code := jdk_29_method_69_code, exceptionTable := #[], attributes := #[] }
def k15m2 : Method := { name := "min", desc := "(II)I", sig := { parameters := [.int, .int], returnType := some .int }, accessFlags := 9, code := some k15c2 }
/-- java/lang/Math -/
def k15 : Class := { plain "java/lang/Math" (some 0) with
  accessFlags := 49
  interfaces := #[]
  cf := some (fileOf pool15 1 #[.nestMembers #[98]] #[{ accessFlags := 2, nameIndex := 7, descriptorIndex := 8, attributes := #[] }, { accessFlags := 9, nameIndex := 198, descriptorIndex := 335, attributes := #[] }, { accessFlags := 9, nameIndex := 201, descriptorIndex := 335, attributes := #[] }] 49 4 #[] #[{ accessFlags := 25, nameIndex := 354, descriptorIndex := 339, attributes := #[] }, { accessFlags := 25, nameIndex := 358, descriptorIndex := 339, attributes := #[] }, { accessFlags := 25, nameIndex := 361, descriptorIndex := 339, attributes := #[] }, { accessFlags := 26, nameIndex := 364, descriptorIndex := 339, attributes := #[] }, { accessFlags := 26, nameIndex := 365, descriptorIndex := 339, attributes := #[] }, { accessFlags := 26, nameIndex := 172, descriptorIndex := 173, attributes := #[] }, { accessFlags := 26, nameIndex := 176, descriptorIndex := 173, attributes := #[] }, { accessFlags := 8, nameIndex := 344, descriptorIndex := 339, attributes := #[] }, { accessFlags := 8, nameIndex := 338, descriptorIndex := 339, attributes := #[] }, { accessFlags := 4120, nameIndex := 245, descriptorIndex := 246, attributes := #[] }])
  fields := #[{ name := "E", type := .double, accessFlags := 25, slot := 0, constantValue := 0 }, { name := "PI", type := .double, accessFlags := 25, slot := 1, constantValue := 0 }, { name := "TAU", type := .double, accessFlags := 25, slot := 2, constantValue := 0 }, { name := "DEGREES_TO_RADIANS", type := .double, accessFlags := 26, slot := 3, constantValue := 0 }, { name := "RADIANS_TO_DEGREES", type := .double, accessFlags := 26, slot := 4, constantValue := 0 }, { name := "negativeZeroFloatBits", type := .long, accessFlags := 26, slot := 5, constantValue := 0 }, { name := "negativeZeroDoubleBits", type := .long, accessFlags := 26, slot := 6, constantValue := 0 }, { name := "twoToTheDoubleScaleUp", type := .double, accessFlags := 8, slot := 7, constantValue := 0 }, { name := "twoToTheDoubleScaleDown", type := .double, accessFlags := 8, slot := 8, constantValue := 0 }, { name := "$assertionsDisabled", type := .boolean, accessFlags := 4120, slot := 9, constantValue := 0 }]
  methods := #[k15m0, k15m1, k15m2]
  instanceTypes := #[]
  staticTypes := #[.double, .double, .double, .double, .double, .long, .long, .double, .double, .boolean]
  resolved := Array.replicate 460 none
  statics := none }

def pool16 : Array CpInfo := pool [(2, .class_ 4), (1, u "java/lang/Object"), (0, u "<init>"), (0, u "()V"), (7, .class_ 16), (1, u "java/util/Arrays"), (57, .class_ 76), (1, u "java/util/Arrays$NaturalOrder"), (36, .class_ 115), (1, u "java/util/Arrays$LegacyMergeSort"), (1, u "Z"), (21, u "copyOfRange"), (10, .methodref 151 152), (0, .class_ 153), (0, .nameAndType 154 155), (0, u "java/lang/System"), (0, u "arraycopy"), (0, u "(Ljava/lang/Object;ILjava/lang/Object;II)V"), (146, u "copyOf"), (1, .methodref 305 306), (0, .class_ 307), (0, .nameAndType 308 309), (0, u "java/lang/Math"), (0, u "min"), (0, u "(II)I"), (29, .methodref 14 340), (0, .nameAndType 341 342), (0, u "copyOfRangeByte"), (0, u "([BII)[B"), (0, .methodref 14 344), (0, .nameAndType 345 346), (0, u "checkLength"), (0, u "(II)V"), (28, .class_ 376), (0, u "java/util/Arrays$ArrayList"), (68, u "$assertionsDisabled"), (269, u "MIN_ARRAY_SORT_GRAN"), (0, u "I"), (2, u "INSERTIONSORT_THRESHOLD"), (149, u "([BI)[B"), (105, .class_ 976), (0, u "java/util/Arrays$ArrayItr")] 52

def k16m0 : Method := { name := "<init>", desc := "()V", sig := { parameters := [], returnType := none }, accessFlags := 2, code := none }
def k16c1 : Code := { maxStack := 6, maxLocals := 3, code := jdk_65_method_121_code, exceptionTable := #[], attributes := #[] }
def k16m1 : Method := { name := "copyOf", desc := "([BI)[B", sig := { parameters := [(.array .byte), .int], returnType := some (.array .byte) }, accessFlags := 9, code := some k16c1 }
def k16c2 : Code := { maxStack := 4, maxLocals := 2, code := jdk_65_method_131_code, exceptionTable := #[], attributes := #[] }
def k16m2 : Method := { name := "checkLength", desc := "(II)V", sig := { parameters := [.int, .int], returnType := none }, accessFlags := 10, code := some k16c2 }
def k16c3 : Code := { maxStack := 3, maxLocals := 3, code := jdk_65_method_132_code, exceptionTable := #[], attributes := #[] }
def k16m3 : Method := { name := "copyOfRange", desc := "([BII)[B", sig := { parameters := [(.array .byte), .int, .int], returnType := some (.array .byte) }, accessFlags := 9, code := some k16c3 }
def k16c4 : Code := { maxStack := 6, maxLocals := 5, code := jdk_65_method_133_code, exceptionTable := #[], attributes := #[] }
def k16m4 : Method := { name := "copyOfRangeByte", desc := "([BII)[B", sig := { parameters := [(.array .byte), .int, .int], returnType := some (.array .byte) }, accessFlags := 10, code := some k16c4 }
/-- java/util/Arrays -/
def k16 : Class := { plain "java/util/Arrays" (some 0) with
  accessFlags := 49
  interfaces := #[]
  cf := some (fileOf pool16 14 #[.nestMembers #[975, 375, 113, 74]] #[{ accessFlags := 2, nameIndex := 5, descriptorIndex := 6, attributes := #[] }, { accessFlags := 9, nameIndex := 302, descriptorIndex := 869, attributes := #[] }, { accessFlags := 10, nameIndex := 345, descriptorIndex := 346, attributes := #[] }, { accessFlags := 9, nameIndex := 139, descriptorIndex := 342, attributes := #[] }, { accessFlags := 10, nameIndex := 341, descriptorIndex := 342, attributes := #[] }] 49 2 #[] #[{ accessFlags := 26, nameIndex := 715, descriptorIndex := 716, attributes := #[] }, { accessFlags := 26, nameIndex := 719, descriptorIndex := 716, attributes := #[] }, { accessFlags := 4120, nameIndex := 445, descriptorIndex := 117, attributes := #[] }])
  fields := #[{ name := "MIN_ARRAY_SORT_GRAN", type := .int, accessFlags := 26, slot := 0, constantValue := 0 }, { name := "INSERTIONSORT_THRESHOLD", type := .int, accessFlags := 26, slot := 1, constantValue := 0 }, { name := "$assertionsDisabled", type := .boolean, accessFlags := 4120, slot := 2, constantValue := 0 }]
  methods := #[k16m0, k16m1, k16m2, k16m3, k16m4]
  instanceTypes := #[]
  staticTypes := #[.int, .int, .boolean]
  resolved := Array.replicate 1029 none
  statics := none }

def pool17 : Array CpInfo := pool [(2, .class_ 4), (1, u "java/lang/Object"), (0, u "<init>"), (0, u "()V"), (1, .class_ 10), (1, u "java/lang/System"), (0, u "allowSecurityManager"), (0, u "I"), (16, u "cons"), (0, u "Ljava/io/Console;"), (77, .class_ 110), (1, u "java/lang/System$CallersHolder"), (43, u "initialErrStream"), (0, u "Ljava/io/PrintStream;"), (19, u "security"), (0, u "Ljava/lang/SecurityManager;"), (31, .class_ 209), (0, u "java/lang/System$1"), (7, u "props"), (0, u "Ljava/util/Properties;"), (2, u "lineSeparator"), (0, u "Ljava/lang/String;"), (96, .class_ 321), (1, u "java/lang/System$LoggerFinder"), (5, .class_ 328), (0, u "java/lang/System$Logger"), (67, u "err"), (2, u "out"), (91, u "notSupportedJnuEncoding"), (15, u "in"), (17, u "initialIn"), (0, u "Ljava/io/InputStream;"), (35, u "bootLayer"), (0, u "Ljava/lang/ModuleLayer;"), (99, .class_ 664), (0, u "java/lang/System$2"), (9, u "NEVER"), (2, u "MAYBE"), (49, u "arraycopy"), (0, u "(Ljava/lang/Object;ILjava/lang/Object;II)V"), (72, .class_ 802), (0, u "java/lang/System$Logger$Level")] 31

def k17m0 : Method := { name := "<init>", desc := "()V", sig := { parameters := [], returnType := none }, accessFlags := 2, code := none }
def k17m1 : Method := { name := "arraycopy", desc := "(Ljava/lang/Object;ILjava/lang/Object;II)V", sig := { parameters := [(.object "java/lang/Object"), .int, (.object "java/lang/Object"), .int, .int], returnType := none }, accessFlags := 265, code := none }
/-- java/lang/System -/
def k17 : Class := { plain "java/lang/System" (some 0) with
  accessFlags := 49
  interfaces := #[]
  cf := some (fileOf pool17 8 #[.nestMembers #[319, 327, 801, 108, 663, 208]] #[{ accessFlags := 2, nameIndex := 5, descriptorIndex := 6, attributes := #[] }, { accessFlags := 265, nameIndex := 727, descriptorIndex := 728, attributes := #[] }] 49 2 #[] #[{ accessFlags := 25, nameIndex := 507, descriptorIndex := 526, attributes := #[] }, { accessFlags := 25, nameIndex := 399, descriptorIndex := 155, attributes := #[] }, { accessFlags := 25, nameIndex := 396, descriptorIndex := 155, attributes := #[] }, { accessFlags := 10, nameIndex := 525, descriptorIndex := 526, attributes := #[] }, { accessFlags := 26, nameIndex := 674, descriptorIndex := 12, attributes := #[] }, { accessFlags := 26, nameIndex := 677, descriptorIndex := 12, attributes := #[] }, { accessFlags := 10, nameIndex := 11, descriptorIndex := 12, attributes := #[] }, { accessFlags := 74, nameIndex := 175, descriptorIndex := 176, attributes := #[] }, { accessFlags := 10, nameIndex := 491, descriptorIndex := 222, attributes := #[] }, { accessFlags := 74, nameIndex := 29, descriptorIndex := 30, attributes := #[] }, { accessFlags := 74, nameIndex := 154, descriptorIndex := 155, attributes := #[] }, { accessFlags := 10, nameIndex := 217, descriptorIndex := 218, attributes := #[] }, { accessFlags := 10, nameIndex := 221, descriptorIndex := 222, attributes := #[] }, { accessFlags := 8, nameIndex := 562, descriptorIndex := 563, attributes := #[] }])
  fields := #[{ name := "in", type := (.object "java/io/InputStream"), accessFlags := 25, slot := 0, constantValue := 0 }, { name := "out", type := (.object "java/io/PrintStream"), accessFlags := 25, slot := 1, constantValue := 0 }, { name := "err", type := (.object "java/io/PrintStream"), accessFlags := 25, slot := 2, constantValue := 0 }, { name := "initialIn", type := (.object "java/io/InputStream"), accessFlags := 10, slot := 3, constantValue := 0 }, { name := "NEVER", type := .int, accessFlags := 26, slot := 4, constantValue := 0 }, { name := "MAYBE", type := .int, accessFlags := 26, slot := 5, constantValue := 0 }, { name := "allowSecurityManager", type := .int, accessFlags := 10, slot := 6, constantValue := 0 }, { name := "security", type := (.object "java/lang/SecurityManager"), accessFlags := 74, slot := 7, constantValue := 0 }, { name := "notSupportedJnuEncoding", type := (.object "java/lang/String"), accessFlags := 10, slot := 8, constantValue := 0 }, { name := "cons", type := (.object "java/io/Console"), accessFlags := 74, slot := 9, constantValue := 0 }, { name := "initialErrStream", type := (.object "java/io/PrintStream"), accessFlags := 74, slot := 10, constantValue := 0 }, { name := "props", type := (.object "java/util/Properties"), accessFlags := 10, slot := 11, constantValue := 0 }, { name := "lineSeparator", type := (.object "java/lang/String"), accessFlags := 10, slot := 12, constantValue := 0 }, { name := "bootLayer", type := (.object "java/lang/ModuleLayer"), accessFlags := 8, slot := 13, constantValue := 0 }]
  methods := #[k17m0, k17m1]
  instanceTypes := #[]
  staticTypes := #[(.object "java/io/InputStream"), (.object "java/io/PrintStream"), (.object "java/io/PrintStream"), (.object "java/io/InputStream"), .int, .int, .int, (.object "java/lang/SecurityManager"), (.object "java/lang/String"), (.object "java/io/Console"), (.object "java/io/PrintStream"), (.object "java/util/Properties"), (.object "java/lang/String"), (.object "java/lang/ModuleLayer")]
  resolved := Array.replicate 834 none
  statics := none }

def pool18 : Array CpInfo := pool [(2, .class_ 4), (1, u "java/lang/Object"), (0, u "<init>"), (0, u "()V"), (1, .class_ 10), (1, u "java/lang/Number"), (2, .class_ 14), (0, u "java/io/Serializable"), (0, u "serialVersionUID"), (0, u "J")] 20

def k18m0 : Method := { name := "<init>", desc := "()V", sig := { parameters := [], returnType := none }, accessFlags := 1, code := none }
/-- java/lang/Number -/
def k18 : Class := { plain "java/lang/Number" (some 0) with
  accessFlags := 1057
  interfaces := #[2]
  cf := some (fileOf pool18 8 #[] #[{ accessFlags := 1, nameIndex := 5, descriptorIndex := 6, attributes := #[] }] 1057 2 #[13] #[{ accessFlags := 26, nameIndex := 15, descriptorIndex := 16, attributes := #[] }])
  fields := #[{ name := "serialVersionUID", type := .long, accessFlags := 26, slot := 0, constantValue := 0 }]
  methods := #[k18m0]
  instanceTypes := #[]
  staticTypes := #[.long]
  resolved := Array.replicate 37 none
  statics := none }

def pool19 : Array CpInfo := pool [(1, .class_ 2), (0, u "java/lang/Integer"), (16, u "digits"), (0, u "[C"), (33, u "(I)I"), (19, u "stringSize"), (2, u "getChars"), (0, u "(II[B)I"), (4, .fieldref 1 84), (0, .nameAndType 85 86), (0, u "DigitOnes"), (0, u "[B"), (0, .fieldref 1 88), (0, .nameAndType 89 86), (0, u "DigitTens"), (99, .class_ 190), (0, u "java/lang/Integer$IntegerCache"), (3, u "I"), (8, .class_ 204), (0, u "java/lang/Number"), (2, u "value"), (94, u "TYPE"), (0, u "Ljava/lang/Class;"), (0, .class_ 305), (0, u "java/lang/Comparable"), (0, .class_ 307), (0, u "java/lang/constant/Constable"), (0, .class_ 309), (0, u "java/lang/constant/ConstantDesc"), (0, u "MIN_VALUE"), (1, u "MAX_VALUE"), (3, u "SIZE"), (1, u "BYTES"), (1, u "serialVersionUID"), (0, u "J")] 131

def k19c0 : Code := { maxStack := 4, maxLocals := 7, code := jdk_33_method_12_code, exceptionTable := #[], attributes := #[] }
def k19m0 : Method := { name := "getChars", desc := "(II[B)I", sig := { parameters := [.int, .int, (.array .byte)], returnType := some .int }, accessFlags := 8, code := some k19c0 }
def k19c1 : Code := { maxStack := 2, maxLocals := 4, code := jdk_33_method_13_code, exceptionTable := #[], attributes := #[] }
def k19m1 : Method := { name := "stringSize", desc := "(I)I", sig := { parameters := [.int], returnType := some .int }, accessFlags := 8, code := some k19c1 }
/-- java/lang/Integer -/
def k19 : Class := { plain "java/lang/Integer" (some 18) with
  accessFlags := 49
  interfaces := #[9, 11, 12]
  cf := some (fileOf pool19 1 #[.nestMembers #[189]] #[{ accessFlags := 8, nameIndex := 77, descriptorIndex := 78, attributes := #[] }, { accessFlags := 8, nameIndex := 74, descriptorIndex := 54, attributes := #[] }] 49 203 #[304, 306, 308] #[{ accessFlags := 25, nameIndex := 310, descriptorIndex := 194, attributes := #[] }, { accessFlags := 25, nameIndex := 312, descriptorIndex := 194, attributes := #[] }, { accessFlags := 25, nameIndex := 302, descriptorIndex := 303, attributes := #[] }, { accessFlags := 24, nameIndex := 19, descriptorIndex := 20, attributes := #[] }, { accessFlags := 24, nameIndex := 89, descriptorIndex := 86, attributes := #[] }, { accessFlags := 24, nameIndex := 85, descriptorIndex := 86, attributes := #[] }, { accessFlags := 18, nameIndex := 207, descriptorIndex := 194, attributes := #[] }, { accessFlags := 25, nameIndex := 316, descriptorIndex := 194, attributes := #[] }, { accessFlags := 25, nameIndex := 318, descriptorIndex := 194, attributes := #[] }, { accessFlags := 26, nameIndex := 320, descriptorIndex := 321, attributes := #[] }])
  fields := #[{ name := "MIN_VALUE", type := .int, accessFlags := 25, slot := 0, constantValue := 0 }, { name := "MAX_VALUE", type := .int, accessFlags := 25, slot := 1, constantValue := 0 }, { name := "TYPE", type := (.object "java/lang/Class"), accessFlags := 25, slot := 2, constantValue := 0 }, { name := "digits", type := (.array .char), accessFlags := 24, slot := 3, constantValue := 0 }, { name := "DigitTens", type := (.array .byte), accessFlags := 24, slot := 4, constantValue := 0 }, { name := "DigitOnes", type := (.array .byte), accessFlags := 24, slot := 5, constantValue := 0 }, { name := "value", type := .int, accessFlags := 18, slot := 0, constantValue := 0 }, { name := "SIZE", type := .int, accessFlags := 25, slot := 6, constantValue := 0 }, { name := "BYTES", type := .int, accessFlags := 25, slot := 7, constantValue := 0 }, { name := "serialVersionUID", type := .long, accessFlags := 26, slot := 8, constantValue := 0 }]
  methods := #[k19m0, k19m1]
  instanceTypes := #[.int]
  staticTypes := #[.int, .int, (.object "java/lang/Class"), (.array .char), (.array .byte), (.array .byte), .int, .int, .long]
  resolved := Array.replicate 453 none
  statics := some 2 }

def pool20 : Array CpInfo := pool [(4, .class_ 6), (1, u "java/lang/Object"), (0, u "<init>"), (0, u "()V"), (5, .class_ 16), (1, u "java/lang/StringLatin1"), (104, u "$assertionsDisabled"), (0, u "Z"), (98, .class_ 223), (1, u "java/lang/StringLatin1$LinesSpliterator"), (166, .class_ 391), (0, u "java/lang/StringLatin1$CharsSpliterator")] 3

def k20m0 : Method := { name := "<init>", desc := "()V", sig := { parameters := [], returnType := none }, accessFlags := 0, code := none }
/-- java/lang/StringLatin1 -/
def k20 : Class := { plain "java/lang/StringLatin1" (some 0) with
  accessFlags := 48
  interfaces := #[]
  cf := some (fileOf pool20 14 #[.nestMembers #[390, 221]] #[{ accessFlags := 0, nameIndex := 7, descriptorIndex := 8, attributes := #[] }] 48 4 #[] #[{ accessFlags := 4120, nameIndex := 121, descriptorIndex := 122, attributes := #[] }])
  fields := #[{ name := "$assertionsDisabled", type := .boolean, accessFlags := 4120, slot := 0, constantValue := 0 }]
  methods := #[k20m0]
  instanceTypes := #[]
  staticTypes := #[.boolean]
  resolved := Array.replicate 395 none
  statics := none }

def pool21 : Array CpInfo := pool [(2, .class_ 4), (1, u "java/lang/Object"), (0, u "<init>"), (0, u "()V"), (17, .class_ 26), (1, u "jdk/internal/util/Preconditions"), (28, .class_ 56), (0, u "jdk/internal/util/Preconditions$4"), (57, .class_ 115), (0, u "jdk/internal/util/Preconditions$1"), (7, u "SIOOBE_FORMATTER"), (0, u "Ljava/util/function/BiFunction;"), (0, .class_ 126), (0, u "jdk/internal/util/Preconditions$2"), (3, u "AIOOBE_FORMATTER"), (0, .class_ 132), (0, u "jdk/internal/util/Preconditions$3"), (3, u "IOOBE_FORMATTER")] 57

def k21m0 : Method := { name := "<init>", desc := "()V", sig := { parameters := [], returnType := none }, accessFlags := 1, code := none }
/-- jdk/internal/util/Preconditions -/
def k21 : Class := { plain "jdk/internal/util/Preconditions" (some 0) with
  accessFlags := 33
  interfaces := #[]
  cf := some (fileOf pool21 24 #[.nestMembers #[55, 131, 125, 114]] #[{ accessFlags := 1, nameIndex := 5, descriptorIndex := 6, attributes := #[] }] 33 2 #[] #[{ accessFlags := 25, nameIndex := 123, descriptorIndex := 124, attributes := #[] }, { accessFlags := 25, nameIndex := 130, descriptorIndex := 124, attributes := #[] }, { accessFlags := 25, nameIndex := 136, descriptorIndex := 124, attributes := #[] }])
  fields := #[{ name := "SIOOBE_FORMATTER", type := (.object "java/util/function/BiFunction"), accessFlags := 25, slot := 0, constantValue := 0 }, { name := "AIOOBE_FORMATTER", type := (.object "java/util/function/BiFunction"), accessFlags := 25, slot := 1, constantValue := 0 }, { name := "IOOBE_FORMATTER", type := (.object "java/util/function/BiFunction"), accessFlags := 25, slot := 2, constantValue := 0 }]
  methods := #[k21m0]
  instanceTypes := #[]
  staticTypes := #[(.object "java/util/function/BiFunction"), (.object "java/util/function/BiFunction"), (.object "java/util/function/BiFunction")]
  resolved := Array.replicate 194 none
  statics := some 3 }

def pool22 : Array CpInfo := pool [(2, .class_ 4), (1, u "java/lang/Object"), (0, u "<init>"), (0, u "()V"), (12, .class_ 20), (0, u "java/util/Collections"), (63, u "r"), (0, u "Ljava/util/Random;"), (80, .class_ 167), (0, u "java/util/Collections$UnmodifiableCollection"), (6, .class_ 175), (0, u "java/util/Collections$UnmodifiableSequencedCollection"), (6, .class_ 183), (0, u "java/util/Collections$UnmodifiableSet"), (6, .class_ 191), (0, u "java/util/Collections$UnmodifiableSequencedSet"), (6, .class_ 199), (0, u "java/util/Collections$UnmodifiableSortedSet"), (6, .class_ 207), (0, u "java/util/Collections$UnmodifiableNavigableSet"), (4, .class_ 213), (0, u "java/util/Collections$UnmodifiableList"), (1, .class_ 216), (0, u "java/util/Collections$UnmodifiableRandomAccessList"), (6, .class_ 224), (0, u "java/util/Collections$UnmodifiableMap"), (6, .class_ 232), (0, u "java/util/Collections$UnmodifiableSequencedMap"), (4, .class_ 238), (0, u "java/util/Collections$UnmodifiableSortedMap"), (6, .class_ 246), (0, u "java/util/Collections$UnmodifiableNavigableMap"), (3, .class_ 251), (0, u "java/util/Collections$SynchronizedCollection"), (4, .class_ 257), (0, u "java/util/Collections$SynchronizedSet"), (4, .class_ 263), (0, u "java/util/Collections$SynchronizedSortedSet"), (1, .class_ 266), (0, u "java/util/Collections$SynchronizedNavigableSet"), (1, .class_ 269), (0, u "java/util/Collections$SynchronizedRandomAccessList"), (1, .class_ 272), (0, u "java/util/Collections$SynchronizedList"), (5, .class_ 279), (0, u "java/util/Collections$SynchronizedMap"), (1, .class_ 282), (0, u "java/util/Collections$SynchronizedSortedMap"), (1, .class_ 285), (0, u "java/util/Collections$SynchronizedNavigableMap"), (1, .class_ 288), (0, u "java/util/Collections$CheckedCollection"), (11, .class_ 301), (0, u "java/util/Collections$CheckedQueue"), (3, .class_ 306), (0, u "java/util/Collections$CheckedSet"), (3, .class_ 311), (0, u "java/util/Collections$CheckedSortedSet"), (3, .class_ 316), (0, u "java/util/Collections$CheckedNavigableSet"), (3, .class_ 321), (0, u "java/util/Collections$CheckedRandomAccessList"), (3, .class_ 326), (0, u "java/util/Collections$CheckedList"), (1, .class_ 329), (0, u "java/util/Collections$CheckedMap"), (3, .class_ 334), (0, u "java/util/Collections$CheckedSortedMap"), (3, .class_ 339), (0, u "java/util/Collections$CheckedNavigableMap"), (4, .class_ 346), (1, u "java/util/Collections$EmptyIterator"), (3, .class_ 352), (1, u "java/util/Collections$EmptyListIterator"), (2, .class_ 357), (1, u "java/util/Collections$EmptyEnumeration"), (4, u "EMPTY_SET"), (0, u "Ljava/util/Set;"), (6, u "EMPTY_LIST"), (0, u "Ljava/util/List;"), (2, u "EMPTY_MAP"), (0, u "Ljava/util/Map;"), (4, .class_ 381), (0, u "java/util/Collections$SingletonSet"), (2, .class_ 385), (0, u "java/util/Collections$1"), (1, .class_ 388), (0, u "java/util/Collections$2"), (1, .class_ 391), (0, u "java/util/Collections$SingletonList"), (1, .class_ 394), (0, u "java/util/Collections$SingletonMap"), (22, .class_ 418), (0, u "java/util/Collections$CopiesList"), (4, .class_ 425), (1, u "java/util/Collections$ReverseComparator"), (8, .class_ 435), (0, u "java/util/Collections$ReverseComparator2"), (6, .class_ 443), (0, u "java/util/Collections$3"), (25, .class_ 470), (0, u "java/util/Collections$SetFromMap"), (2, .class_ 474), (0, u "java/util/Collections$SequencedSetFromMap"), (3, .class_ 479), (0, u "java/util/Collections$AsLIFOQueue"), (11, .class_ 492), (0, u "java/util/Collections$EmptySet"), (1, .class_ 495), (0, u "java/util/Collections$EmptyList"), (1, .class_ 498), (0, u "java/util/Collections$EmptyMap"), (1, u "BINARYSEARCH_THRESHOLD"), (0, u "I"), (2, u "REVERSE_THRESHOLD"), (1, u "SHUFFLE_THRESHOLD"), (1, u "FILL_THRESHOLD"), (1, u "ROTATE_THRESHOLD"), (1, u "COPY_THRESHOLD"), (1, u "REPLACEALL_THRESHOLD"), (1, u "INDEXOFSUBLIST_THRESHOLD"), (333, .class_ 851), (0, u "java/util/Collections$CheckedMap$CheckedEntrySet"), (0, .class_ 853), (0, u "java/util/Collections$CheckedMap$CheckedEntrySet$CheckedEntry"), (0, .class_ 855), (0, u "java/util/Collections$CheckedMap$CheckedEntrySet$1"), (0, .class_ 857), (0, u "java/util/Collections$CheckedList$1"), (0, .class_ 859), (0, u "java/util/Collections$CheckedCollection$1"), (0, .class_ 861), (0, u "java/util/Collections$UnmodifiableNavigableMap$EmptyNavigableMap"), (0, .class_ 863), (0, u "java/util/Collections$UnmodifiableMap$UnmodifiableEntrySet"), (0, .class_ 865), (0, u "java/util/Collections$UnmodifiableMap$UnmodifiableEntrySet$UnmodifiableEntry"), (0, .class_ 867), (0, u "java/util/Collections$UnmodifiableMap$UnmodifiableEntrySet$UnmodifiableEntrySetSpliterator"), (0, .class_ 869), (0, u "java/util/Collections$UnmodifiableMap$UnmodifiableEntrySet$1"), (0, .class_ 871), (0, u "java/util/Collections$UnmodifiableList$1"), (0, .class_ 873), (0, u "java/util/Collections$UnmodifiableNavigableSet$EmptyNavigableSet"), (0, .class_ 875), (0, u "java/util/Collections$UnmodifiableCollection$1")] 57

def k22m0 : Method := { name := "<init>", desc := "()V", sig := { parameters := [], returnType := none }, accessFlags := 2, code := none }
/-- java/util/Collections -/
def k22 : Class := { plain "java/util/Collections" (some 0) with
  accessFlags := 33
  interfaces := #[]
  cf := some (fileOf pool22 19 #[.nestMembers #[478, 473, 469, 434, 423, 417, 393, 390, 380, 497, 494, 491, 355, 350, 344, 338, 333, 328, 850, 852, 854, 320, 325, 856, 315, 310, 305, 300, 287, 858, 284, 281, 278, 268, 271, 265, 262, 256, 250, 245, 860, 237, 231, 223, 862, 864, 866, 868, 215, 212, 870, 206, 872, 198, 190, 182, 174, 166, 874, 442, 387, 384]] #[{ accessFlags := 2, nameIndex := 5, descriptorIndex := 6, attributes := #[] }] 33 2 #[] #[{ accessFlags := 26, nameIndex := 500, descriptorIndex := 501, attributes := #[] }, { accessFlags := 26, nameIndex := 504, descriptorIndex := 501, attributes := #[] }, { accessFlags := 26, nameIndex := 506, descriptorIndex := 501, attributes := #[] }, { accessFlags := 26, nameIndex := 508, descriptorIndex := 501, attributes := #[] }, { accessFlags := 26, nameIndex := 510, descriptorIndex := 501, attributes := #[] }, { accessFlags := 26, nameIndex := 512, descriptorIndex := 501, attributes := #[] }, { accessFlags := 26, nameIndex := 514, descriptorIndex := 501, attributes := #[] }, { accessFlags := 26, nameIndex := 516, descriptorIndex := 501, attributes := #[] }, { accessFlags := 10, nameIndex := 84, descriptorIndex := 85, attributes := #[] }, { accessFlags := 25, nameIndex := 362, descriptorIndex := 363, attributes := #[] }, { accessFlags := 25, nameIndex := 370, descriptorIndex := 371, attributes := #[] }, { accessFlags := 25, nameIndex := 374, descriptorIndex := 375, attributes := #[] }])
  fields := #[{ name := "BINARYSEARCH_THRESHOLD", type := .int, accessFlags := 26, slot := 0, constantValue := 0 }, { name := "REVERSE_THRESHOLD", type := .int, accessFlags := 26, slot := 1, constantValue := 0 }, { name := "SHUFFLE_THRESHOLD", type := .int, accessFlags := 26, slot := 2, constantValue := 0 }, { name := "FILL_THRESHOLD", type := .int, accessFlags := 26, slot := 3, constantValue := 0 }, { name := "ROTATE_THRESHOLD", type := .int, accessFlags := 26, slot := 4, constantValue := 0 }, { name := "COPY_THRESHOLD", type := .int, accessFlags := 26, slot := 5, constantValue := 0 }, { name := "REPLACEALL_THRESHOLD", type := .int, accessFlags := 26, slot := 6, constantValue := 0 }, { name := "INDEXOFSUBLIST_THRESHOLD", type := .int, accessFlags := 26, slot := 7, constantValue := 0 }, { name := "r", type := (.object "java/util/Random"), accessFlags := 10, slot := 8, constantValue := 0 }, { name := "EMPTY_SET", type := (.object "java/util/Set"), accessFlags := 25, slot := 9, constantValue := 0 }, { name := "EMPTY_LIST", type := (.object "java/util/List"), accessFlags := 25, slot := 10, constantValue := 0 }, { name := "EMPTY_MAP", type := (.object "java/util/Map"), accessFlags := 25, slot := 11, constantValue := 0 }]
  methods := #[k22m0]
  instanceTypes := #[]
  staticTypes := #[.int, .int, .int, .int, .int, .int, .int, .int, (.object "java/util/Random"), (.object "java/util/Set"), (.object "java/util/List"), (.object "java/util/Map")]
  resolved := Array.replicate 933 none
  statics := some 4 }

def pool23 : Array CpInfo := pool [(8, .class_ 10), (1, u "java/lang/Iterable"), (24, .class_ 36), (0, u "java/lang/Object")] 25

/-- java/lang/Iterable -/
def k23 : Class := { plain "java/lang/Iterable" (some 0) with
  accessFlags := 1537
  interfaces := #[]
  cf := some (fileOf pool23 8 #[] #[] 1537 35 #[] #[])
  fields := #[]
  methods := #[]
  instanceTypes := #[]
  staticTypes := #[]
  resolved := Array.replicate 62 none
  statics := none }

def pool24 : Array CpInfo := pool [(10, .class_ 12), (1, u "java/util/Collection"), (47, .class_ 61), (0, u "java/lang/Object"), (0, .class_ 63), (0, u "java/lang/Iterable")] 51

/-- java/util/Collection -/
def k24 : Class := { plain "java/util/Collection" (some 0) with
  accessFlags := 1537
  interfaces := #[23]
  cf := some (fileOf pool24 10 #[] #[] 1537 60 #[62] #[])
  fields := #[]
  methods := #[]
  instanceTypes := #[]
  staticTypes := #[]
  resolved := Array.replicate 115 none
  statics := none }

def pool25 : Array CpInfo := pool [(2, .class_ 4), (1, u "java/lang/Object"), (0, u "<init>"), (0, u "()V"), (1, .class_ 10), (1, u "java/util/AbstractCollection"), (66, .class_ 78), (0, u "java/util/Collection")] 81

def k25m0 : Method := { name := "<init>", desc := "()V", sig := { parameters := [], returnType := none }, accessFlags := 4, code := none }
/-- java/util/AbstractCollection -/
def k25 : Class := { plain "java/util/AbstractCollection" (some 0) with
  accessFlags := 1057
  interfaces := #[24]
  cf := some (fileOf pool25 8 #[] #[{ accessFlags := 4, nameIndex := 5, descriptorIndex := 6, attributes := #[] }] 1057 2 #[77] #[])
  fields := #[]
  methods := #[k25m0]
  instanceTypes := #[]
  staticTypes := #[]
  resolved := Array.replicate 160 none
  statics := none }

def pool26 : Array CpInfo := pool [(8, .class_ 10), (1, u "java/util/SequencedCollection"), (15, .class_ 27), (0, u "java/lang/Object"), (0, .class_ 29), (0, u "java/util/Collection")] 27

/-- java/util/SequencedCollection -/
def k26 : Class := { plain "java/util/SequencedCollection" (some 0) with
  accessFlags := 1537
  interfaces := #[24]
  cf := some (fileOf pool26 8 #[] #[] 1537 26 #[28] #[])
  fields := #[]
  methods := #[]
  instanceTypes := #[]
  staticTypes := #[]
  resolved := Array.replicate 57 none
  statics := none }

def pool27 : Array CpInfo := pool [(8, .class_ 10), (1, u "java/util/List"), (92, .class_ 104), (0, u "java/lang/Object"), (15, .class_ 121), (0, u "java/util/SequencedCollection")] 129

/-- java/util/List -/
def k27 : Class := { plain "java/util/List" (some 0) with
  accessFlags := 1537
  interfaces := #[26]
  cf := some (fileOf pool27 8 #[] #[] 1537 103 #[120] #[])
  fields := #[]
  methods := #[]
  instanceTypes := #[]
  staticTypes := #[]
  resolved := Array.replicate 251 none
  statics := none }

def pool28 : Array CpInfo := pool [(2, .class_ 4), (1, u "java/util/AbstractCollection"), (0, u "<init>"), (0, u "()V"), (1, .class_ 10), (1, u "java/util/AbstractList"), (0, u "modCount"), (0, u "I"), (64, .class_ 78), (0, u "java/util/AbstractList$Itr"), (3, .class_ 83), (0, u "java/util/AbstractList$ListItr"), (9, .class_ 94), (0, u "java/util/AbstractList$RandomAccessSubList"), (3, .class_ 99), (0, u "java/util/AbstractList$SubList"), (33, .class_ 134), (0, u "java/util/List"), (73, .class_ 209), (0, u "java/util/AbstractList$SubList$1"), (0, .class_ 211), (0, u "java/util/AbstractList$RandomAccessSpliterator")] 6

def k28m0 : Method := { name := "<init>", desc := "()V", sig := { parameters := [], returnType := none }, accessFlags := 4, code := none }
/-- java/util/AbstractList -/
def k28 : Class := { plain "java/util/AbstractList" (some 25) with
  accessFlags := 1057
  interfaces := #[27]
  cf := some (fileOf pool28 8 #[.nestMembers #[93, 98, 208, 210, 82, 77]] #[{ accessFlags := 4, nameIndex := 5, descriptorIndex := 6, attributes := #[] }] 1057 2 #[133] #[{ accessFlags := 132, nameIndex := 11, descriptorIndex := 12, attributes := #[] }])
  fields := #[{ name := "modCount", type := .int, accessFlags := 132, slot := 0, constantValue := 0 }]
  methods := #[k28m0]
  instanceTypes := #[.int]
  staticTypes := #[]
  resolved := Array.replicate 218 none
  statics := none }

def pool29 : Array CpInfo := pool [(1, .class_ 2), (0, u "java/util/RandomAccess"), (0, .class_ 4), (0, u "java/lang/Object")] 2

/-- java/util/RandomAccess -/
def k29 : Class := { plain "java/util/RandomAccess" (some 0) with
  accessFlags := 1537
  interfaces := #[]
  cf := some (fileOf pool29 1 #[] #[] 1537 3 #[] #[])
  fields := #[]
  methods := #[]
  instanceTypes := #[]
  staticTypes := #[]
  resolved := Array.replicate 7 none
  statics := none }

def pool30 : Array CpInfo := pool [(2, .class_ 4), (1, u "java/util/AbstractList"), (0, u "<init>"), (0, u "()V"), (1, .class_ 10), (1, u "java/util/Collections"), (54, .class_ 66), (0, u "java/util/Collections$EmptyList"), (0, .class_ 68), (0, u "java/util/RandomAccess"), (0, .class_ 70), (0, u "java/io/Serializable"), (0, u "serialVersionUID"), (0, u "J")] 77

def k30m0 : Method := { name := "<init>", desc := "()V", sig := { parameters := [], returnType := none }, accessFlags := 2, code := none }
/-- java/util/Collections$EmptyList -/
def k30 : Class := { plain "java/util/Collections$EmptyList" (some 28) with
  accessFlags := 32
  interfaces := #[29, 2]
  cf := some (fileOf pool30 65 #[.nestHost 8] #[{ accessFlags := 2, nameIndex := 5, descriptorIndex := 6, attributes := #[] }] 32 2 #[67, 69] #[{ accessFlags := 26, nameIndex := 71, descriptorIndex := 72, attributes := #[] }])
  fields := #[{ name := "serialVersionUID", type := .long, accessFlags := 26, slot := 0, constantValue := 0 }]
  methods := #[k30m0]
  instanceTypes := #[.int]
  staticTypes := #[.long]
  resolved := Array.replicate 150 none
  statics := none }

def pool31 : Array CpInfo := pool [(2, .class_ 4), (1, u "java/lang/StackTraceElement"), (0, u "<init>"), (2, .class_ 10), (1, u "java/lang/Object"), (0, u "()V"), (2, u "format"), (0, u "B"), (2, u "classLoaderName"), (0, u "Ljava/lang/String;"), (2, u "moduleName"), (2, u "moduleVersion"), (12, u "declaringClass"), (4, u "methodName"), (2, u "fileName"), (2, u "lineNumber"), (0, u "I"), (65, u "declaringClassObject"), (0, u "Ljava/lang/Class;"), (33, .class_ 153), (1, u "java/lang/StackTraceElement$HashedModules"), (17, .class_ 172), (0, u "java/io/Serializable"), (0, u "NATIVE_METHOD"), (1, u "UNKNOWN_SOURCE"), (2, u "BUILTIN_CLASS_LOADER"), (1, u "JDK_NON_UPGRADEABLE_MODULE"), (1, u "serialVersionUID"), (0, u "J")] 51

def k31m0 : Method := { name := "<init>", desc := "()V", sig := { parameters := [], returnType := none }, accessFlags := 2, code := none }
/-- java/lang/StackTraceElement -/
def k31 : Class := { plain "java/lang/StackTraceElement" (some 0) with
  accessFlags := 49
  interfaces := #[2]
  cf := some (fileOf pool31 2 #[.nestMembers #[151]] #[{ accessFlags := 2, nameIndex := 5, descriptorIndex := 11, attributes := #[] }] 49 8 #[171] #[{ accessFlags := 26, nameIndex := 173, descriptorIndex := 19, attributes := #[] }, { accessFlags := 26, nameIndex := 175, descriptorIndex := 19, attributes := #[] }, { accessFlags := 130, nameIndex := 116, descriptorIndex := 117, attributes := #[] }, { accessFlags := 2, nameIndex := 18, descriptorIndex := 19, attributes := #[] }, { accessFlags := 2, nameIndex := 22, descriptorIndex := 19, attributes := #[] }, { accessFlags := 2, nameIndex := 25, descriptorIndex := 19, attributes := #[] }, { accessFlags := 2, nameIndex := 38, descriptorIndex := 19, attributes := #[] }, { accessFlags := 2, nameIndex := 43, descriptorIndex := 19, attributes := #[] }, { accessFlags := 2, nameIndex := 46, descriptorIndex := 19, attributes := #[] }, { accessFlags := 2, nameIndex := 49, descriptorIndex := 50, attributes := #[] }, { accessFlags := 2, nameIndex := 14, descriptorIndex := 15, attributes := #[] }, { accessFlags := 26, nameIndex := 178, descriptorIndex := 15, attributes := #[] }, { accessFlags := 26, nameIndex := 180, descriptorIndex := 15, attributes := #[] }, { accessFlags := 26, nameIndex := 182, descriptorIndex := 183, attributes := #[] }])
  fields := #[{ name := "NATIVE_METHOD", type := (.object "java/lang/String"), accessFlags := 26, slot := 0, constantValue := 0 }, { name := "UNKNOWN_SOURCE", type := (.object "java/lang/String"), accessFlags := 26, slot := 1, constantValue := 0 }, { name := "declaringClassObject", type := (.object "java/lang/Class"), accessFlags := 130, slot := 0, constantValue := 0 }, { name := "classLoaderName", type := (.object "java/lang/String"), accessFlags := 2, slot := 1, constantValue := 0 }, { name := "moduleName", type := (.object "java/lang/String"), accessFlags := 2, slot := 2, constantValue := 0 }, { name := "moduleVersion", type := (.object "java/lang/String"), accessFlags := 2, slot := 3, constantValue := 0 }, { name := "declaringClass", type := (.object "java/lang/String"), accessFlags := 2, slot := 4, constantValue := 0 }, { name := "methodName", type := (.object "java/lang/String"), accessFlags := 2, slot := 5, constantValue := 0 }, { name := "fileName", type := (.object "java/lang/String"), accessFlags := 2, slot := 6, constantValue := 0 }, { name := "lineNumber", type := .int, accessFlags := 2, slot := 7, constantValue := 0 }, { name := "format", type := .byte, accessFlags := 2, slot := 8, constantValue := 0 }, { name := "BUILTIN_CLASS_LOADER", type := .byte, accessFlags := 26, slot := 2, constantValue := 0 }, { name := "JDK_NON_UPGRADEABLE_MODULE", type := .byte, accessFlags := 26, slot := 3, constantValue := 0 }, { name := "serialVersionUID", type := .long, accessFlags := 26, slot := 4, constantValue := 0 }]
  methods := #[k31m0]
  instanceTypes := #[(.object "java/lang/Class"), (.object "java/lang/String"), (.object "java/lang/String"), (.object "java/lang/String"), (.object "java/lang/String"), (.object "java/lang/String"), (.object "java/lang/String"), .int, .byte]
  staticTypes := #[(.object "java/lang/String"), (.object "java/lang/String"), .byte, .byte, .long]
  resolved := Array.replicate 235 none
  statics := none }

def pool32 : Array CpInfo := pool [(1, u "java/lang/Cloneable"), (0, .class_ 1), (0, u "java/lang/Object"), (0, .class_ 3)] 3

/-- java/lang/Cloneable -/
def k32 : Class := { plain "java/lang/Cloneable" (some 0) with
  accessFlags := 1537
  interfaces := #[]
  cf := some (fileOf pool32 2 #[] #[] 1537 4 #[] #[])
  fields := #[]
  methods := #[]
  instanceTypes := #[]
  staticTypes := #[]
  resolved := Array.replicate 8 none
  statics := none }

/-- the primitive byte -/
def k33 : Class := { plain "byte" none with kind := .primitive 'B', accessFlags := 0x411 }
/-- [B -/
def k34 : Class := { plain "[B" (some 0) with kind := .array 33 .byte, interfaces := #[32, 2], accessFlags := 1041 }

/-- the primitive int -/
def k35 : Class := { plain "int" none with kind := .primitive 'I', accessFlags := 0x411 }
/-- [I -/
def k36 : Class := { plain "[I" (some 0) with kind := .array 35 .int, interfaces := #[32, 2], accessFlags := 1041 }

/-- [Ljava/lang/StackTraceElement; -/
def k37 : Class := { plain "[Ljava/lang/StackTraceElement;" (some 0) with kind := .array 31 (.object "java/lang/StackTraceElement"), interfaces := #[32, 2], accessFlags := 1041 }

/-- [Ljava/lang/Throwable; -/
def k38 : Class := { plain "[Ljava/lang/Throwable;" (some 0) with kind := .array 3 (.object "java/lang/Throwable"), interfaces := #[32, 2], accessFlags := 1041 }

def heap : Heap := #[{ cls := 3, slots := #[.long 0, .ref 7, .ref 8, .null, .null, .null, .null, .ref 9, .int 1], vm := .statics 3 },
  { cls := 13, slots := #[.long 0, .int 1, .null, .int 0, .null, .int 0, .int 0], vm := .statics 13 },
  { cls := 19, slots := #[.int 0, .int 0, .null, .null, .ref 6, .ref 5, .int 0, .int 0, .long 0], vm := .statics 19 },
  { cls := 21, slots := #[.null, .null, .null], vm := .statics 21 },
  { cls := 22, slots := #[.int 0, .int 0, .int 0, .int 0, .int 0, .int 0, .int 0, .int 0, .null, .null, .ref 8, .null], vm := .statics 22 },
  { cls := 34, slots := #[.int 48, .int 49, .int 50, .int 51, .int 52, .int 53, .int 54, .int 55, .int 56, .int 57, .int 48, .int 49, .int 50, .int 51, .int 52, .int 53, .int 54, .int 55, .int 56, .int 57, .int 48, .int 49, .int 50, .int 51, .int 52, .int 53, .int 54, .int 55, .int 56, .int 57, .int 48, .int 49, .int 50, .int 51, .int 52, .int 53, .int 54, .int 55, .int 56, .int 57, .int 48, .int 49, .int 50, .int 51, .int 52, .int 53, .int 54, .int 55, .int 56, .int 57, .int 48, .int 49, .int 50, .int 51, .int 52, .int 53, .int 54, .int 55, .int 56, .int 57, .int 48, .int 49, .int 50, .int 51, .int 52, .int 53, .int 54, .int 55, .int 56, .int 57, .int 48, .int 49, .int 50, .int 51, .int 52, .int 53, .int 54, .int 55, .int 56, .int 57, .int 48, .int 49, .int 50, .int 51, .int 52, .int 53, .int 54, .int 55, .int 56, .int 57, .int 48, .int 49, .int 50, .int 51, .int 52, .int 53, .int 54, .int 55, .int 56, .int 57], vm := .none },
  { cls := 34, slots := #[.int 48, .int 48, .int 48, .int 48, .int 48, .int 48, .int 48, .int 48, .int 48, .int 48, .int 49, .int 49, .int 49, .int 49, .int 49, .int 49, .int 49, .int 49, .int 49, .int 49, .int 50, .int 50, .int 50, .int 50, .int 50, .int 50, .int 50, .int 50, .int 50, .int 50, .int 51, .int 51, .int 51, .int 51, .int 51, .int 51, .int 51, .int 51, .int 51, .int 51, .int 52, .int 52, .int 52, .int 52, .int 52, .int 52, .int 52, .int 52, .int 52, .int 52, .int 53, .int 53, .int 53, .int 53, .int 53, .int 53, .int 53, .int 53, .int 53, .int 53, .int 54, .int 54, .int 54, .int 54, .int 54, .int 54, .int 54, .int 54, .int 54, .int 54, .int 55, .int 55, .int 55, .int 55, .int 55, .int 55, .int 55, .int 55, .int 55, .int 55, .int 56, .int 56, .int 56, .int 56, .int 56, .int 56, .int 56, .int 56, .int 56, .int 56, .int 57, .int 57, .int 57, .int 57, .int 57, .int 57, .int 57, .int 57, .int 57, .int 57], vm := .none },
  { cls := 37, slots := #[], vm := .none },
  { cls := 30, slots := #[.int 0], vm := .none },
  { cls := 38, slots := #[], vm := .none }]
def classes : Array Class := #[k0, k1, k2, k3, k4, k5, k6, k7, k8, k9, k10, k11, k12, k13, k14, k15, k16, k17, k18, k19, k20, k21, k22, k23, k24, k25, k26, k27, k28, k29, k30, k31, k32, k33, k34, k35, k36, k37, k38]
def interned : List (Array UInt16 × Addr) := []
def slotsUsed : Nat := 241
def theMethod : MethodId := ⟨1, 1⟩
def args0 : Array Value := #[.int 5]
def aboutOver (below : List Frame) : State where
  vm := { classes := classes, interned := interned.toArray }
  heap := heap
  slotsUsed := slotsUsed
  threads := #[{ frames := .invoking theMethod args0 :: below }]
def below0 : List Frame := [.native { method := ⟨0, 0⟩, args := #[] }]
def about1 : State := aboutOver below0
def p0 : Program := .bare "" "" ""
def e0 : Env := launch0.env 0 0 0
theorem w_frames : about1.frames = Frame.invoking theMethod args0 :: below0 := rfl
set_option maxRecDepth 65536 in
theorem w_args : argsFit about1.vm theMethod args0 = true := by decide +kernel
set_option maxRecDepth 65536 in
theorem w_heap : heapFits about1 = true := by decide +kernel
set_option maxRecDepth 65536 in
theorem w_runnable : about1.curStatus? = some .runnable := by decide +kernel
set_option maxRecDepth 65536 in
theorem w_alone : about1.alone = true := by decide +kernel
set_option maxRecDepth 65536 in
theorem w_named : about1.methodNamed? x = some theMethod := by decide +kernel
set_option maxRecDepth 65536 in
theorem w_hears : about1.hears theMethod below0 = true := by decide +kernel
set_option maxRecDepth 65536 in
theorem w_ripe : about1.ripe theMethod args0 below0 = true := by decide +kernel
theorem w_running : about1.status = .running := rfl
set_option maxRecDepth 65536 in
theorem w_room : about1.hasRoom e0.platform room_1 = true :=
  launch0.hasRoom_least _ room_1 (by decide +kernel) (by decide +kernel) (by decide +kernel) (by decide +kernel) (by decide +kernel) (by decide +kernel)
theorem allAtoms_all (ts : List Jvm.Cond) (a : Array Jvm.Value) (st : Jvm.State) : (allAtoms ts).before a st = ts.all (fun c => c.before a st) := by
  induction ts with
  | nil => rfl
  | cons c t ih =>
    show (Jvm.Cond.and c (allAtoms t)).before a st = _
    rw [Jvm.Cond.before_and, ih, List.all_cons]
def words1 : List Jvm.Cond := Jvm.Cond.code x code maxLocals ret :: tables_1
/-- a 'code' word, met by the world's own term for the bytes: nothing is compared byte by byte -/
theorem code_word {y : MethodName} {bytes : ByteArray} {mx : Nat} {rt : Option FieldType} {a : Array Value} {s : State} {m : MethodId} {meth : Method} {c : Code} (h1 : s.methodNamed? y = some m) (h2 : s.vm.method? m = some meth) (h3 : meth.code = some c) (h4 : c.code = bytes)
    (h5 : (c.maxLocals == mx && c.exceptionTable.isEmpty && decide (c.maxStack ≤ mostOperands) && decide (meth.sig.returnType = rt) && !meth.locks && decide (parseMethodDescriptor y.desc = some meth.sig)) = true) : (Jvm.Cond.code y bytes mx rt).before a s = true := by
  simp only [Bool.and_eq_true, beq_iff_eq, Bool.not_eq_true', decide_eq_true_eq] at h5
  obtain ⟨⟨⟨⟨⟨g1, g2⟩, g3⟩, g4⟩, g5⟩, g6⟩ := h5
  simp [Cond.before, Cond.holds, Cond.value, h1, h2, h3, h4, g1, g2, g3, g4, g5, g6]
def isCode : Jvm.Cond → Bool
  | .code _ _ _ _ => true
  | _ => false
theorem all_split {L : List Jvm.Cond} {P : Jvm.Cond → Bool} (h1 : L.all (fun c => isCode c || P c) = true) (h2 : ∀ c ∈ L.filter isCode, P c = true) : L.all P = true := by
  refine List.all_eq_true.mpr fun c hc => ?_
  have h := List.all_eq_true.mp h1 c hc
  rcases Bool.eq_false_or_eq_true (isCode c) with hi | hi
  · exact h2 c (List.mem_filter.mpr ⟨hc, hi⟩)
  · simpa [hi] using h
set_option maxRecDepth 65536 in
theorem w_c0 : (Jvm.Cond.code x code maxLocals ret).before args0 about1 = true := code_word (m := ⟨1, 1⟩) (meth := k1m1) (c := k1c1) (by decide +kernel) rfl rfl rfl (by decide +kernel)
set_option maxRecDepth 65536 in
theorem w_c1 : (Jvm.Cond.code ({ cls := "com/example/lidmaat/lidmaat/http/Refusal", name := "headTooLarge", desc := "(I)Lcom/example/lidmaat/lidmaat/http/Refusal;" } : Jvm.MethodName) prog_19_method_3_code (1 : Nat) (Option.some (Jvm.ClassFile.FieldType.object "com/example/lidmaat/lidmaat/http/Refusal"))).before args0 about1 = true := code_word (m := ⟨5, 1⟩) (meth := k5m1) (c := k5c1) (by decide +kernel) rfl rfl rfl (by decide +kernel)
set_option maxRecDepth 65536 in
theorem w_c2 : (Jvm.Cond.code ({ cls := "java/lang/StringBuilder", name := "<init>", desc := "()V" } : Jvm.MethodName) jdk_67_method_1_code (1 : Nat) (Option.none : Option Jvm.ClassFile.FieldType)).before args0 about1 = true := code_word (m := ⟨10, 0⟩) (meth := k10m0) (c := k10c0) (by decide +kernel) rfl rfl rfl (by decide +kernel)
set_option maxRecDepth 65536 in
theorem w_c3 : (Jvm.Cond.code ({ cls := "java/lang/AbstractStringBuilder", name := "<init>", desc := "(I)V" } : Jvm.MethodName) jdk_68_method_2_code (2 : Nat) (Option.none : Option Jvm.ClassFile.FieldType)).before args0 about1 = true := code_word (m := ⟨8, 1⟩) (meth := k8m1) (c := k8c1) (by decide +kernel) rfl rfl rfl (by decide +kernel)
set_option maxRecDepth 65536 in
theorem w_c4 : (Jvm.Cond.code ({ cls := "java/lang/Object", name := "<init>", desc := "()V" } : Jvm.MethodName) object_method_1_code (1 : Nat) (Option.none : Option Jvm.ClassFile.FieldType)).before args0 about1 = true := code_word (m := ⟨0, 0⟩) (meth := k0m0) (c := k0c0) (by decide +kernel) rfl rfl rfl (by decide +kernel)
set_option maxRecDepth 65536 in
theorem w_c5 : (Jvm.Cond.code ({ cls := "java/lang/StringBuilder", name := "append", desc := "(Ljava/lang/String;)Ljava/lang/StringBuilder;" } : Jvm.MethodName) jdk_67_method_7_code (2 : Nat) (Option.some (Jvm.ClassFile.FieldType.object "java/lang/StringBuilder"))).before args0 about1 = true := code_word (m := ⟨10, 1⟩) (meth := k10m1) (c := k10c1) (by decide +kernel) rfl rfl rfl (by decide +kernel)
set_option maxRecDepth 65536 in
theorem w_c6 : (Jvm.Cond.code ({ cls := "java/lang/AbstractStringBuilder", name := "append", desc := "(Ljava/lang/String;)Ljava/lang/AbstractStringBuilder;" } : Jvm.MethodName) jdk_68_method_22_code (3 : Nat) (Option.some (Jvm.ClassFile.FieldType.object "java/lang/AbstractStringBuilder"))).before args0 about1 = true := code_word (m := ⟨8, 5⟩) (meth := k8m5) (c := k8c5) (by decide +kernel) rfl rfl rfl (by decide +kernel)
set_option maxRecDepth 65536 in
theorem w_c7 : (Jvm.Cond.code ({ cls := "java/lang/String", name := "length", desc := "()I" } : Jvm.MethodName) jdk_42_method_54_code (1 : Nat) (Option.some Jvm.ClassFile.FieldType.int)).before args0 about1 = true := code_word (m := ⟨13, 2⟩) (meth := k13m2) (c := k13c2) (by decide +kernel) rfl rfl rfl (by decide +kernel)
set_option maxRecDepth 65536 in
theorem w_c8 : (Jvm.Cond.code ({ cls := "java/lang/String", name := "coder", desc := "()B" } : Jvm.MethodName) jdk_42_method_152_code (1 : Nat) (Option.some Jvm.ClassFile.FieldType.byte)).before args0 about1 = true := code_word (m := ⟨13, 5⟩) (meth := k13m5) (c := k13c5) (by decide +kernel) rfl rfl rfl (by decide +kernel)
set_option maxRecDepth 65536 in
theorem w_c9 : (Jvm.Cond.code ({ cls := "java/lang/AbstractStringBuilder", name := "ensureCapacityInternal", desc := "(I)V" } : Jvm.MethodName) jdk_68_method_9_code (3 : Nat) (Option.none : Option Jvm.ClassFile.FieldType)).before args0 about1 = true := code_word (m := ⟨8, 3⟩) (meth := k8m3) (c := k8c3) (by decide +kernel) rfl rfl rfl (by decide +kernel)
set_option maxRecDepth 65536 in
theorem w_c10 : (Jvm.Cond.code ({ cls := "java/lang/AbstractStringBuilder", name := "newCapacity", desc := "(I)I" } : Jvm.MethodName) jdk_68_method_10_code (6 : Nat) (Option.some Jvm.ClassFile.FieldType.int)).before args0 about1 = true := code_word (m := ⟨8, 4⟩) (meth := k8m4) (c := k8c4) (by decide +kernel) rfl rfl rfl (by decide +kernel)
set_option maxRecDepth 65536 in
theorem w_c11 : (Jvm.Cond.code ({ cls := "jdk/internal/util/ArraysSupport", name := "newLength", desc := "(III)I" } : Jvm.MethodName) jdk_48_method_27_code (4 : Nat) (Option.some Jvm.ClassFile.FieldType.int)).before args0 about1 = true := code_word (m := ⟨14, 1⟩) (meth := k14m1) (c := k14c1) (by decide +kernel) rfl rfl rfl (by decide +kernel)
set_option maxRecDepth 65536 in
theorem w_c12 : (Jvm.Cond.code ({ cls := "java/lang/Math", name := "max", desc := "(II)I" } : Jvm.MethodName) jdk_29_method_65_code (2 : Nat) (Option.some Jvm.ClassFile.FieldType.int)).before args0 about1 = true := code_word (m := ⟨15, 1⟩) (meth := k15m1) (c := k15c1) (by decide +kernel) rfl rfl rfl (by decide +kernel)
set_option maxRecDepth 65536 in
theorem w_c13 : (Jvm.Cond.code ({ cls := "java/util/Arrays", name := "copyOf", desc := "([BI)[B" } : Jvm.MethodName) jdk_65_method_121_code (3 : Nat) (Option.some (Jvm.ClassFile.FieldType.array Jvm.ClassFile.FieldType.byte))).before args0 about1 = true := code_word (m := ⟨16, 1⟩) (meth := k16m1) (c := k16c1) (by decide +kernel) rfl rfl rfl (by decide +kernel)
set_option maxRecDepth 65536 in
theorem w_c14 : (Jvm.Cond.code ({ cls := "java/lang/Math", name := "min", desc := "(II)I" } : Jvm.MethodName) jdk_29_method_69_code (2 : Nat) (Option.some Jvm.ClassFile.FieldType.int)).before args0 about1 = true := code_word (m := ⟨15, 2⟩) (meth := k15m2) (c := k15c2) (by decide +kernel) rfl rfl rfl (by decide +kernel)
set_option maxRecDepth 65536 in
theorem w_c15 : (Jvm.Cond.code ({ cls := "java/lang/AbstractStringBuilder", name := "putStringAt", desc := "(ILjava/lang/String;)V" } : Jvm.MethodName) jdk_68_method_73_code (3 : Nat) (Option.none : Option Jvm.ClassFile.FieldType)).before args0 about1 = true := code_word (m := ⟨8, 10⟩) (meth := k8m10) (c := k8c10) (by decide +kernel) rfl rfl rfl (by decide +kernel)
set_option maxRecDepth 65536 in
theorem w_c16 : (Jvm.Cond.code ({ cls := "java/lang/AbstractStringBuilder", name := "inflateIfNeededFor", desc := "(Ljava/lang/String;)V" } : Jvm.MethodName) jdk_68_method_71_code (2 : Nat) (Option.none : Option Jvm.ClassFile.FieldType)).before args0 about1 = true := code_word (m := ⟨8, 9⟩) (meth := k8m9) (c := k8c9) (by decide +kernel) rfl rfl rfl (by decide +kernel)
set_option maxRecDepth 65536 in
theorem w_c17 : (Jvm.Cond.code ({ cls := "java/lang/String", name := "getBytes", desc := "([BIB)V" } : Jvm.MethodName) jdk_42_method_147_code (4 : Nat) (Option.none : Option Jvm.ClassFile.FieldType)).before args0 about1 = true := code_word (m := ⟨13, 3⟩) (meth := k13m3) (c := k13c3) (by decide +kernel) rfl rfl rfl (by decide +kernel)
set_option maxRecDepth 65536 in
theorem w_c18 : (Jvm.Cond.code ({ cls := "java/lang/StringBuilder", name := "append", desc := "(I)Ljava/lang/StringBuilder;" } : Jvm.MethodName) jdk_67_method_15_code (2 : Nat) (Option.some (Jvm.ClassFile.FieldType.object "java/lang/StringBuilder"))).before args0 about1 = true := code_word (m := ⟨10, 2⟩) (meth := k10m2) (c := k10c2) (by decide +kernel) rfl rfl rfl (by decide +kernel)
set_option maxRecDepth 65536 in
theorem w_c19 : (Jvm.Cond.code ({ cls := "java/lang/AbstractStringBuilder", name := "append", desc := "(I)Ljava/lang/AbstractStringBuilder;" } : Jvm.MethodName) jdk_68_method_32_code (4 : Nat) (Option.some (Jvm.ClassFile.FieldType.object "java/lang/AbstractStringBuilder"))).before args0 about1 = true := code_word (m := ⟨8, 6⟩) (meth := k8m6) (c := k8c6) (by decide +kernel) rfl rfl rfl (by decide +kernel)
set_option maxRecDepth 65536 in
theorem w_c20 : (Jvm.Cond.code ({ cls := "java/lang/Integer", name := "stringSize", desc := "(I)I" } : Jvm.MethodName) jdk_33_method_13_code (4 : Nat) (Option.some Jvm.ClassFile.FieldType.int)).before args0 about1 = true := code_word (m := ⟨19, 1⟩) (meth := k19m1) (c := k19c1) (by decide +kernel) rfl rfl rfl (by decide +kernel)
set_option maxRecDepth 65536 in
theorem w_c21 : (Jvm.Cond.code ({ cls := "java/lang/AbstractStringBuilder", name := "isLatin1", desc := "()Z" } : Jvm.MethodName) jdk_68_method_68_code (1 : Nat) (Option.some Jvm.ClassFile.FieldType.boolean)).before args0 about1 = true := code_word (m := ⟨8, 8⟩) (meth := k8m8) (c := k8c8) (by decide +kernel) rfl rfl rfl (by decide +kernel)
set_option maxRecDepth 65536 in
theorem w_c22 : (Jvm.Cond.code ({ cls := "java/lang/Integer", name := "getChars", desc := "(II[B)I" } : Jvm.MethodName) jdk_33_method_12_code (7 : Nat) (Option.some Jvm.ClassFile.FieldType.int)).before args0 about1 = true := code_word (m := ⟨19, 0⟩) (meth := k19m0) (c := k19c0) (by decide +kernel) rfl rfl rfl (by decide +kernel)
set_option maxRecDepth 65536 in
theorem w_c23 : (Jvm.Cond.code ({ cls := "java/lang/StringBuilder", name := "toString", desc := "()Ljava/lang/String;" } : Jvm.MethodName) jdk_67_method_42_code (1 : Nat) (Option.some (Jvm.ClassFile.FieldType.object "java/lang/String"))).before args0 about1 = true := code_word (m := ⟨10, 3⟩) (meth := k10m3) (c := k10c3) (by decide +kernel) rfl rfl rfl (by decide +kernel)
set_option maxRecDepth 65536 in
theorem w_c24 : (Jvm.Cond.code ({ cls := "java/lang/String", name := "<init>", desc := "(Ljava/lang/StringBuilder;)V" } : Jvm.MethodName) jdk_42_method_53_code (2 : Nat) (Option.none : Option Jvm.ClassFile.FieldType)).before args0 about1 = true := code_word (m := ⟨13, 1⟩) (meth := k13m1) (c := k13c1) (by decide +kernel) rfl rfl rfl (by decide +kernel)
set_option maxRecDepth 65536 in
theorem w_c25 : (Jvm.Cond.code ({ cls := "java/lang/String", name := "<init>", desc := "(Ljava/lang/AbstractStringBuilder;Ljava/lang/Void;)V" } : Jvm.MethodName) jdk_42_method_150_code (5 : Nat) (Option.none : Option Jvm.ClassFile.FieldType)).before args0 about1 = true := code_word (m := ⟨13, 4⟩) (meth := k13m4) (c := k13c4) (by decide +kernel) rfl rfl rfl (by decide +kernel)
set_option maxRecDepth 65536 in
theorem w_c26 : (Jvm.Cond.code ({ cls := "java/lang/AbstractStringBuilder", name := "getValue", desc := "()[B" } : Jvm.MethodName) jdk_68_method_64_code (1 : Nat) (Option.some (Jvm.ClassFile.FieldType.array Jvm.ClassFile.FieldType.byte))).before args0 about1 = true := code_word (m := ⟨8, 7⟩) (meth := k8m7) (c := k8c7) (by decide +kernel) rfl rfl rfl (by decide +kernel)
set_option maxRecDepth 65536 in
theorem w_c27 : (Jvm.Cond.code ({ cls := "java/lang/StringBuilder", name := "length", desc := "()I" } : Jvm.MethodName) jdk_67_method_93_code (1 : Nat) (Option.some Jvm.ClassFile.FieldType.int)).before args0 about1 = true := code_word (m := ⟨10, 4⟩) (meth := k10m4) (c := k10c4) (by decide +kernel) rfl rfl rfl (by decide +kernel)
set_option maxRecDepth 65536 in
theorem w_c28 : (Jvm.Cond.code ({ cls := "java/lang/AbstractStringBuilder", name := "length", desc := "()I" } : Jvm.MethodName) jdk_68_method_6_code (1 : Nat) (Option.some Jvm.ClassFile.FieldType.int)).before args0 about1 = true := code_word (m := ⟨8, 2⟩) (meth := k8m2) (c := k8c2) (by decide +kernel) rfl rfl rfl (by decide +kernel)
set_option maxRecDepth 65536 in
theorem w_c29 : (Jvm.Cond.code ({ cls := "java/util/Arrays", name := "copyOfRange", desc := "([BII)[B" } : Jvm.MethodName) jdk_65_method_132_code (3 : Nat) (Option.some (Jvm.ClassFile.FieldType.array Jvm.ClassFile.FieldType.byte))).before args0 about1 = true := code_word (m := ⟨16, 3⟩) (meth := k16m3) (c := k16c3) (by decide +kernel) rfl rfl rfl (by decide +kernel)
set_option maxRecDepth 65536 in
theorem w_c30 : (Jvm.Cond.code ({ cls := "java/util/Arrays", name := "copyOfRangeByte", desc := "([BII)[B" } : Jvm.MethodName) jdk_65_method_133_code (5 : Nat) (Option.some (Jvm.ClassFile.FieldType.array Jvm.ClassFile.FieldType.byte))).before args0 about1 = true := code_word (m := ⟨16, 4⟩) (meth := k16m4) (c := k16c4) (by decide +kernel) rfl rfl rfl (by decide +kernel)
set_option maxRecDepth 65536 in
theorem w_c31 : (Jvm.Cond.code ({ cls := "java/util/Arrays", name := "checkLength", desc := "(II)V" } : Jvm.MethodName) jdk_65_method_131_code (2 : Nat) (Option.none : Option Jvm.ClassFile.FieldType)).before args0 about1 = true := code_word (m := ⟨16, 2⟩) (meth := k16m2) (c := k16c2) (by decide +kernel) rfl rfl rfl (by decide +kernel)
set_option maxRecDepth 65536 in
theorem w_c32 : (Jvm.Cond.code ({ cls := "com/example/lidmaat/lidmaat/http/Refusal", name := "<init>", desc := "(ILjava/lang/String;)V" } : Jvm.MethodName) prog_19_method_1_code (3 : Nat) (Option.none : Option Jvm.ClassFile.FieldType)).before args0 about1 = true := code_word (m := ⟨5, 0⟩) (meth := k5m0) (c := k5c0) (by decide +kernel) rfl rfl rfl (by decide +kernel)
set_option maxRecDepth 65536 in
theorem w_c33 : (Jvm.Cond.code ({ cls := "java/lang/Exception", name := "<init>", desc := "(Ljava/lang/String;Ljava/lang/Throwable;ZZ)V" } : Jvm.MethodName) jdk_59_method_5_code (5 : Nat) (Option.none : Option Jvm.ClassFile.FieldType)).before args0 about1 = true := code_word (m := ⟨4, 1⟩) (meth := k4m1) (c := k4c1) (by decide +kernel) rfl rfl rfl (by decide +kernel)
set_option maxRecDepth 65536 in
theorem w_c34 : (Jvm.Cond.code ({ cls := "java/lang/Throwable", name := "<init>", desc := "(Ljava/lang/String;Ljava/lang/Throwable;ZZ)V" } : Jvm.MethodName) jdk_78_method_5_code (5 : Nat) (Option.none : Option Jvm.ClassFile.FieldType)).before args0 about1 = true := code_word (m := ⟨3, 1⟩) (meth := k3m1) (c := k3c1) (by decide +kernel) rfl rfl rfl (by decide +kernel)
set_option maxRecDepth 65536 in
theorem w_c35 : (Jvm.Cond.code ({ cls := "com/example/lidmaat/lidmaat/http/Refusal", name := "status", desc := "()I" } : Jvm.MethodName) prog_19_method_6_code (1 : Nat) (Option.some Jvm.ClassFile.FieldType.int)).before args0 about1 = true := code_word (m := ⟨5, 2⟩) (meth := k5m2) (c := k5c2) (by decide +kernel) rfl rfl rfl (by decide +kernel)
def codes1 : List Jvm.Cond := [Jvm.Cond.code x code maxLocals ret, Jvm.Cond.code ({ cls := "com/example/lidmaat/lidmaat/http/Refusal", name := "headTooLarge", desc := "(I)Lcom/example/lidmaat/lidmaat/http/Refusal;" } : Jvm.MethodName) prog_19_method_3_code (1 : Nat) (Option.some (Jvm.ClassFile.FieldType.object "com/example/lidmaat/lidmaat/http/Refusal")), Jvm.Cond.code ({ cls := "java/lang/StringBuilder", name := "<init>", desc := "()V" } : Jvm.MethodName) jdk_67_method_1_code (1 : Nat) (Option.none : Option Jvm.ClassFile.FieldType), Jvm.Cond.code ({ cls := "java/lang/AbstractStringBuilder", name := "<init>", desc := "(I)V" } : Jvm.MethodName) jdk_68_method_2_code (2 : Nat) (Option.none : Option Jvm.ClassFile.FieldType), Jvm.Cond.code ({ cls := "java/lang/Object", name := "<init>", desc := "()V" } : Jvm.MethodName) object_method_1_code (1 : Nat) (Option.none : Option Jvm.ClassFile.FieldType), Jvm.Cond.code ({ cls := "java/lang/StringBuilder", name := "append", desc := "(Ljava/lang/String;)Ljava/lang/StringBuilder;" } : Jvm.MethodName) jdk_67_method_7_code (2 : Nat) (Option.some (Jvm.ClassFile.FieldType.object "java/lang/StringBuilder")), Jvm.Cond.code ({ cls := "java/lang/AbstractStringBuilder", name := "append", desc := "(Ljava/lang/String;)Ljava/lang/AbstractStringBuilder;" } : Jvm.MethodName) jdk_68_method_22_code (3 : Nat) (Option.some (Jvm.ClassFile.FieldType.object "java/lang/AbstractStringBuilder")), Jvm.Cond.code ({ cls := "java/lang/String", name := "length", desc := "()I" } : Jvm.MethodName) jdk_42_method_54_code (1 : Nat) (Option.some Jvm.ClassFile.FieldType.int), Jvm.Cond.code ({ cls := "java/lang/String", name := "coder", desc := "()B" } : Jvm.MethodName) jdk_42_method_152_code (1 : Nat) (Option.some Jvm.ClassFile.FieldType.byte), Jvm.Cond.code ({ cls := "java/lang/AbstractStringBuilder", name := "ensureCapacityInternal", desc := "(I)V" } : Jvm.MethodName) jdk_68_method_9_code (3 : Nat) (Option.none : Option Jvm.ClassFile.FieldType), Jvm.Cond.code ({ cls := "java/lang/AbstractStringBuilder", name := "newCapacity", desc := "(I)I" } : Jvm.MethodName) jdk_68_method_10_code (6 : Nat) (Option.some Jvm.ClassFile.FieldType.int), Jvm.Cond.code ({ cls := "jdk/internal/util/ArraysSupport", name := "newLength", desc := "(III)I" } : Jvm.MethodName) jdk_48_method_27_code (4 : Nat) (Option.some Jvm.ClassFile.FieldType.int), Jvm.Cond.code ({ cls := "java/lang/Math", name := "max", desc := "(II)I" } : Jvm.MethodName) jdk_29_method_65_code (2 : Nat) (Option.some Jvm.ClassFile.FieldType.int), Jvm.Cond.code ({ cls := "java/util/Arrays", name := "copyOf", desc := "([BI)[B" } : Jvm.MethodName) jdk_65_method_121_code (3 : Nat) (Option.some (Jvm.ClassFile.FieldType.array Jvm.ClassFile.FieldType.byte)), Jvm.Cond.code ({ cls := "java/lang/Math", name := "min", desc := "(II)I" } : Jvm.MethodName) jdk_29_method_69_code (2 : Nat) (Option.some Jvm.ClassFile.FieldType.int), Jvm.Cond.code ({ cls := "java/lang/AbstractStringBuilder", name := "putStringAt", desc := "(ILjava/lang/String;)V" } : Jvm.MethodName) jdk_68_method_73_code (3 : Nat) (Option.none : Option Jvm.ClassFile.FieldType), Jvm.Cond.code ({ cls := "java/lang/AbstractStringBuilder", name := "inflateIfNeededFor", desc := "(Ljava/lang/String;)V" } : Jvm.MethodName) jdk_68_method_71_code (2 : Nat) (Option.none : Option Jvm.ClassFile.FieldType), Jvm.Cond.code ({ cls := "java/lang/String", name := "getBytes", desc := "([BIB)V" } : Jvm.MethodName) jdk_42_method_147_code (4 : Nat) (Option.none : Option Jvm.ClassFile.FieldType), Jvm.Cond.code ({ cls := "java/lang/StringBuilder", name := "append", desc := "(I)Ljava/lang/StringBuilder;" } : Jvm.MethodName) jdk_67_method_15_code (2 : Nat) (Option.some (Jvm.ClassFile.FieldType.object "java/lang/StringBuilder")), Jvm.Cond.code ({ cls := "java/lang/AbstractStringBuilder", name := "append", desc := "(I)Ljava/lang/AbstractStringBuilder;" } : Jvm.MethodName) jdk_68_method_32_code (4 : Nat) (Option.some (Jvm.ClassFile.FieldType.object "java/lang/AbstractStringBuilder")), Jvm.Cond.code ({ cls := "java/lang/Integer", name := "stringSize", desc := "(I)I" } : Jvm.MethodName) jdk_33_method_13_code (4 : Nat) (Option.some Jvm.ClassFile.FieldType.int), Jvm.Cond.code ({ cls := "java/lang/AbstractStringBuilder", name := "isLatin1", desc := "()Z" } : Jvm.MethodName) jdk_68_method_68_code (1 : Nat) (Option.some Jvm.ClassFile.FieldType.boolean), Jvm.Cond.code ({ cls := "java/lang/Integer", name := "getChars", desc := "(II[B)I" } : Jvm.MethodName) jdk_33_method_12_code (7 : Nat) (Option.some Jvm.ClassFile.FieldType.int), Jvm.Cond.code ({ cls := "java/lang/StringBuilder", name := "toString", desc := "()Ljava/lang/String;" } : Jvm.MethodName) jdk_67_method_42_code (1 : Nat) (Option.some (Jvm.ClassFile.FieldType.object "java/lang/String")), Jvm.Cond.code ({ cls := "java/lang/String", name := "<init>", desc := "(Ljava/lang/StringBuilder;)V" } : Jvm.MethodName) jdk_42_method_53_code (2 : Nat) (Option.none : Option Jvm.ClassFile.FieldType), Jvm.Cond.code ({ cls := "java/lang/String", name := "<init>", desc := "(Ljava/lang/AbstractStringBuilder;Ljava/lang/Void;)V" } : Jvm.MethodName) jdk_42_method_150_code (5 : Nat) (Option.none : Option Jvm.ClassFile.FieldType), Jvm.Cond.code ({ cls := "java/lang/AbstractStringBuilder", name := "getValue", desc := "()[B" } : Jvm.MethodName) jdk_68_method_64_code (1 : Nat) (Option.some (Jvm.ClassFile.FieldType.array Jvm.ClassFile.FieldType.byte)), Jvm.Cond.code ({ cls := "java/lang/StringBuilder", name := "length", desc := "()I" } : Jvm.MethodName) jdk_67_method_93_code (1 : Nat) (Option.some Jvm.ClassFile.FieldType.int), Jvm.Cond.code ({ cls := "java/lang/AbstractStringBuilder", name := "length", desc := "()I" } : Jvm.MethodName) jdk_68_method_6_code (1 : Nat) (Option.some Jvm.ClassFile.FieldType.int), Jvm.Cond.code ({ cls := "java/util/Arrays", name := "copyOfRange", desc := "([BII)[B" } : Jvm.MethodName) jdk_65_method_132_code (3 : Nat) (Option.some (Jvm.ClassFile.FieldType.array Jvm.ClassFile.FieldType.byte)), Jvm.Cond.code ({ cls := "java/util/Arrays", name := "copyOfRangeByte", desc := "([BII)[B" } : Jvm.MethodName) jdk_65_method_133_code (5 : Nat) (Option.some (Jvm.ClassFile.FieldType.array Jvm.ClassFile.FieldType.byte)), Jvm.Cond.code ({ cls := "java/util/Arrays", name := "checkLength", desc := "(II)V" } : Jvm.MethodName) jdk_65_method_131_code (2 : Nat) (Option.none : Option Jvm.ClassFile.FieldType), Jvm.Cond.code ({ cls := "com/example/lidmaat/lidmaat/http/Refusal", name := "<init>", desc := "(ILjava/lang/String;)V" } : Jvm.MethodName) prog_19_method_1_code (3 : Nat) (Option.none : Option Jvm.ClassFile.FieldType), Jvm.Cond.code ({ cls := "java/lang/Exception", name := "<init>", desc := "(Ljava/lang/String;Ljava/lang/Throwable;ZZ)V" } : Jvm.MethodName) jdk_59_method_5_code (5 : Nat) (Option.none : Option Jvm.ClassFile.FieldType), Jvm.Cond.code ({ cls := "java/lang/Throwable", name := "<init>", desc := "(Ljava/lang/String;Ljava/lang/Throwable;ZZ)V" } : Jvm.MethodName) jdk_78_method_5_code (5 : Nat) (Option.none : Option Jvm.ClassFile.FieldType), Jvm.Cond.code ({ cls := "com/example/lidmaat/lidmaat/http/Refusal", name := "status", desc := "()I" } : Jvm.MethodName) prog_19_method_6_code (1 : Nat) (Option.some Jvm.ClassFile.FieldType.int)]
set_option maxRecDepth 65536 in
theorem codes_eq : words1.filter isCode = codes1 := rfl
theorem w_codes : ∀ c ∈ words1.filter isCode, c.before args0 about1 = true := by
  rw [codes_eq]
  intro c hc
  simp only [codes1, List.mem_cons, List.not_mem_nil, or_false] at hc
  rcases hc with rfl | rfl | rfl | rfl | rfl | rfl | rfl | rfl | rfl | rfl | rfl | rfl | rfl | rfl | rfl | rfl | rfl | rfl | rfl | rfl | rfl | rfl | rfl | rfl | rfl | rfl | rfl | rfl | rfl | rfl | rfl | rfl | rfl | rfl | rfl | rfl
  · exact w_c0
  · exact w_c1
  · exact w_c2
  · exact w_c3
  · exact w_c4
  · exact w_c5
  · exact w_c6
  · exact w_c7
  · exact w_c8
  · exact w_c9
  · exact w_c10
  · exact w_c11
  · exact w_c12
  · exact w_c13
  · exact w_c14
  · exact w_c15
  · exact w_c16
  · exact w_c17
  · exact w_c18
  · exact w_c19
  · exact w_c20
  · exact w_c21
  · exact w_c22
  · exact w_c23
  · exact w_c24
  · exact w_c25
  · exact w_c26
  · exact w_c27
  · exact w_c28
  · exact w_c29
  · exact w_c30
  · exact w_c31
  · exact w_c32
  · exact w_c33
  · exact w_c34
  · exact w_c35
set_option maxRecDepth 65536 in
theorem w_t1 : (words1.take 24).all (fun c => isCode c || c.before args0 about1) = true := by decide +kernel
set_option maxRecDepth 65536 in
theorem w_t2 : ((words1.drop 24).take 24).all (fun c => isCode c || c.before args0 about1) = true := by decide +kernel
set_option maxRecDepth 65536 in
theorem w_t3 : (((words1.drop 24).drop 24).take 24).all (fun c => isCode c || c.before args0 about1) = true := by decide +kernel
set_option maxRecDepth 65536 in
theorem w_t4 : ((((words1.drop 24).drop 24).drop 24).take 24).all (fun c => isCode c || c.before args0 about1) = true := by decide +kernel
set_option maxRecDepth 65536 in
theorem w_t5 : (((((words1.drop 24).drop 24).drop 24).drop 24).take 24).all (fun c => isCode c || c.before args0 about1) = true := by decide +kernel
set_option maxRecDepth 65536 in
theorem w_t6 : ((((((words1.drop 24).drop 24).drop 24).drop 24).drop 24).take 24).all (fun c => isCode c || c.before args0 about1) = true := by decide +kernel
set_option maxRecDepth 65536 in
theorem w_t7 : (((((((words1.drop 24).drop 24).drop 24).drop 24).drop 24).drop 24).take 24).all (fun c => isCode c || c.before args0 about1) = true := by decide +kernel
set_option maxRecDepth 65536 in
theorem w_t8 : ((((((((words1.drop 24).drop 24).drop 24).drop 24).drop 24).drop 24).drop 24).take 24).all (fun c => isCode c || c.before args0 about1) = true := by decide +kernel
set_option maxRecDepth 65536 in
theorem w_t9 : ((((((((words1.drop 24).drop 24).drop 24).drop 24).drop 24).drop 24).drop 24).drop 24).all (fun c => isCode c || c.before args0 about1) = true := by decide +kernel
theorem w_tables : (allAtoms (Jvm.Cond.code x code maxLocals ret :: tables_1)).before args0 about1 = true := by
  rw [allAtoms_all]
  show words1.all (fun c => c.before args0 about1) = true
  refine all_split ?_ w_codes
  rw [← List.take_append_drop 24 words1, List.all_append, w_t1, ← List.take_append_drop 24 (words1.drop 24), List.all_append, w_t2, ← List.take_append_drop 24 ((words1.drop 24).drop 24), List.all_append, w_t3, ← List.take_append_drop 24 (((words1.drop 24).drop 24).drop 24), List.all_append, w_t4, ← List.take_append_drop 24 ((((words1.drop 24).drop 24).drop 24).drop 24), List.all_append, w_t5, ← List.take_append_drop 24 (((((words1.drop 24).drop 24).drop 24).drop 24).drop 24), List.all_append, w_t6, ← List.take_append_drop 24 ((((((words1.drop 24).drop 24).drop 24).drop 24).drop 24).drop 24), List.all_append, w_t7, ← List.take_append_drop 24 (((((((words1.drop 24).drop 24).drop 24).drop 24).drop 24).drop 24).drop 24), List.all_append, w_t8, w_t9]
  rfl
set_option maxRecDepth 65536 in
theorem w_rest : rest_1_c.before args0 about1 = true := by decide +kernel
set_option maxRecDepth 65536 in
theorem w_case : (Jvm.Cond.and given_1 narrow_1).before args0 about1 = true := by decide +kernel
set_option maxRecDepth 65536 in
theorem w_consts : constsHeld consts_1 about1 := Jvm.Lit.constsHeldB_iff.mp (by decide +kernel)
theorem w_applies : (headSpec (Jvm.Cond.code x code maxLocals ret :: tables_1) room_1).applies x e0.platform about1 = true :=
  (Spec.applies_iff w_frames).mpr ⟨w_running, w_runnable, w_alone, w_named, w_hears, w_ripe, w_room, w_tables⟩
theorem atStart : AtStart classFile x code maxLocals ret World_1 tables_1 room_1 Calls_1 rest_1 Pre_1 launch0 p0 e0 about1 theMethod args0 below0 :=
  ⟨lists_1, trivial, launch0.admits_env _ _ _, launch0.least_env, fairChoices_fair.cas, fairChoices_fair.clock, w_frames, w_args, w_heap, w_applies, ⟨w_consts, trivial⟩, w_rest, w_case⟩
end start1
theorem witness_1 : WitnessClaimed_1 := ⟨start1.p0, start1.e0, start1.about1, start1.theMethod, start1.args0, start1.below0, start1.atStart⟩
end Jvm.Pilot.@@N@@
