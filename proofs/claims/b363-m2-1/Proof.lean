import JvmDerived
import JvmDerived.Pilot.@@N@@Statement
import JvmDerived.Pilot.@@N@@Code
set_option linter.unusedVariables false
set_option linter.unusedSimpArgs false
@@BLOCK:NumsL.lean.txt@@
namespace Jvm.Pilot.@@N@@
open Jvm Jvm.ClassFile Sem Op Lib Jvm.Free Jvm.Stand Jvm.LawKit Jvm.RoadKit Bundle Jvm.Pilot.@@N@@.Jvm.D

section Kit
/-- The run goes on from the state T with the frame f on top and comes back to the caller, and Q holds of what it returned, of the heap and of the places written. -/
def Go (p : Program) (e : Env) (below : List Frame) (s : State) (R : Room) (Q : Option Value → Heap → List Loc → Prop) (T : State) (f : JFrame) : Prop :=
  ∃ s₂ o, Steps p.tables e below (T.setTop f) s₂ ∧ s₂.status = .running ∧ Ended s₂ below o ∧ ∃ v L, o = .returned v ∧ Q v s₂.heap L ∧ FrameEnd s o s₂ L R.cells R.slots
/-- a body's contract -/
def Met (l : Launch) (Z : State) (y : MethodName) (bytes : ByteArray) (maxL : Nat) (ret : Option FieldType) (ws : List Jvm.Cond) (rm : Room) (as : Array Value) (h0 : Heap) (Q : Option Value → Heap → List Loc → Prop) : Prop :=
  MetFree l y (head1 (Jvm.Cond.code y bytes maxL ret :: ws) rm) (fun a U => a = as ∧ Z.Warmed39 U.vm ∧ U.heap = h0) (fun _ _ _ _ _ => True) (fun _ U o U' => ∃ v L, o = .returned v ∧ Q v U'.heap L ∧ FrameEnd U o U' L rm.cells rm.slots)
theorem Met.mk {l : Launch} {Z : State} {y : MethodName} {bytes : ByteArray} {maxL : Nat} {ret : Option FieldType} {ws : List Jvm.Cond} {rm : Room} {as : Array Value} {h0 : Heap} {Q : Option Value → Heap → List Loc → Prop} (hp : plainFor y = true)
    (body : ∀ (p : Program) (e : Env) (s : State) (m : MethodId) (below : List Frame) (meth : Method) (c : Code) (T : State), p.tables.exec = Jvm.exec → c.code = bytes → c.maxLocals = maxL → s.vm.findClass y.cls = some m.cls → meth.name = y.name → meth.sig.returnType = ret → meth.locks = false → Z.Warmed39 s.vm →
      Stand p l e rm s m as below meth c T [] 0 0 → T.heap = h0 → Go p e below s rm Q T (entryFrame m as maxL)) : Met l Z y bytes maxL ret ws rm as h0 Q := by
  refine MetFree.of_bodySF hp hisR ?_
  intro p e s m args below meth c s₁ Bd hml0 hP hK
  obtain ⟨rfl, hZ, hh⟩ := hP
  exact body p e s m below meth c s₁ Bd.exec Bd.bytes hml0 (findClass_of_methodNamed Bd.named) (name_of_methodNamed Bd.named Bd.method).1 Bd.returns (BodyLoose.notSynchronized Bd) hZ (Stand.of_body Bd) (by rw [← hh, Bd.state]; rfl)
variable {p : Program} {l : Launch} {e : Env} {R : Room} {s : State} {m : MethodId} {args : Array Value} {below : List Frame} {meth : Method} {c : Code} {T T' : State} {locs : List Loc} {cells slots : Nat} {R' : Room} {Q : Option Value → Heap → List Loc → Prop} {f f' : JFrame} {Z : State} {a0 : Array Value} {h h' : Heap} {pc : Nat} {Ls : Array Slot} {rest : List Value}
theorem Go.of (h : ∀ t, Steps p.tables e below (T'.setTop f') t → Steps p.tables e below (T.setTop f) t) (g : Go p e below s R Q T' f') : Go p e below s R Q T f := by
  obtain ⟨s₂, o, h1, h2⟩ := g
  exact ⟨s₂, o, h _ h1, h2⟩
theorem Go.cast (q : f = f') (g : Go p e below s R Q T f') : Go p e below s R Q T f := q ▸ g
theorem Go.join {α : Type} (P : α → Prop) (fr : α → JFrame) (k : ∀ x, P x → Go p e below s R Q T (fr x)) (g : (∀ x, P x → Go p e below s R Q T (fr x)) → Go p e below s R Q T f) : Go p e below s R Q T f := g k
theorem Go.joinT {α : Type} (X : Stand p l e R s m args below meth c T locs cells slots) (I : α → List Loc → Heap → Prop) (fr : α → JFrame) (k : ∀ x T' locs' h', Stand p l e R s m args below meth c T' locs' cells slots → T'.heap = h' → I x locs' h' → Go p e below s R' Q T' (fr x))
    (g : (∀ x T' locs' h', Stand p l e R s m args below meth c T' locs' cells slots → T'.heap = h' → I x locs' h' → Go p e below s R' Q T' (fr x)) → Go p e below s R' Q T f) : Go p e below s R' Q T f := g k
theorem Go.loop {α : Type} (μ : α → Nat) (I : α → List Loc → Heap → Prop) (fr : α → JFrame)
    (step : ∀ x T' locs' h', Stand p l e R s m args below meth c T' locs' cells slots → T'.heap = h' → I x locs' h' → (∀ y T'' locs'' h'', μ y < μ x → Stand p l e R s m args below meth c T'' locs'' cells slots → T''.heap = h'' → I y locs'' h'' → Go p e below s R' Q T'' (fr y)) → Go p e below s R' Q T' (fr x))
    (x : α) (X : Stand p l e R s m args below meth c T locs cells slots) (eT : T.heap = h) (hI : I x locs h) : Go p e below s R' Q T (fr x) := by
  obtain ⟨n, hn⟩ : ∃ n, μ x < n := ⟨_, Nat.lt_succ_self _⟩
  induction n generalizing x T locs h with
  | zero => exact absurd hn (Nat.not_lt_zero _)
  | succ n ih => exact step x T locs h X eT hI fun y T'' l'' h'' hy X'' e'' I'' => ih y X'' e'' I'' (by omega)
theorem Met.mono {y : MethodName} {bytes : ByteArray} {maxL : Nat} {ret : Option FieldType} {ws : List Jvm.Cond} {rm : Room} {as : Array Value} {h0 : Heap} {Q Q' : Option Value → Heap → List Loc → Prop} (M : Met l Z y bytes maxL ret ws rm as h0 Q) (q : ∀ v h L, Q v h L → Q' v h L) : Met l Z y bytes maxL ret ws rm as h0 Q' := by
  intro p e ha hc hk s m args below hf happ hP hK
  obtain ⟨n, o, h1, h2, h3, v, L, h4, h5, h6⟩ := M p e ha hc hk s m args below hf happ hP hK
  exact ⟨n, o, h1, h2, h3, v, L, h4, q _ _ _ h5, h6⟩
theorem Go.retW {g : JFrame} {v : Option Value} (X : Stand p l e R s m args below meth c T locs cells slots) (hv : meth.sig.returnType = none → v = none) (hlk : meth.locks = false) (hc : cells ≤ R'.cells) (hs : slots ≤ R'.slots) (q : Q v T.heap locs)
    (st : ∀ fs, (∀ (f : JFrame) (acts : List Action), f.method = m → f.locked = none → f.entered = [] → (doReturn e (T.setTop f) acts v).1 = T.setFrames fs) → Steps p.tables e below (T.setTop g) (T.setFrames fs)) : Go p e below s R' Q T g := by
  obtain ⟨fs, hr, hrun, hended, hW, hsame⟩ := X.leave (v := v) hv hlk
  exact ⟨_, _, st fs hr, hrun, hended, _, _, rfl, q, ⟨_, rfl⟩, hW, hsame.mono hc hs⟩
theorem Go.retI {z : Int32} (X : Stand p l e R s m args below meth c T locs cells slots) (hx : p.tables.exec = Jvm.exec) (hret : meth.sig.returnType = some .int) (hlk : meth.locks = false) (hd : decode c.code pc = .ok (.ireturn, 1)) (hc : cells ≤ R'.cells) (hs : slots ≤ R'.slots) (q : Q (some (.int z)) T.heap locs) :
    Go p e below s R' Q T (mkF m pc Ls (.int z :: rest)) :=
  Go.retW X (fun h => by rw [hret] at h; cases h) hlk hc hs q fun fs hr => retOut X hx hret rfl (Or.inl ⟨rfl, Or.inl rfl, z, rfl⟩) hd hr
theorem Go.retJ {z : Int64} (X : Stand p l e R s m args below meth c T locs cells slots) (hx : p.tables.exec = Jvm.exec) (hret : meth.sig.returnType = some .long) (hlk : meth.locks = false) (hd : decode c.code pc = .ok (.lreturn, 1)) (hc : cells ≤ R'.cells) (hs : slots ≤ R'.slots) (q : Q (some (.long z)) T.heap locs) :
    Go p e below s R' Q T (mkF m pc Ls (.long z :: rest)) :=
  Go.retW X (fun h => by rw [hret] at h; cases h) hlk hc hs q fun fs hr => retOut X hx hret rfl (Or.inr (Or.inl ⟨rfl, rfl, z, rfl⟩)) hd hr
theorem Go.retA {w : Value} {t : FieldType} (X : Stand p l e R s m args below meth c T locs cells slots) (hx : p.tables.exec = Jvm.exec) (hret : meth.sig.returnType = some t) (ht : t.isReference = true) (hw : w.isRef = true) (hn : narrow t w = w) (hlk : meth.locks = false) (hd : decode c.code pc = .ok (.areturn, 1)) (hc : cells ≤ R'.cells) (hs : slots ≤ R'.slots) (q : Q (some w) T.heap locs) :
    Go p e below s R' Q T (mkF m pc Ls (w :: rest)) :=
  Go.retW X (fun h => by rw [hret] at h; cases h) hlk hc hs q fun fs hr => retOut X hx hret hn (Or.inr (Or.inr (Or.inr (Or.inr ⟨rfl, ht, hw⟩)))) hd hr
theorem Go.retN {z : Int32} {t : FieldType} (X : Stand p l e R s m args below meth c T locs cells slots) (hx : p.tables.exec = Jvm.exec) (hret : meth.sig.returnType = some t) (ht : t = .boolean ∨ t = .byte ∨ t = .char ∨ t = .short) (hlk : meth.locks = false) (hd : decode c.code pc = .ok (.ireturn, 1)) (hc : cells ≤ R'.cells) (hs : slots ≤ R'.slots) (q : Q (some (.int (nar t z))) T.heap locs) :
    Go p e below s R' Q T (mkF m pc Ls (.int z :: rest)) :=
  Go.retW X (fun h => by rw [hret] at h; cases h) hlk hc hs q fun fs hr => RoadKit.retN X hx hret ht hd hr
theorem Go.retV (X : Stand p l e R s m args below meth c T locs cells slots) (hx : p.tables.exec = Jvm.exec) (hret : meth.sig.returnType = none) (hlk : meth.locks = false) (hd : decode c.code pc = .ok (.return_, 1)) (hc : cells ≤ R'.cells) (hs : slots ≤ R'.slots) (q : Q none T.heap locs) :
    Go p e below s R' Q T (mkF m pc Ls []) :=
  Go.retW X (fun _ => rfl) hlk hc hs q fun fs hr => X.returnOut hx hret hd hr
/-! fields -/
theorem Go.getF {own R0 O n d : String} {index : Nat} {a : Addr} {v : Value} (X : Stand p l e R s m args below meth c T locs cells slots) (hx : p.tables.exec = Jvm.exec) (hZ : Z.Warmed39 s.vm) (hown : s.vm.findClass own = some m.cls) (w : (Jvm.Cond.fieldLink own index R0 n d).before a0 Z = true) (via : Via Z R0 O n d) (eT : T.heap = h) (F : Fld Z h a O n d v)
    (hd : decode c.code pc = .ok (.getfield index, 3)) (k : ∀ T', Stand p l e R s m args below meth c T' locs cells slots → T'.heap = h → Go p e below s R' Q T' (mkF m (pc + 3) Ls (v :: rest))) : Go p e below s R' Q T (mkF m pc Ls (.ref a :: rest)) := by
  obtain ⟨T', X', e', st⟩ := RoadKit.getF X hx hZ hown (host := "") (Or.inl w) via eT F (g := mkF m pc Ls (.ref a :: rest)) rfl rfl hd
  exact Go.of st (k T' X' e')
theorem Go.getFN {own R0 O n d host : String} {index : Nat} {a : Addr} {v : Value} (X : Stand p l e R s m args below meth c T locs cells slots) (hx : p.tables.exec = Jvm.exec) (hZ : Z.Warmed39 s.vm) (hown : s.vm.findClass own = some m.cls) (w : (Jvm.Cond.fieldLinkNest own index R0 n d host).before a0 Z = true) (via : Via Z R0 O n d) (eT : T.heap = h) (F : Fld Z h a O n d v)
    (hd : decode c.code pc = .ok (.getfield index, 3)) (k : ∀ T', Stand p l e R s m args below meth c T' locs cells slots → T'.heap = h → Go p e below s R' Q T' (mkF m (pc + 3) Ls (v :: rest))) : Go p e below s R' Q T (mkF m pc Ls (.ref a :: rest)) := by
  obtain ⟨T', X', e', st⟩ := RoadKit.getF X hx hZ hown (Or.inr w) via eT F (g := mkF m pc Ls (.ref a :: rest)) rfl rfl hd
  exact Go.of st (k T' X' e')
theorem Go.putF {own R0 O n d C : String} {index kk : Nat} {ty : FieldType} {a : Addr} {v old : Value} (X : Stand p l e R s m args below meth c T locs cells slots) (hx : p.tables.exec = Jvm.exec) (hZ : Z.Warmed39 s.vm) (hown : s.vm.findClass own = some m.cls) (w : (Jvm.Cond.fieldLink own index R0 n d).before a0 Z = true) (via : Via Z R0 O n d) (eT : T.heap = h) (F : Fld Z h a O n d old)
    (E : Exa Z h a C) (L : (Jvm.Cond.lays C O n d).before a0 Z = true ∨ ((Jvm.Cond.laysFinal C O n d).before a0 Z = true ∧ own = O ∧ meth.name = "<init>")) (wi : (Jvm.Cond.instantiable C kk).before a0 Z = true) (hty : parseFieldDescriptor d = some ty) (hn : narrow ty v = v) (hf : fits ty v = true)
    (hd : decode c.code pc = .ok (.putfield index, 3)) (k : ∀ T' h', Stand p l e R s m args below meth c T' (locs ++ [⟨a, RoadKit.slotOf Z O n d⟩]) cells slots → T'.heap = h' → Wr h h' a (RoadKit.slotOf Z O n d) v → Go p e below s R' Q T' (mkF m (pc + 3) Ls rest)) : Go p e below s R' Q T (mkF m pc Ls (v :: .ref a :: rest)) := by
  obtain ⟨T', h', X', e', W, st⟩ := RoadKit.putF X hx hZ hown (host := "") (Or.inl w) via eT F E L wi hty hn hf (g := mkF m pc Ls (v :: .ref a :: rest)) rfl rfl hd
  exact Go.of st (k T' h' X' e' W)
theorem Go.putFN {own R0 O n d C : String} {index kk : Nat} {ty : FieldType} {a : Addr} {z : Int32} {old : Value} (X : Stand p l e R s m args below meth c T locs cells slots) (hx : p.tables.exec = Jvm.exec) (hZ : Z.Warmed39 s.vm) (hown : s.vm.findClass own = some m.cls) (w : (Jvm.Cond.fieldLink own index R0 n d).before a0 Z = true) (via : Via Z R0 O n d) (eT : T.heap = h) (F : Fld Z h a O n d old)
    (E : Exa Z h a C) (L : (Jvm.Cond.lays C O n d).before a0 Z = true ∨ ((Jvm.Cond.laysFinal C O n d).before a0 Z = true ∧ own = O ∧ meth.name = "<init>")) (wi : (Jvm.Cond.instantiable C kk).before a0 Z = true) (hty : parseFieldDescriptor d = some ty) (hn : narrow ty (.int z) = .int (nar ty z)) (hf : fits ty (.int (nar ty z)) = true)
    (hd : decode c.code pc = .ok (.putfield index, 3)) (k : ∀ T' h', Stand p l e R s m args below meth c T' (locs ++ [⟨a, RoadKit.slotOf Z O n d⟩]) cells slots → T'.heap = h' → Wr h h' a (RoadKit.slotOf Z O n d) (.int (nar ty z)) → Go p e below s R' Q T' (mkF m (pc + 3) Ls rest)) : Go p e below s R' Q T (mkF m pc Ls (.int z :: .ref a :: rest)) := by
  obtain ⟨T', h', X', e', W, st⟩ := RoadKit.putFN X hx hZ hown w via eT F E L wi hty hn hf (g := mkF m pc Ls (.int z :: .ref a :: rest)) rfl rfl hd
  exact Go.of st (k T' h' X' e' W)
/-! objects and arrays made -/
theorem Go.newO {own C : String} {index n : Nat} (X : Stand p l e R s m args below meth c T locs cells slots) (hx : p.tables.exec = Jvm.exec) (hZ : Z.Warmed39 s.vm) (hown : s.vm.findClass own = some m.cls) (w : (Jvm.Cond.classLink own index C).before a0 Z = true) (wi : (Jvm.Cond.instantiable C n).before a0 Z = true) (wz : (Jvm.Cond.initialized C).before a0 Z = true) (eT : T.heap = h)
    (hd : decode c.code pc = .ok (.new index, 3)) (hc : cells + 1 ≤ R.cells) (hl : slots + n ≤ R.slots)
    (k : ∀ T' h' a, Stand p l e R s m args below meth c T' locs (cells + 1) (slots + n) → T'.heap = h' → Ext h h' → a = h.size → Exa Z h' a C → (∀ {O nm d : String} {ty : FieldType}, Laid Z a0 C O nm d → parseFieldDescriptor d = some ty → Fld Z h' a O nm d (defaultValue ty)) → Go p e below s R' Q T' (mkF m (pc + 3) Ls (.ref a :: rest))) : Go p e below s R' Q T (mkF m pc Ls rest) := by
  obtain ⟨T', h', X', e', E, A, D, -, st⟩ := RoadKit.newO X hx hZ hown w wi wz eT (g := mkF m pc Ls rest) rfl hd hc hl
  exact Go.of st (k T' h' _ X' e' E rfl A D)
/-- an array: its kind, its length, what each place holds -/
def AV (Z : State) (h : Heap) (a : Addr) (ty : FieldType) (n : Nat) (f : Nat → Value) : Prop := ∃ cl : Cell, Arr Z h a cl ty ∧ cl.slots.size = n ∧ ∀ j, j < n → cl.slots[j]? = some (f j)
def upd (f : Nat → Value) (j : Nat) (v : Value) : Nat → Value := fun i => if i = j then v else f i
def Inb (j : Int32) (n : Nat) : Prop := ¬ j < 0 ∧ j.toNatClampNeg < n
theorem upd_same (f : Nat → Value) (j : Nat) (v : Value) : upd f j v j = v := by simp [upd]
theorem upd_ne (f : Nat → Value) {i j : Nat} (v : Value) (hn : i ≠ j) : upd f j v i = f i := by simp [upd, hn]
theorem AV.lt {a : Addr} {ty : FieldType} {n : Nat} {f : Nat → Value} (V : AV Z h a ty n f) : a < h.size := by obtain ⟨cl, A, -⟩ := V; exact A.lt
theorem AV.ext {a : Addr} {ty : FieldType} {n : Nat} {f : Nat → Value} (V : AV Z h a ty n f) (E : Ext h h') : AV Z h' a ty n f := by obtain ⟨cl, A, r⟩ := V; exact ⟨cl, A.ext E, r⟩
theorem AV.other {a b : Addr} {ty : FieldType} {n : Nat} {f : Nat → Value} {sl : Nat} {v : Value} (V : AV Z h b ty n f) (W : Wr h h' a sl v) (q : b ≠ a) : AV Z h' b ty n f := by obtain ⟨cl, A, r⟩ := V; exact ⟨cl, A.other W q, r⟩
theorem AV.keep {a : Addr} {ty : FieldType} {n : Nat} {f : Nat → Value} {ws : List Addr} (V : AV Z h a ty n f) (K : Keep h h' ws) (q : a ∉ ws) : AV Z h' a ty n f := by obtain ⟨cl, A, r⟩ := V; exact ⟨cl, ⟨K.2.1 a cl A.1 q, A.2⟩, r⟩
theorem AV.set {a : Addr} {ty : FieldType} {n : Nat} {f : Nat → Value} {j : Nat} {v : Value} (V : AV Z h a ty n f) (W : Wr h h' a j v) (hj : j < n) : AV Z h' a ty n (upd f j v) := by
  obtain ⟨cl, A, S, H⟩ := V
  refine ⟨cl.setSlot j v, A.same W, by rw [sz_set]; exact S, fun i hi => ?_⟩
  by_cases q : i = j
  · subst q; simp [upd, Cell.setSlot, S, hj]
  · rw [upd_ne f v q, ← H i hi]; exact Array.getElem?_setIfInBounds_ne (Ne.symm q)
def updJ (f : Nat → Int64) (n : Nat) (q : Int64) : Nat → Int64 := fun j => if j = n then q else f j
def updI (f : Nat → Int32) (n : Nat) (q : Int32) : Nat → Int32 := fun j => if j = n then q else f j
theorem AV.setJ {a : Addr} {ty : FieldType} {n : Nat} {f : Nat → Int64} {j : Nat} {q : Int64} (V : AV Z h a ty n (fun i => .long (f i))) (W : Wr h h' a j (.long q)) (hj : j < n) : AV Z h' a ty n (fun i => .long (updJ f j q i)) := by
  have r := V.set W hj
  have e : upd (fun i => .long (f i)) j (.long q) = fun i => .long (updJ f j q i) := by funext i; unfold upd updJ; split <;> rfl
  rw [← e]; exact r
theorem AV.setI {a : Addr} {ty : FieldType} {n : Nat} {f : Nat → Int32} {j : Nat} {q : Int32} (V : AV Z h a ty n (fun i => .int (f i))) (W : Wr h h' a j (.int q)) (hj : j < n) : AV Z h' a ty n (fun i => .int (updI f j q i)) := by
  have r := V.set W hj
  have e : upd (fun i => .int (f i)) j (.int q) = fun i => .int (updI f j q i) := by funext i; unfold upd updI; split <;> rfl
  rw [← e]; exact r
def updD (f : Nat → UInt64) (n : Nat) (q : UInt64) : Nat → UInt64 := fun j => if j = n then q else f j
theorem AV.setD {a : Addr} {ty : FieldType} {n : Nat} {f : Nat → UInt64} {j : Nat} {q : UInt64} (V : AV Z h a ty n (fun i => .double (f i))) (W : Wr h h' a j (.double q)) (hj : j < n) : AV Z h' a ty n (fun i => .double (updD f j q i)) := by
  have r := V.set W hj
  have e : upd (fun i => .double (f i)) j (.double q) = fun i => .double (updD f j q i) := by funext i; unfold upd updD; split <;> rfl
  rw [← e]; exact r
theorem AV.congr {a : Addr} {ty : FieldType} {n : Nat} {f g : Nat → Value} (V : AV Z h a ty n f) (q : ∀ j, j < n → f j = g j) : AV Z h a ty n g := by
  obtain ⟨cl, A, S, H⟩ := V; exact ⟨cl, A, S, fun j hj => by rw [← q j hj]; exact H j hj⟩
theorem AV.new {a : Addr} {ty : FieldType} {cA : ClassId} {z : Int32} (A : Arr Z h a (newA cA ty z) ty) : AV Z h a ty z.toNatClampNeg (fun _ => defaultValue ty) :=
  ⟨_, A, sz_new _ _ _, fun j hj => by simp [newA, hj]⟩
theorem Inb.not {j : Int32} {n : Nat} (i : Inb j n) {k : Nat} (hk : k = n) : ¬ (j < 0 ∨ k ≤ j.toNatClampNeg) := fun q => q.elim i.1 (fun r => absurd i.2 (by omega))
theorem Go.newP {aty : ArrayType} {n : Int32} (X : Stand p l e R s m args below meth c T locs cells slots) (hx : p.tables.exec = Jvm.exec) (hZ : Z.Warmed39 s.vm) (w : (Jvm.Cond.arrayClass (newarray.typeOf aty)).before a0 Z = true) (eT : T.heap = h) (hd : decode c.code pc = .ok (.newarray aty, 2)) (hn : ¬ n < 0) (cap : Nat) (hcap : n.toNatClampNeg ≤ cap) (hb : cap * 8 ≤ 536870912) (hc : cells + 1 ≤ R.cells) (hl : slots + cap ≤ R.slots)
    (k : ∀ T' h' a, Stand p l e R s m args below meth c T' locs (cells + 1) (slots + cap) → T'.heap = h' → Ext h h' → a = h.size → AV Z h' a (newarray.typeOf aty) n.toNatClampNeg (fun _ => defaultValue (newarray.typeOf aty)) → Go p e below s R' Q T' (mkF m (pc + 2) Ls (.ref a :: rest))) : Go p e below s R' Q T (mkF m pc Ls (.int n :: rest)) := by
  obtain ⟨T', h', cA, X', e', E, A, st⟩ := RoadKit.newP X hx hZ w eT (g := mkF m pc Ls (.int n :: rest)) rfl hd rfl hn hcap hb hc hl
  exact Go.of st (k T' h' _ X' e' E rfl (AV.new A))
theorem Go.stI {a : Addr} {n : Nat} {g : Nat → Value} {j x : Int32} (X : Stand p l e R s m args below meth c T locs cells slots) (hx : p.tables.exec = Jvm.exec) (hZ : Z.Warmed39 s.vm) (eT : T.heap = h) (V : AV Z h a .int n g) (hj : Inb j n) (hd : decode c.code pc = .ok (.iastore, 1))
    (k : ∀ T' h', Stand p l e R s m args below meth c T' (locs ++ [⟨a, j.toNatClampNeg⟩]) cells slots → T'.heap = h' → Wr h h' a j.toNatClampNeg (.int x) → Go p e below s R' Q T' (mkF m (pc + 1) Ls rest)) : Go p e below s R' Q T (mkF m pc Ls (.int x :: .int j :: .ref a :: rest)) := by
  obtain ⟨cl, A, S, H⟩ := V
  obtain ⟨T', h', X', e', W, st⟩ := RoadKit.stI X hx hZ eT A (x := x) (hj.not S) (g := mkF m pc Ls (.int x :: .int j :: .ref a :: rest)) rfl rfl hd
  exact Go.of st (k T' h' X' e' W)
theorem Go.stJ {a : Addr} {n : Nat} {g : Nat → Value} {j : Int32} {x : Int64} (X : Stand p l e R s m args below meth c T locs cells slots) (hx : p.tables.exec = Jvm.exec) (hZ : Z.Warmed39 s.vm) (eT : T.heap = h) (V : AV Z h a .long n g) (hj : Inb j n) (hd : decode c.code pc = .ok (.lastore, 1))
    (k : ∀ T' h', Stand p l e R s m args below meth c T' (locs ++ [⟨a, j.toNatClampNeg⟩]) cells slots → T'.heap = h' → Wr h h' a j.toNatClampNeg (.long x) → Go p e below s R' Q T' (mkF m (pc + 1) Ls rest)) : Go p e below s R' Q T (mkF m pc Ls (.long x :: .int j :: .ref a :: rest)) := by
  obtain ⟨cl, A, S, H⟩ := V
  obtain ⟨T', h', X', e', W, st⟩ := RoadKit.stJ X hx hZ eT A (x := x) (hj.not S) (g := mkF m pc Ls (.long x :: .int j :: .ref a :: rest)) rfl rfl hd
  exact Go.of st (k T' h' X' e' W)
theorem Go.stC {a : Addr} {n : Nat} {g : Nat → Value} {j x : Int32} (X : Stand p l e R s m args below meth c T locs cells slots) (hx : p.tables.exec = Jvm.exec) (hZ : Z.Warmed39 s.vm) (eT : T.heap = h) (V : AV Z h a .char n g) (hj : Inb j n) (hd : decode c.code pc = .ok (.castore, 1))
    (k : ∀ T' h', Stand p l e R s m args below meth c T' (locs ++ [⟨a, j.toNatClampNeg⟩]) cells slots → T'.heap = h' → Wr h h' a j.toNatClampNeg (.int (nar .char x)) → Go p e below s R' Q T' (mkF m (pc + 1) Ls rest)) : Go p e below s R' Q T (mkF m pc Ls (.int x :: .int j :: .ref a :: rest)) := by
  obtain ⟨cl, A, S, H⟩ := V
  obtain ⟨T', h', X', e', W, st⟩ := RoadKit.stC X hx hZ eT A (x := x) (hj.not S) (g := mkF m pc Ls (.int x :: .int j :: .ref a :: rest)) rfl rfl hd
  exact Go.of st (k T' h' X' e' W)
theorem Go.stB {a : Addr} {n : Nat} {g : Nat → Value} {j x : Int32} (X : Stand p l e R s m args below meth c T locs cells slots) (hx : p.tables.exec = Jvm.exec) (hZ : Z.Warmed39 s.vm) (eT : T.heap = h) (V : AV Z h a .byte n g) (hj : Inb j n) (hd : decode c.code pc = .ok (.bastore, 1))
    (k : ∀ T' h', Stand p l e R s m args below meth c T' (locs ++ [⟨a, j.toNatClampNeg⟩]) cells slots → T'.heap = h' → Wr h h' a j.toNatClampNeg (.int (nar .byte x)) → Go p e below s R' Q T' (mkF m (pc + 1) Ls rest)) : Go p e below s R' Q T (mkF m pc Ls (.int x :: .int j :: .ref a :: rest)) := by
  obtain ⟨cl, A, S, H⟩ := V
  obtain ⟨T', h', X', e', W, st⟩ := RoadKit.stB X hx hZ eT A (x := x) (hj.not S) (g := mkF m pc Ls (.int x :: .int j :: .ref a :: rest)) rfl rfl hd
  exact Go.of st (k T' h' X' e' W)
theorem Go.stD {a : Addr} {n : Nat} {g : Nat → Value} {j : Int32} {x : UInt64} (X : Stand p l e R s m args below meth c T locs cells slots) (hx : p.tables.exec = Jvm.exec) (hZ : Z.Warmed39 s.vm) (eT : T.heap = h) (V : AV Z h a .double n g) (hj : Inb j n) (hd : decode c.code pc = .ok (.dastore, 1))
    (k : ∀ T' h', Stand p l e R s m args below meth c T' (locs ++ [⟨a, j.toNatClampNeg⟩]) cells slots → T'.heap = h' → Wr h h' a j.toNatClampNeg (.double x) → Go p e below s R' Q T' (mkF m (pc + 1) Ls rest)) : Go p e below s R' Q T (mkF m pc Ls (.double x :: .int j :: .ref a :: rest)) := by
  obtain ⟨cl, A, S, H⟩ := V
  obtain ⟨T', h', X', e', W, st⟩ := RoadKit.stD X hx hZ eT A (x := x) (hj.not S) (g := mkF m pc Ls (.double x :: .int j :: .ref a :: rest)) rfl rfl hd
  exact Go.of st (k T' h' X' e' W)
theorem Go.ldD {a : Addr} {n : Nat} {g : Nat → Value} {j : Int32} (v : Value) (X : Stand p l e R s m args below meth c T locs cells slots) (hx : p.tables.exec = Jvm.exec) (hZ : Z.Warmed39 s.vm) (eT : T.heap = h) (V : AV Z h a .double n g) (hj : Inb j n) (hv : g j.toNatClampNeg = v) (hd : decode c.code pc = .ok (.daload, 1))
    (k : Go p e below s R' Q T (mkF m (pc + 1) Ls (v :: rest))) : Go p e below s R' Q T (mkF m pc Ls (.int j :: .ref a :: rest)) := by
  obtain ⟨cl, A, S, H⟩ := V
  exact Go.of (X.daload hx (by rw [eT]; exact A.1) (State.isArrayOf_alike hZ.alike A.2.1) A.2.2 (hj.not S) ((H _ hj.2).trans (by rw [hv])) (g := mkF m pc Ls (.int j :: .ref a :: rest)) rfl rfl hd) k
theorem Go.ldI {a : Addr} {n : Nat} {g : Nat → Value} {j : Int32} (v : Value) (X : Stand p l e R s m args below meth c T locs cells slots) (hx : p.tables.exec = Jvm.exec) (hZ : Z.Warmed39 s.vm) (eT : T.heap = h) (V : AV Z h a .int n g) (hj : Inb j n) (hv : g j.toNatClampNeg = v) (hd : decode c.code pc = .ok (.iaload, 1))
    (k : Go p e below s R' Q T (mkF m (pc + 1) Ls (v :: rest))) : Go p e below s R' Q T (mkF m pc Ls (.int j :: .ref a :: rest)) := by
  obtain ⟨cl, A, S, H⟩ := V
  exact Go.of (X.iaload hx (by rw [eT]; exact A.1) (State.isArrayOf_alike hZ.alike A.2.1) A.2.2 (hj.not S) ((H _ hj.2).trans (by rw [hv])) (g := mkF m pc Ls (.int j :: .ref a :: rest)) rfl rfl hd) k
theorem Go.ldJ {a : Addr} {n : Nat} {g : Nat → Value} {j : Int32} (v : Value) (X : Stand p l e R s m args below meth c T locs cells slots) (hx : p.tables.exec = Jvm.exec) (hZ : Z.Warmed39 s.vm) (eT : T.heap = h) (V : AV Z h a .long n g) (hj : Inb j n) (hv : g j.toNatClampNeg = v) (hd : decode c.code pc = .ok (.laload, 1))
    (k : Go p e below s R' Q T (mkF m (pc + 1) Ls (v :: rest))) : Go p e below s R' Q T (mkF m pc Ls (.int j :: .ref a :: rest)) := by
  obtain ⟨cl, A, S, H⟩ := V
  exact Go.of (X.laload hx (by rw [eT]; exact A.1) (State.isArrayOf_alike hZ.alike A.2.1) A.2.2 (hj.not S) ((H _ hj.2).trans (by rw [hv])) (g := mkF m pc Ls (.int j :: .ref a :: rest)) rfl rfl hd) k
theorem Go.ldC {a : Addr} {n : Nat} {g : Nat → Value} {j : Int32} (v : Value) (X : Stand p l e R s m args below meth c T locs cells slots) (hx : p.tables.exec = Jvm.exec) (hZ : Z.Warmed39 s.vm) (eT : T.heap = h) (V : AV Z h a .char n g) (hj : Inb j n) (hv : g j.toNatClampNeg = v) (hd : decode c.code pc = .ok (.caload, 1))
    (k : Go p e below s R' Q T (mkF m (pc + 1) Ls (v :: rest))) : Go p e below s R' Q T (mkF m pc Ls (.int j :: .ref a :: rest)) := by
  obtain ⟨cl, A, S, H⟩ := V
  exact Go.of (X.caload hx (by rw [eT]; exact A.1) (State.isArrayOf_alike hZ.alike A.2.1) A.2.2 (hj.not S) ((H _ hj.2).trans (by rw [hv])) (g := mkF m pc Ls (.int j :: .ref a :: rest)) rfl rfl hd) k
theorem Go.ldB {a : Addr} {n : Nat} {g : Nat → Value} {j : Int32} (v : Value) (X : Stand p l e R s m args below meth c T locs cells slots) (hx : p.tables.exec = Jvm.exec) (hZ : Z.Warmed39 s.vm) (eT : T.heap = h) (V : AV Z h a .byte n g) (hj : Inb j n) (hv : g j.toNatClampNeg = v) (hd : decode c.code pc = .ok (.baload, 1))
    (k : Go p e below s R' Q T (mkF m (pc + 1) Ls (v :: rest))) : Go p e below s R' Q T (mkF m pc Ls (.int j :: .ref a :: rest)) := by
  obtain ⟨cl, A, S, H⟩ := V
  exact Go.of (X.baloadBytes hx (by rw [eT]; exact A.1) (State.isArrayOf_alike hZ.alike A.2.1) A.2.2 (hj.not S) ((H _ hj.2).trans (by rw [hv])) (g := mkF m pc Ls (.int j :: .ref a :: rest)) rfl rfl hd) k
theorem Go.alen {a : Addr} {n : Nat} {ty : FieldType} {g : Nat → Value} (z : Int32) (X : Stand p l e R s m args below meth c T locs cells slots) (hx : p.tables.exec = Jvm.exec) (hZ : Z.Warmed39 s.vm) (eT : T.heap = h) (V : AV Z h a ty n g) (hz : n.toInt32 = z) (hd : decode c.code pc = .ok (.arraylength, 1))
    (k : Go p e below s R' Q T (mkF m (pc + 1) Ls (.int z :: rest))) : Go p e below s R' Q T (mkF m pc Ls (.ref a :: rest)) := by
  obtain ⟨cl, A, S, H⟩ := V
  refine Go.of (X.arraylength hx (by rw [eT]; exact A.1) (State.isArrayOf_alike hZ.alike A.2.1) (g := mkF m pc Ls (.ref a :: rest)) rfl rfl hd) ?_
  rw [S, hz]; exact k
/-! calls -/
theorem Go.initO {own : String} {idx : Nat} {a : Addr} (X : Stand p l e R s m args below meth c T locs cells slots) (hx : p.tables.exec = Jvm.exec) (hZ : Z.Warmed39 s.vm) (hown : s.vm.findClass own = some m.cls) (w1 : (Jvm.Cond.methodLink own idx Lib.objectInit).before a0 Z = true) (w2 : (Jvm.Cond.instanceMethod Lib.objectInit).before a0 Z = true) (w3 : (Jvm.Cond.code Lib.objectInit ⟨#[0xb1]⟩ 1 none).before a0 Z = true) (eT : T.heap = h)
    (hsz : Ls.size = c.maxLocals) (hd : decode c.code pc = .ok (.invokespecial idx, 3)) (hf : 1 ≤ R.frames) (W : Nat) (hW : (rest.map fun v => v.category).sum ≤ W) (hl : W + 12 ≤ R.locals) (k : ∀ T', Stand p l e R s m args below meth c T' locs cells slots → T'.heap = h → Go p e below s R' Q T' (mkF m (pc + 3) Ls rest)) : Go p e below s R' Q T (mkF m pc Ls (.ref a :: rest)) := by
  obtain ⟨T', X', e', st⟩ := RoadKit.initO X hx hZ hown w1 w2 w3 eT (g := mkF m pc Ls (.ref a :: rest)) rfl hsz rfl hd hf (W := W) (by show 2 * 0 + _ ≤ _; omega) hl
  exact Go.of st (k T' X' e')
theorem Go.static {own : String} {index : Nat} {y : MethodName} {bytes : ByteArray} {maxL : Nat} {ret : Option FieldType} {rm : Room} {as : Array Value} {Qc : Option Value → Heap → List Loc → Prop} (X : Stand p l e R s m args below meth c T locs cells slots) (hx : p.tables.exec = Jvm.exec) (hZ : Z.Warmed39 s.vm) (hown : s.vm.findClass own = some m.cls)
    (w1 : (Jvm.Cond.methodLink own index y).before a0 Z = true) (w2 : (Jvm.Cond.static y).before a0 Z = true) (w3 : (Jvm.Cond.initialized y.cls).before a0 Z = true) (w4 : (Jvm.Cond.code y bytes maxL ret).before a0 Z = true) (hy : y.cls ≠ "java/lang/invoke/MethodHandle" ∧ y.cls ≠ "java/lang/invoke/VarHandle")
    (M : Met l Z y bytes maxL ret [] rm as h Qc) (eT : T.heap = h) (W : Nat) (hf : rm.frames + 1 ≤ R.frames) (hl : W + (maxL + 11) + rm.locals ≤ R.locals) (hc : cells + rm.cells ≤ R.cells) (hs : slots + rm.slots ≤ R.slots) (hsz : Ls.size = c.maxLocals) {st argsL : List Value} (rest : List Value) (hlen : ∀ sig, parseMethodDescriptor y.desc = some sig → argsL.length = sig.parameters.length)
    (has : argsL.toArray = as) (hst : st = argsL.reverse ++ rest) (hW : (rest.map fun v => v.category).sum ≤ W) (hd : decode c.code pc = .ok (.invokestatic index, 3))
    (k : ∀ v T' L', Stand p l e R s m args below meth c T' (locs ++ L') (cells + rm.cells) (slots + rm.slots) → Qc v T'.heap L' → Go p e below s R' Q T' (mkF m (pc + 3) Ls (v.toList ++ rest))) : Go p e below s R' Q T (mkF m pc Ls st) := by
  obtain ⟨v, _, ⟨T1, L1, k1, n1⟩, -, X1, ⟨Lc, hQ, l1, y1, z1⟩, stp⟩ := Jvm.LawKit.callS X hx (y := y) hown (mvT hZ w1) (mvT hZ w2) (mvT hZ w3) (mvT hZ w4) hy (backOf (W := W) M hZ w4 w3 hf hl) (g := mkF m pc Ls st) rfl hsz (argsL := argsL) (rest := rest) hlen hst (by show 2 * 0 + _ ≤ _; omega) hd (fun _ _ => ⟨has, eT, hc, hs⟩)
  dsimp only [Pt.U, Pt.locs, Pt.cells, Pt.slots] at X1 l1 y1 z1 stp hQ
  subst l1 y1 z1
  exact Go.of stp (k v T1 Lc X1 hQ)
theorem Go.special {own : String} {index : Nat} {y : MethodName} {bytes : ByteArray} {maxL : Nat} {rm : Room} {as : Array Value} {a : Addr} {Qc : Option Value → Heap → List Loc → Prop} (X : Stand p l e R s m args below meth c T locs cells slots) (hx : p.tables.exec = Jvm.exec) (hZ : Z.Warmed39 s.vm) (hown : s.vm.findClass own = some m.cls) (hy1 : y.name = "<init>")
    (w1 : (Jvm.Cond.methodLink own index y).before a0 Z = true) (w2 : (Jvm.Cond.instanceMethod y).before a0 Z = true) (w3 : (Jvm.Cond.initialized y.cls).before a0 Z = true) (w4 : (Jvm.Cond.code y bytes maxL none).before a0 Z = true) (hy : y.cls ≠ "java/lang/invoke/MethodHandle" ∧ y.cls ≠ "java/lang/invoke/VarHandle")
    (M : Met l Z y bytes maxL none [] rm as h Qc) (eT : T.heap = h) (W : Nat) (hf : rm.frames + 1 ≤ R.frames) (hl : W + (maxL + 11) + rm.locals ≤ R.locals) (hc : cells + rm.cells ≤ R.cells) (hs : slots + rm.slots ≤ R.slots) (hsz : Ls.size = c.maxLocals) {st argsL : List Value} (rest : List Value) (hlen : ∀ sig, parseMethodDescriptor y.desc = some sig → argsL.length = sig.parameters.length)
    (has : (.ref a :: argsL : List Value).toArray = as) (hst : st = argsL.reverse ++ .ref a :: rest) (hW : (rest.map fun v => v.category).sum ≤ W) (hd : decode c.code pc = .ok (.invokespecial index, 3))
    (k : ∀ v T' L', Stand p l e R s m args below meth c T' (locs ++ L') (cells + rm.cells) (slots + rm.slots) → Qc v T'.heap L' → Go p e below s R' Q T' (mkF m (pc + 3) Ls (v.toList ++ rest))) : Go p e below s R' Q T (mkF m pc Ls st) := by
  obtain ⟨v, _, ⟨T1, L1, k1, n1⟩, -, X1, ⟨Lc, hQ, l1, y1, z1⟩, stp⟩ := X.specialBack hx (y := y) hy1 hown (mvT hZ w1) (mvT hZ w2) (mvT hZ w4) hy (backOf (W := W) M hZ w4 w3 hf hl) (g := mkF m pc Ls st) rfl hsz (Steps.refl _) (a := a) (argsL := argsL) (rest := rest) hlen hst (by show 2 * 0 + _ ≤ _; omega) hd (fun _ _ => ⟨has, eT, hc, hs⟩)
  dsimp only [Pt.U, Pt.locs, Pt.cells, Pt.slots] at X1 l1 y1 z1 stp hQ
  subst l1 y1 z1
  exact Go.of (fun _ q => stp.trans q) (k v T1 Lc X1 hQ)
theorem Go.virtual {own C : String} {index : Nat} {y z : MethodName} {bytes : ByteArray} {maxL : Nat} {ret : Option FieldType} {rm : Room} {as : Array Value} {a : Addr} {Qc : Option Value → Heap → List Loc → Prop} (X : Stand p l e R s m args below meth c T locs cells slots) (hx : p.tables.exec = Jvm.exec) (hZ : Z.Warmed39 s.vm) (hown : s.vm.findClass own = some m.cls)
    (w1 : (Jvm.Cond.methodLink own index y).before a0 Z = true) (w2 : (Jvm.Cond.declares y).before a0 Z = true) (nf : NotFace s y) (ws : (Jvm.Cond.selects C y z).before a0 Z = true) (wi : (Jvm.Cond.instanceMethod z).before a0 Z = true) (w3 : (Jvm.Cond.initialized z.cls).before a0 Z = true) (w4 : (Jvm.Cond.code z bytes maxL ret).before a0 Z = true) (hy : y.cls ≠ "java/lang/invoke/MethodHandle" ∧ y.cls ≠ "java/lang/invoke/VarHandle")
    (M : Met l Z z bytes maxL ret [] rm as h Qc) (eT : T.heap = h) (E : Exa Z h a C) (W : Nat) (hf : rm.frames + 1 ≤ R.frames) (hl : W + (maxL + 11) + rm.locals ≤ R.locals) (hc : cells + rm.cells ≤ R.cells) (hs : slots + rm.slots ≤ R.slots) (hsz : Ls.size = c.maxLocals) {st argsL : List Value} (rest : List Value) (hlen : ∀ sig, parseMethodDescriptor y.desc = some sig → argsL.length = sig.parameters.length)
    (has : (.ref a :: argsL : List Value).toArray = as) (hst : st = argsL.reverse ++ .ref a :: rest) (hW : (rest.map fun v => v.category).sum ≤ W) (hd : decode c.code pc = .ok (.invokevirtual index, 3))
    (k : ∀ v T' L', Stand p l e R s m args below meth c T' (locs ++ L') (cells + rm.cells) (slots + rm.slots) → Qc v T'.heap L' → Go p e below s R' Q T' (mkF m (pc + 3) Ls (v.toList ++ rest))) : Go p e below s R' Q T (mkF m pc Ls st) := by
  obtain ⟨cq, kq, qa, qb, qc⟩ := isOf hZ eT E
  obtain ⟨v, _, ⟨T1, L1, k1, n1⟩, -, X1, ⟨Lc, hQ, l1, y1, z1⟩, stp⟩ := X.virtualBack hx (y := y) (z := z) hown (mvT hZ w1) (mvT hZ w2) nf (mvT hZ ws) (mvT hZ wi) hy (backOf (W := W) M hZ w4 w3 hf hl) qa qc (g := mkF m pc Ls st) rfl hsz (Steps.refl _) (argsL := argsL) (rest := rest) hlen hst (by show 2 * 0 + _ ≤ _; omega) hd (fun _ _ => ⟨has, eT, hc, hs⟩)
  dsimp only [Pt.U, Pt.locs, Pt.cells, Pt.slots] at X1 l1 y1 z1 stp hQ
  subst l1 y1 z1
  exact Go.of (fun _ q => stp.trans q) (k v T1 Lc X1 hQ)
theorem Go.priv {own C : String} {index : Nat} {y : MethodName} {bytes : ByteArray} {maxL : Nat} {ret : Option FieldType} {rm : Room} {as : Array Value} {a : Addr} {Qc : Option Value → Heap → List Loc → Prop} (X : Stand p l e R s m args below meth c T locs cells slots) (hx : p.tables.exec = Jvm.exec) (hZ : Z.Warmed39 s.vm) (hown : s.vm.findClass own = some m.cls)
    (w1 : (Jvm.Cond.methodLink own index y).before a0 Z = true) (wi : (Jvm.Cond.instanceMethod y).before a0 Z = true) {kk : Nat} (wk : (Jvm.Cond.instantiable y.cls kk).before a0 Z = true) (wp : (Jvm.Cond.privateMethod y).before a0 Z = true) (w3 : (Jvm.Cond.initialized y.cls).before a0 Z = true) (w4 : (Jvm.Cond.code y bytes maxL ret).before a0 Z = true) (hy : y.cls ≠ "java/lang/invoke/MethodHandle" ∧ y.cls ≠ "java/lang/invoke/VarHandle")
    (M : Met l Z y bytes maxL ret [] rm as h Qc) (eT : T.heap = h) (E : Exa Z h a C) (W : Nat) (hf : rm.frames + 1 ≤ R.frames) (hl : W + (maxL + 11) + rm.locals ≤ R.locals) (hc : cells + rm.cells ≤ R.cells) (hs : slots + rm.slots ≤ R.slots) (hsz : Ls.size = c.maxLocals) {st argsL : List Value} (rest : List Value) (hlen : ∀ sig, parseMethodDescriptor y.desc = some sig → argsL.length = sig.parameters.length)
    (has : (.ref a :: argsL : List Value).toArray = as) (hst : st = argsL.reverse ++ .ref a :: rest) (hW : (rest.map fun v => v.category).sum ≤ W) (hd : decode c.code pc = .ok (.invokevirtual index, 3))
    (k : ∀ v T' L', Stand p l e R s m args below meth c T' (locs ++ L') (cells + rm.cells) (slots + rm.slots) → Qc v T'.heap L' → Go p e below s R' Q T' (mkF m (pc + 3) Ls (v.toList ++ rest))) : Go p e below s R' Q T (mkF m pc Ls st) := by
  obtain ⟨cq, qa, qb⟩ := E.cell
  have hp : s.PrivateAt y := Cond.privateMethod_at (mvP hZ wp (args := #[]))
  obtain ⟨ci, ki, i1, i2, -, i4, -⟩ := Cond.instantiable_spec (show (Jvm.Cond.instantiable y.cls kk).before args s = true from mvT hZ wk)
  have hsel : (Jvm.Cond.selects y.cls y y).before args s = true := selects_self_of_private i1 i2 (by revert i4; cases ki.isInterface <;> simp) hp (mvT hZ wi) hy
  obtain ⟨v, _, ⟨T1, L1, k1, n1⟩, -, X1, ⟨Lc, hQ, l1, y1, z1⟩, stp⟩ := X.privateBack hx (y := y) hown (mvT hZ w1) (mvT hZ wi) hsel hp (mvT hZ w4) hy (backOf (W := W) M hZ w4 w3 hf hl) (g := mkF m pc Ls st) rfl hsz (Steps.refl _) (a := a) (by rw [eT]; exact qa) qb (argsL := argsL) (rest := rest) hlen hst (by show 2 * 0 + _ ≤ _; omega) hd (fun _ _ => ⟨has, eT, hc, hs⟩)
  dsimp only [Pt.U, Pt.locs, Pt.cells, Pt.slots] at X1 l1 y1 z1 stp hQ
  subst l1 y1 z1
  exact Go.of (fun _ q => stp.trans q) (k v T1 Lc X1 hQ)
/-! conditions -/
theorem cZlt {x y : Int64} (q : x < y) : ifCond.holds .lt (lcmpW x y) = true ∧ ifCond.holds .ge (lcmpW x y) = false := ⟨(if0 _ _).trans (tlt ((lw_lt x y).mpr q)).1, (if0 _ _).trans (tlt ((lw_lt x y).mpr q)).2.1⟩
theorem cFlt {x y : Int64} (q : ¬ x < y) : ifCond.holds .lt (lcmpW x y) = false ∧ ifCond.holds .ge (lcmpW x y) = true := ⟨(if0 _ _).trans (flt (fun r => q ((lw_lt x y).mp r))).1, (if0 _ _).trans (flt (fun r => q ((lw_lt x y).mp r))).2.1⟩
theorem cZgt {x y : Int64} (q : y < x) : ifCond.holds .gt (lcmpW x y) = true ∧ ifCond.holds .le (lcmpW x y) = false := ⟨(if0 _ _).trans (tlt ((lw_gt x y).mpr q)).2.2.1, (if0 _ _).trans (tlt ((lw_gt x y).mpr q)).2.2.2⟩
theorem cFgt {x y : Int64} (q : ¬ y < x) : ifCond.holds .gt (lcmpW x y) = false ∧ ifCond.holds .le (lcmpW x y) = true := ⟨(if0 _ _).trans (flt (fun r => q ((lw_gt x y).mp r))).2.2.1, (if0 _ _).trans (flt (fun r => q ((lw_gt x y).mp r))).2.2.2⟩
theorem cZeq {x y : Int64} (q : x = y) : ifCond.holds .eq (lcmpW x y) = true ∧ ifCond.holds .ne (lcmpW x y) = false := ⟨(if0 _ _).trans (teq ((lw_eq x y).mpr q)).1, (if0 _ _).trans (teq ((lw_eq x y).mpr q)).2⟩
theorem cFeq {x y : Int64} (q : ¬ x = y) : ifCond.holds .eq (lcmpW x y) = false ∧ ifCond.holds .ne (lcmpW x y) = true := ⟨(if0 _ _).trans (feq (fun r => q ((lw_eq x y).mp r))).1, (if0 _ _).trans (feq (fun r => q ((lw_eq x y).mp r))).2⟩
end Kit
theorem own_ni0 {a : Addr}  : a ∉ ([] : List Addr) := by simp [*]
theorem own_all0 {P : Addr → Prop} {b0 : Addr}  : ∀ x ∈ ([] : List Addr), P x := by intro x hx; cases hx
theorem own_ni1 {a b0 : Addr} (q0 : a ≠ b0) : a ∉ ([b0] : List Addr) := by simp [*]
theorem own_all1 {P : Addr → Prop} {b0 : Addr} (q0 : P b0) : ∀ x ∈ ([b0] : List Addr), P x := by intro x hx; simp only [List.mem_cons, List.not_mem_nil, or_false] at hx; subst hx; assumption
theorem own_ni2 {a b0 b1 : Addr} (q0 : a ≠ b0) (q1 : a ≠ b1) : a ∉ ([b0, b1] : List Addr) := by simp [*]
theorem own_all2 {P : Addr → Prop} {b0 b1 : Addr} (q0 : P b0) (q1 : P b1) : ∀ x ∈ ([b0, b1] : List Addr), P x := by intro x hx; simp only [List.mem_cons, List.not_mem_nil, or_false] at hx; rcases hx with rfl | rfl <;> assumption
theorem own_ni3 {a b0 b1 b2 : Addr} (q0 : a ≠ b0) (q1 : a ≠ b1) (q2 : a ≠ b2) : a ∉ ([b0, b1, b2] : List Addr) := by simp [*]
theorem own_all3 {P : Addr → Prop} {b0 b1 b2 : Addr} (q0 : P b0) (q1 : P b1) (q2 : P b2) : ∀ x ∈ ([b0, b1, b2] : List Addr), P x := by intro x hx; simp only [List.mem_cons, List.not_mem_nil, or_false] at hx; rcases hx with rfl | rfl | rfl <;> assumption
theorem own_ni4 {a b0 b1 b2 b3 : Addr} (q0 : a ≠ b0) (q1 : a ≠ b1) (q2 : a ≠ b2) (q3 : a ≠ b3) : a ∉ ([b0, b1, b2, b3] : List Addr) := by simp [*]
theorem own_all4 {P : Addr → Prop} {b0 b1 b2 b3 : Addr} (q0 : P b0) (q1 : P b1) (q2 : P b2) (q3 : P b3) : ∀ x ∈ ([b0, b1, b2, b3] : List Addr), P x := by intro x hx; simp only [List.mem_cons, List.not_mem_nil, or_false] at hx; rcases hx with rfl | rfl | rfl | rfl <;> assumption
theorem own_ni5 {a b0 b1 b2 b3 b4 : Addr} (q0 : a ≠ b0) (q1 : a ≠ b1) (q2 : a ≠ b2) (q3 : a ≠ b3) (q4 : a ≠ b4) : a ∉ ([b0, b1, b2, b3, b4] : List Addr) := by simp [*]
theorem own_all5 {P : Addr → Prop} {b0 b1 b2 b3 b4 : Addr} (q0 : P b0) (q1 : P b1) (q2 : P b2) (q3 : P b3) (q4 : P b4) : ∀ x ∈ ([b0, b1, b2, b3, b4] : List Addr), P x := by intro x hx; simp only [List.mem_cons, List.not_mem_nil, or_false] at hx; rcases hx with rfl | rfl | rfl | rfl | rfl <;> assumption
theorem own_ni6 {a b0 b1 b2 b3 b4 b5 : Addr} (q0 : a ≠ b0) (q1 : a ≠ b1) (q2 : a ≠ b2) (q3 : a ≠ b3) (q4 : a ≠ b4) (q5 : a ≠ b5) : a ∉ ([b0, b1, b2, b3, b4, b5] : List Addr) := by simp [*]
theorem own_all6 {P : Addr → Prop} {b0 b1 b2 b3 b4 b5 : Addr} (q0 : P b0) (q1 : P b1) (q2 : P b2) (q3 : P b3) (q4 : P b4) (q5 : P b5) : ∀ x ∈ ([b0, b1, b2, b3, b4, b5] : List Addr), P x := by intro x hx; simp only [List.mem_cons, List.not_mem_nil, or_false] at hx; rcases hx with rfl | rfl | rfl | rfl | rfl | rfl <;> assumption
theorem own_ni7 {a b0 b1 b2 b3 b4 b5 b6 : Addr} (q0 : a ≠ b0) (q1 : a ≠ b1) (q2 : a ≠ b2) (q3 : a ≠ b3) (q4 : a ≠ b4) (q5 : a ≠ b5) (q6 : a ≠ b6) : a ∉ ([b0, b1, b2, b3, b4, b5, b6] : List Addr) := by simp [*]
theorem own_all7 {P : Addr → Prop} {b0 b1 b2 b3 b4 b5 b6 : Addr} (q0 : P b0) (q1 : P b1) (q2 : P b2) (q3 : P b3) (q4 : P b4) (q5 : P b5) (q6 : P b6) : ∀ x ∈ ([b0, b1, b2, b3, b4, b5, b6] : List Addr), P x := by intro x hx; simp only [List.mem_cons, List.not_mem_nil, or_false] at hx; rcases hx with rfl | rfl | rfl | rfl | rfl | rfl | rfl <;> assumption

open Jvm.Kit
def TBv (Z : State) (h : Heap) (a d f g : Addr) (c0 bl la ba ke : Int32) (en eb : Int64) (D Fq G : Nat → Int32) : Prop := Fld Z h a "org/segmentry/segment/TermBlocks" "m_documents" "[I" (.ref d) ∧ Fld Z h a "org/segmentry/segment/TermBlocks" "m_frequencies" "[I" (.ref f) ∧ Fld Z h a "org/segmentry/segment/TermBlocks" "m_lengths" "[I" (.ref g) ∧ Fld Z h a "org/segmentry/segment/TermBlocks" "m_count" "I" (.int c0) ∧ Fld Z h a "org/segmentry/segment/TermBlocks" "m_blocked" "Z" (.int bl) ∧ Fld Z h a "org/segmentry/segment/TermBlocks" "m_last" "I" (.int la) ∧ Fld Z h a "org/segmentry/segment/TermBlocks" "m_base" "I" (.int ba) ∧ Fld Z h a "org/segmentry/segment/TermBlocks" "m_keepsEntry" "Z" (.int ke) ∧ Fld Z h a "org/segmentry/segment/TermBlocks" "m_entry" "J" (.long en) ∧ Fld Z h a "org/segmentry/segment/TermBlocks" "m_entryBefore" "J" (.long eb) ∧ AV Z h d .int 128 (fun j => .int (D j)) ∧ AV Z h f .int 128 (fun j => .int (Fq j)) ∧ AV Z h g .int 128 (fun j => .int (G j))
def TB (Z : State) (h : Heap) (a d f g : Addr) : Prop := ∃ (c0 bl la ba ke : Int32) (en eb : Int64) (D Fq G : Nat → Int32), TBv Z h a d f g c0 bl la ba ke en eb D Fq G
def own_vlen (v : Int64) : Int32 := if v < 128 then 1 else if v < 16384 then 2 else if v < 2097152 then 3 else if v < 268435456 then 4 else if v < 34359738368 then 5 else 6
def own_vlenJ (v : Int64) : Int64 := if v < 128 then 1 else if v < 16384 then 2 else if v < 2097152 then 3 else if v < 268435456 then 4 else if v < 34359738368 then 5 else 6
def own_fold (p1 p2 : Int32) : Int64 := 2 * p1.toInt64 + (if p2 = 1 then (1 : Int32) else 0).toInt64
def own_gap (p1 p2 : Int32) : Int32 := own_vlen (own_fold p1 p2) + (if p2 = 1 then 0 else own_vlen p2.toInt64)
def own_holds (c : Int32) : Int32 := if 0 < c then 1 else 0
def own_full (c : Int32) : Int32 := if c = 128 then 1 else 0
theorem own_small {c : Int32} (h : Inb c 100) : 0 ≤ c.toInt ∧ c.toInt < 100 := by
  have k0 : (0 : Int32).toInt = 0 := by decide
  obtain ⟨h1, h2⟩ := h
  simp only [Int32.lt_iff_toInt_lt, Int32.toNatClampNeg] at h1 h2
  omega
theorem own_inb {c : Int32} (h : Inb c 100) : Inb c 128 := ⟨h.1, Nat.lt_trans h.2 (by decide)⟩
theorem own_n128 {c : Int32} (h : Inb c 100) : ¬ c = 128 := fun q => by
  have := own_small h; rw [q] at this; exact absurd this.2 (by decide)
theorem own_n127 {c : Int32} (h : Inb c 100) : ¬ c + 1 = 128 := fun q => by
  have := own_small h
  have k1 : (1 : Int32).toInt = 1 := by decide
  have k2 : (128 : Int32).toInt = 128 := by decide
  have e := i32_add (p := c) (q := 1) (by omega) (by omega)
  rw [q] at e; omega
theorem own_pred {c : Int32} (h : Inb c 100) (n : ¬ c = 0) : Inb (c - 1) 128 := by
  have := own_small h
  have k0 : (0 : Int32).toInt = 0 := by decide
  have k1 : (1 : Int32).toInt = 1 := by decide
  have e := i32_sub (p := c) (q := 1) (by omega) (by omega)
  have n' : c.toInt ≠ 0 := fun q => n (Int32.toInt_inj.mp (by rw [q]; exact k0.symm))
  simp only [Inb, Int32.lt_iff_toInt_lt, Int32.toNatClampNeg]
  omega
theorem own_pow {e : Nat} {k : Nat} (h : k ≤ e) : (2 : Int) ^ k ≤ 2 ^ e := by
  have := Nat.pow_le_pow_right (n := 2) (by decide) h
  exact_mod_cast this

theorem own_iushr {x : Int32} (hx : 0 ≤ x.toInt) {n : UInt32} {k : Nat} (hn : n.toNat = k) (hk : k < 32) : ((x.toUInt32 >>> n).toInt32).toInt = x.toInt / 2 ^ k := i32_iushr (Jvm.Kit.i32_nonneg.mpr hx) hn hk
def own_nlz (i r : Int32) : Prop := (0 < i.toInt → ∃ e : Nat, e ≤ 30 ∧ (2 : Int) ^ e ≤ i.toInt ∧ i.toInt < (2 : Int) ^ (e + 1) ∧ r.toInt = 31 - e) ∧ (i.toInt < 0 → r = 0)
theorem own_nlz_of {i y : Int32} (s : Nat) (hs : s ≤ 30) (h0 : 0 < i.toInt) {n : Int32} (hn : n.toInt = 31 - s) (hy : y.toInt = i.toInt / 2 ^ s) (h1 : 0 < y.toInt) (h4 : y.toInt < 4) {r : Int32} (hr : r = n - (y.toUInt32 >>> ((1 : Int32) &&& 31).toUInt32).toInt32) : own_nlz i r := by
  have d : ((y.toUInt32 >>> ((1 : Int32) &&& 31).toUInt32).toInt32).toInt = y.toInt / 2 ^ 1 := own_iushr (by omega) (by decide) (by decide)
  have e := i32_sub (p := n) (q := (y.toUInt32 >>> ((1 : Int32) &&& 31).toUInt32).toInt32) (by omega) (by omega)
  rw [← hr] at e
  have p : (0 : Int) < 2 ^ s := Int.pow_pos (by decide)
  have m := Int.mul_ediv_add_emod i.toInt (2 ^ s)
  have m1 := Int.emod_nonneg i.toInt (Int.ne_of_gt p)
  have m2 := Int.emod_lt_of_pos i.toInt p
  rw [← hy] at m
  have p1 : (2 : Int) ^ (s + 1) = 2 ^ s * 2 := Int.pow_succ 2 s
  have p2 : (2 : Int) ^ (s + 1 + 1) = 2 ^ s * 2 * 2 := by rw [Int.pow_succ, p1]
  refine ⟨fun _ => ?_, fun q => by omega⟩
  by_cases c : y.toInt < 2
  · have y1 : y.toInt = 1 := by omega
    rw [y1] at m d
    exact ⟨s, by omega, by omega, by rw [p1]; omega, by omega⟩
  · have s30 : s + 1 ≤ 30 := by
      by_cases q : s = 30
      · subst q
        have := i.toInt_lt
        have : 2 ^ 30 * 2 ≤ 2 ^ 30 * y.toInt := Int.mul_le_mul_of_nonneg_left (by omega) (by omega)
        omega
      · omega
    refine ⟨s + 1, s30, ?_, ?_, by omega⟩
    · rw [p1]
      have : 2 ^ s * 2 ≤ 2 ^ s * y.toInt := Int.mul_le_mul_of_nonneg_left (by omega) (by omega)
      omega
    · rw [p2]
      have : 2 ^ s * y.toInt ≤ 2 ^ s * 3 := Int.mul_le_mul_of_nonneg_left (by omega) (by omega)
      omega
def own_nlzJ (x : Int64) (r : Int32) : Prop := ∃ e : Nat, e ≤ 34 ∧ (2 : Int) ^ e ≤ x.toInt ∧ x.toInt < (2 : Int) ^ (e + 1) ∧ r.toInt = 63 - e
theorem own_or1 {v : Int64} (h0 : 0 ≤ v.toInt) (h1 : v.toInt < 34359738368) : (v ||| 1).toInt = v.toInt / 2 * 2 + 1 := by
  have en : (v.toBitVec.toNat : Int) = v.toInt := by
    have e : v.toInt = if 2 * v.toBitVec.toNat < 2 ^ 64 then (v.toBitVec.toNat : Int) else v.toBitVec.toNat - ((2 ^ 64 : Nat) : Int) := BitVec.toInt_eq_toNat_cond _
    have b := v.toBitVec.isLt
    split at e <;> omega
  have e : (v ||| 1).toInt = (v.toBitVec ||| 1#64).toInt := rfl
  have o : v.toBitVec.toNat ||| 1 = v.toBitVec.toNat / 2 * 2 + 1 := by
    have q := Nat.shiftLeft_add_eq_or_of_lt (i := 1) (b := 1) (by decide) (v.toBitVec.toNat / 2)
    rw [Nat.shiftLeft_eq] at q
    rcases Nat.mod_two_eq_zero_or_one v.toBitVec.toNat with z | z
    · have w : v.toBitVec.toNat / 2 * 2 ^ 1 = v.toBitVec.toNat := by omega
      rw [w] at q; rw [← q]; omega
    · have w : v.toBitVec.toNat = v.toBitVec.toNat / 2 * 2 ^ 1 ||| 1 := by rw [← q]; omega
      have w2 : v.toBitVec.toNat ||| 1 = v.toBitVec.toNat := by
        rw [w, Nat.or_assoc, Nat.or_self]
      rw [w2]; omega
  rw [e, BitVec.toInt_eq_toNat_cond, BitVec.toNat_or]
  have one : (1#64).toNat = 1 := rfl
  rw [one, o, if_pos (by omega)]
  omega
theorem own_vl {v : Int64} (h0 : 0 ≤ v.toInt) (h1 : v.toInt < 34359738368) {r : Int32} (h : own_nlzJ (v ||| 1) r) : (63 - r) / 7 + 1 = own_vlen v := by
  obtain ⟨e, e1, e2, e3, e4⟩ := h
  rw [own_or1 h0 h1] at e2 e3
  have k63 : (63 : Int32).toInt = 63 := by decide
  have k7 : (7 : Int32).toInt = 7 := by decide
  have kk1 : (1 : Int32).toInt = 1 := by decide
  have s := i32_sub (p := 63) (q := r) (by omega) (by omega)
  have dv := i32_div (x := 63 - r) (y := 7) (by omega)
  rw [Int.tdiv_eq_ediv_of_nonneg (by omega), k7] at dv
  have ad := i32_add (p := (63 - r) / 7) (q := 1) (by omega) (by omega)
  have c1 : (128 : Int64).toInt = 128 := by decide
  have c2 : (16384 : Int64).toInt = 16384 := by decide
  have c3 : (2097152 : Int64).toInt = 2097152 := by decide
  have c4 : (268435456 : Int64).toInt = 268435456 := by decide
  have c5 : (34359738368 : Int64).toInt = 34359738368 := by decide
  have lo : ∀ k, k ≤ e → (2 : Int) ^ k ≤ v.toInt / 2 * 2 + 1 := fun k hk => Int.le_trans (own_pow hk) e2
  have hi : ∀ k, e + 1 ≤ k → v.toInt / 2 * 2 + 1 < (2 : Int) ^ k := fun k hk => Int.lt_of_lt_of_le e3 (own_pow hk)
  unfold own_vlen
  simp only [Int64.lt_iff_toInt_lt, c1, c2, c3, c4, c5]
  refine Int32.toInt_inj.mp ?_
  rw [ad]
  by_cases q1 : e < 7
  · have := hi 7 (by omega)
    rw [if_pos (by omega)]; rw [kk1]; omega
  · have l1 := lo 7 (by omega)
    rw [if_neg (by omega)]
    by_cases q2 : e < 14
    · have := hi 14 (by omega)
      rw [if_pos (by omega), show (2 : Int32).toInt = 2 by decide]; omega
    · have l2 := lo 14 (by omega)
      rw [if_neg (by omega)]
      by_cases q3 : e < 21
      · have := hi 21 (by omega)
        rw [if_pos (by omega), show (3 : Int32).toInt = 3 by decide]; omega
      · have l3 := lo 21 (by omega)
        rw [if_neg (by omega)]
        by_cases q4 : e < 28
        · have := hi 28 (by omega)
          rw [if_pos (by omega), show (4 : Int32).toInt = 4 by decide]; omega
        · have l4 := lo 28 (by omega)
          rw [if_neg (by omega), if_pos (by omega), show (5 : Int32).toInt = 5 by decide]; omega
theorem own_hi {x : Int64} (h0 : 0 < x.toInt) (h1 : x.toInt < 34359738368) : ((x.toUInt64 >>> ((32 : Int32) &&& 0x3f).toInt64.toUInt64).toInt64.toInt32).toInt = x.toInt / 2 ^ 32 := by
  have a : ((x.toUInt64 >>> ((32 : Int32) &&& 0x3f).toInt64.toUInt64).toInt64).toInt = x.toInt / 2 ^ 32 := i64_lushr (Jvm.Kit.i64_nonneg.mpr (by omega)) (by decide) (by decide)
  have b := i32_of_i64 (x := (x.toUInt64 >>> ((32 : Int32) &&& 0x3f).toInt64.toUInt64).toInt64) (by omega) (by omega)
  omega
theorem own_lo {x : Int64} (h0 : 0 < x.toInt) (h1 : x.toInt < 4294967296) : (x.toInt < 2147483648 ∧ x.toInt32.toInt = x.toInt) ∨ (2147483648 ≤ x.toInt ∧ x.toInt32.toInt < 0) := by
  have e := Int64.toInt_toInt32 x
  rw [Int.bmod_def] at e
  by_cases c : x.toInt < 2147483648
  · left; refine ⟨c, ?_⟩; rw [e]; split <;> omega
  · right; refine ⟨by omega, ?_⟩; rw [e]; split <;> omega
theorem own_J0 {x : Int64} (h0 : 0 < x.toInt) (h1 : x.toInt < 34359738368) {r : Int32} (hz : (x.toUInt64 >>> ((32 : Int32) &&& 0x3f).toInt64.toUInt64).toInt64.toInt32 = 0) (h : own_nlz x.toInt32 r) : own_nlzJ x (32 + r) := by
  have hh := own_hi h0 h1
  rw [hz, show (0 : Int32).toInt = 0 by decide] at hh
  have k32 : (32 : Int32).toInt = 32 := by decide
  rcases own_lo h0 (by omega) with ⟨c, e⟩ | ⟨c, e⟩
  · obtain ⟨q, q1, q2, q3, q4⟩ := h.1 (by omega)
    rw [e] at q2 q3
    have a := i32_add (p := 32) (q := r) (by omega) (by omega)
    exact ⟨q, by omega, q2, q3, by omega⟩
  · have q := h.2 e
    rw [q]
    exact ⟨31, by omega, by omega, by omega, by decide⟩
theorem own_J1 {x : Int64} (h0 : 0 < x.toInt) (h1 : x.toInt < 34359738368) {r : Int32} (hz : ¬ (x.toUInt64 >>> ((32 : Int32) &&& 0x3f).toInt64.toUInt64).toInt64.toInt32 = 0) (h : own_nlz ((x.toUInt64 >>> ((32 : Int32) &&& 0x3f).toInt64.toUInt64).toInt64.toInt32) r) : own_nlzJ x r := by
  have hh := own_hi h0 h1
  have k0 : (0 : Int32).toInt = 0 := by decide
  have hn : ((x.toUInt64 >>> ((32 : Int32) &&& 0x3f).toInt64.toUInt64).toInt64.toInt32).toInt ≠ 0 := fun q => hz (Int32.toInt_inj.mp (by rw [q, k0]))
  obtain ⟨q, q1, q2, q3, q4⟩ := h.1 (by omega)
  rw [hh] at q2 q3
  have p32 : (2 : Int) ^ (q + 32) = 2 ^ q * 2 ^ 32 := Int.pow_add 2 q 32
  have p33 : (2 : Int) ^ (q + 32 + 1) = 2 ^ (q + 1) * 2 ^ 32 := by rw [show q + 32 + 1 = (q + 1) + 32 by omega, Int.pow_add]
  have q34 : q ≤ 2 := by
    by_cases c : q ≤ 2
    · exact c
    · have := own_pow (e := q) (k := 3) (by omega); omega
  exact ⟨q + 32, by omega, by rw [p32]; omega, by rw [p33]; omega, by omega⟩
theorem own_foldR {p1 : Int32} (h : 0 ≤ p1.toInt) (p2 : Int32) : 0 ≤ (own_fold p1 p2).toInt ∧ (own_fold p1 p2).toInt < 34359738368 := by
  have b := p1.toInt_lt
  have e1 := i64_of_i32 p1
  have k2 : (2 : Int64).toInt = 2 := by decide
  have m := i64_mul (x := 2) (y := p1.toInt64) (by rw [k2, e1]; omega) (by rw [k2, e1]; omega)
  rw [k2, e1] at m
  unfold own_fold
  by_cases c : p2 = 1
  · rw [if_pos c]
    have z : ((1 : Int32).toInt64).toInt = 1 := by decide
    have a := i64_add (x := 2 * p1.toInt64) (y := (1 : Int32).toInt64) (by omega) (by omega)
    omega
  · rw [if_neg c]
    have z : ((0 : Int32).toInt64).toInt = 0 := by decide
    have a := i64_add (x := 2 * p1.toInt64) (y := (0 : Int32).toInt64) (by omega) (by omega)
    omega
theorem own_numR {p2 : Int32} (h : ¬ p2 < 1) : 0 ≤ (p2.toInt64).toInt ∧ (p2.toInt64).toInt < 34359738368 := by
  have b := p2.toInt_lt
  have e1 := i64_of_i32 p2
  rw [Int32.lt_iff_toInt_lt, show (1 : Int32).toInt = 1 by decide] at h
  omega
theorem own_nn {p1 : Int32} (h : 0 ≤ p1.toInt) : ¬ p1.toInt64 < 0 := by
  rw [Int64.lt_iff_toInt_lt, i64_of_i32, show (0 : Int64).toInt = 0 by decide]; omega
theorem own_sub0 (p : Int32) : p - 0 = p := by simp


theorem own_m1 {x : Int32} (h : 0 ≤ x.toInt) : (-1 : Int32) < x := by
  rw [Int32.lt_iff_toInt_lt, show (-1 : Int32).toInt = -1 by decide]; omega
theorem own_m31 (x : Int32) : 0 ≤ (x &&& (2147483647 : Int32)).toInt := by
  have m0 : (x &&& 2147483647).toInt = x.toInt % 2 ^ 31 := i32_mask _ _ (by decide) (by decide)
  omega
theorem own_m30 (x : Int32) : 0 ≤ (x &&& (1073741823 : Int32)).toInt ∧ (x &&& (1073741823 : Int32)).toInt < 1073741824 := by
  have m0 : (x &&& 1073741823).toInt = x.toInt % 2 ^ 30 := i32_mask _ _ (by decide) (by decide)
  omega
theorem own_m29 (x : Int32) : 0 ≤ (x &&& (536870911 : Int32)).toInt ∧ (x &&& (536870911 : Int32)).toInt < 536870912 := by
  have m0 : (x &&& 536870911).toInt = x.toInt % 2 ^ 29 := i32_mask _ _ (by decide) (by decide)
  omega
theorem own_up {x y : Int32} (h0 : 0 ≤ x.toInt) (h1 : 0 ≤ y.toInt) (h2 : x.toInt + 1 + y.toInt < 2147483648) : (x + (1 : Int32) + y).toInt = x.toInt + 1 + y.toInt := by
  have k1 : (1 : Int32).toInt = 1 := by decide
  have a := i32_add (p := x) (q := 1) (by omega) (by omega)
  have b := i32_add (p := x + 1) (q := y) (by omega) (by omega)
  omega

theorem pd0 : parseMethodDescriptor "(I)I" = some ⟨[.int], some .int⟩ := by decide +kernel
theorem pd1 : parseMethodDescriptor "(J)I" = some ⟨[.long], some .int⟩ := by decide +kernel
theorem pd2 : parseMethodDescriptor "(J)V" = some ⟨[.long], none⟩ := by decide +kernel
theorem pd3 : parseMethodDescriptor "(II)V" = some ⟨[.int, .int], none⟩ := by decide +kernel
theorem pd4 : parseMethodDescriptor "(II)J" = some ⟨[.int, .int], some .long⟩ := by decide +kernel
theorem pd5 : parseMethodDescriptor "()V" = some ⟨[], none⟩ := by decide +kernel
theorem pd6 : parseMethodDescriptor "()Z" = some ⟨[], some .boolean⟩ := by decide +kernel
theorem pd7 : parseMethodDescriptor "(II)I" = some ⟨[.int, .int], some .int⟩ := by decide +kernel
theorem pd8 : parseMethodDescriptor "(Z)V" = some ⟨[.boolean], none⟩ := by decide +kernel
theorem pd9 : parseMethodDescriptor "(III)V" = some ⟨[.int, .int, .int], none⟩ := by decide +kernel
theorem pd10 : parseMethodDescriptor "()J" = some ⟨[], some .long⟩ := by decide +kernel
theorem d17_0 : decode jdk_33_method_47_code 0 = .ok (.iload_n 0, 1) := by decide +kernel
theorem d17_1 : decode jdk_33_method_47_code 1 = .ok (.ifCond .gt 14, 3) := by decide +kernel
theorem d17_4 : decode jdk_33_method_47_code 4 = .ok (.iload_n 0, 1) := by decide +kernel
theorem d17_5 : decode jdk_33_method_47_code 5 = .ok (.ifCond .ne 8, 3) := by decide +kernel
theorem d17_8 : decode jdk_33_method_47_code 8 = .ok (.bipush 32, 2) := by decide +kernel
theorem d17_10 : decode jdk_33_method_47_code 10 = .ok (.goto 4, 3) := by decide +kernel
theorem d17_13 : decode jdk_33_method_47_code 13 = .ok (.iconst 0, 1) := by decide +kernel
theorem d17_14 : decode jdk_33_method_47_code 14 = .ok (.ireturn, 1) := by decide +kernel
theorem d17_15 : decode jdk_33_method_47_code 15 = .ok (.bipush 31, 2) := by decide +kernel
theorem d17_17 : decode jdk_33_method_47_code 17 = .ok (.istore_n 1, 1) := by decide +kernel
theorem d17_18 : decode jdk_33_method_47_code 18 = .ok (.iload_n 0, 1) := by decide +kernel
theorem d17_19 : decode jdk_33_method_47_code 19 = .ok (.ldc_w 264, 3) := by decide +kernel
theorem d17_22 : decode jdk_33_method_47_code 22 = .ok (.if_icmp .lt 11, 3) := by decide +kernel
theorem d17_25 : decode jdk_33_method_47_code 25 = .ok (.iinc 1 (-16), 3) := by decide +kernel
theorem d17_28 : decode jdk_33_method_47_code 28 = .ok (.iload_n 0, 1) := by decide +kernel
theorem d17_29 : decode jdk_33_method_47_code 29 = .ok (.bipush 16, 2) := by decide +kernel
theorem d17_31 : decode jdk_33_method_47_code 31 = .ok (.iushr, 1) := by decide +kernel
theorem d17_32 : decode jdk_33_method_47_code 32 = .ok (.istore_n 0, 1) := by decide +kernel
theorem d17_33 : decode jdk_33_method_47_code 33 = .ok (.iload_n 0, 1) := by decide +kernel
theorem d17_34 : decode jdk_33_method_47_code 34 = .ok (.sipush 256, 3) := by decide +kernel
theorem d17_37 : decode jdk_33_method_47_code 37 = .ok (.if_icmp .lt 11, 3) := by decide +kernel
theorem d17_40 : decode jdk_33_method_47_code 40 = .ok (.iinc 1 (-8), 3) := by decide +kernel
theorem d17_43 : decode jdk_33_method_47_code 43 = .ok (.iload_n 0, 1) := by decide +kernel
theorem d17_44 : decode jdk_33_method_47_code 44 = .ok (.bipush 8, 2) := by decide +kernel
theorem d17_46 : decode jdk_33_method_47_code 46 = .ok (.iushr, 1) := by decide +kernel
theorem d17_47 : decode jdk_33_method_47_code 47 = .ok (.istore_n 0, 1) := by decide +kernel
theorem d17_48 : decode jdk_33_method_47_code 48 = .ok (.iload_n 0, 1) := by decide +kernel
theorem d17_49 : decode jdk_33_method_47_code 49 = .ok (.bipush 16, 2) := by decide +kernel
theorem d17_51 : decode jdk_33_method_47_code 51 = .ok (.if_icmp .lt 10, 3) := by decide +kernel
theorem d17_54 : decode jdk_33_method_47_code 54 = .ok (.iinc 1 (-4), 3) := by decide +kernel
theorem d17_57 : decode jdk_33_method_47_code 57 = .ok (.iload_n 0, 1) := by decide +kernel
theorem d17_58 : decode jdk_33_method_47_code 58 = .ok (.iconst 4, 1) := by decide +kernel
theorem d17_59 : decode jdk_33_method_47_code 59 = .ok (.iushr, 1) := by decide +kernel
theorem d17_60 : decode jdk_33_method_47_code 60 = .ok (.istore_n 0, 1) := by decide +kernel
theorem d17_61 : decode jdk_33_method_47_code 61 = .ok (.iload_n 0, 1) := by decide +kernel
theorem d17_62 : decode jdk_33_method_47_code 62 = .ok (.iconst 4, 1) := by decide +kernel
theorem d17_63 : decode jdk_33_method_47_code 63 = .ok (.if_icmp .lt 10, 3) := by decide +kernel
theorem d17_66 : decode jdk_33_method_47_code 66 = .ok (.iinc 1 (-2), 3) := by decide +kernel
theorem d17_69 : decode jdk_33_method_47_code 69 = .ok (.iload_n 0, 1) := by decide +kernel
theorem d17_70 : decode jdk_33_method_47_code 70 = .ok (.iconst 2, 1) := by decide +kernel
theorem d17_71 : decode jdk_33_method_47_code 71 = .ok (.iushr, 1) := by decide +kernel
theorem d17_72 : decode jdk_33_method_47_code 72 = .ok (.istore_n 0, 1) := by decide +kernel
theorem d17_73 : decode jdk_33_method_47_code 73 = .ok (.iload_n 1, 1) := by decide +kernel
theorem d17_74 : decode jdk_33_method_47_code 74 = .ok (.iload_n 0, 1) := by decide +kernel
theorem d17_75 : decode jdk_33_method_47_code 75 = .ok (.iconst 1, 1) := by decide +kernel
theorem d17_76 : decode jdk_33_method_47_code 76 = .ok (.iushr, 1) := by decide +kernel
theorem d17_77 : decode jdk_33_method_47_code 77 = .ok (.isub, 1) := by decide +kernel
theorem d17_78 : decode jdk_33_method_47_code 78 = .ok (.ireturn, 1) := by decide +kernel
theorem pn17 : plainFor (⟨"java/lang/Integer", "numberOfLeadingZeros", "(I)I"⟩ : MethodName) = true := plainFor_of_name (by first | (simp [plainName, overriddenIn]; done) | decide +kernel)
theorem ef_rmNlz (m : MethodId) (x0 : Int32) : entryFrame m #[(.int x0)] 2 = mkF m 0 #[.val (.int x0), .unset] [] := by first | (simp [entryFrame, mkF, argsToLocals, Value.category]; done) | rfl
set_option maxRecDepth 65536 in
set_option maxHeartbeats 40000000 in
theorem rmNlz {l : Launch} {Z : State} {a0 : Array Value} (hw : ∀ d ∈ tables_1, d.before a0 Z = true) (p1 : Int32) (h0 : Heap) (n0 : Nat)  :
    Met l Z (⟨"java/lang/Integer", "numberOfLeadingZeros", "(I)I"⟩ : MethodName) jdk_33_method_47_code 2 (some .int) [] ({ frames := 0, cells := 0, slots := 0, locals := 0 } : Room) #[(.int p1)] h0 (fun v h L => ∃ r : Int32, v = some (.int r) ∧ Fr n0 L ∧ h = h0 ∧ own_nlz p1 r) := by
  refine Met.mk pn17 ?_
  intro p e s m below meth c T hx hby hml hown hnm hret hlk hZ X eT
  refine Go.cast (ef_rmNlz m p1) ?_
  have N := Fr.nil n0
  show Go p e below s _ _ T (mkF m 0 #[.val (.int p1), .unset] [])
  refine Go.of (fun _ kq => XS.iloadN X.here hx rfl (hb hby d17_0) rfl kq) ?_
  show Go p e below s _ _ T (mkF m 1 #[.val (.int p1), .unset] [(.int p1)])
  by_cases hc1 : (0 : Int32) < p1
  · refine Go.of (fun _ kq => XS.ifYes X.here hx rfl (pc0 := 1) (pc' := 15) rfl (hb hby d17_1) rfl ((if0 _ _).trans (tlt hc1).2.2.1) (by decide) (by decide) kq) ?_
    show Go p e below s _ _ T (mkF m 15 #[.val (.int p1), .unset] [])
    refine Go.of (fun _ kq => XS.bipush X.here hx rfl (hb hby d17_15) kq) ?_
    show Go p e below s _ _ T (mkF m 17 #[.val (.int p1), .unset] [(.int (31 : Int32))])
    refine Go.of (fun _ kq => XS.istoreN X.here hx rfl (hb hby d17_17) rfl (l' := #[.val (.int p1), .val (.int (31 : Int32))]) rfl kq) ?_
    show Go p e below s _ _ T (mkF m 18 #[.val (.int p1), .val (.int (31 : Int32))] [])
    refine Go.of (fun _ kq => XS.iloadN X.here hx rfl (hb hby d17_18) rfl kq) ?_
    show Go p e below s _ _ T (mkF m 19 #[.val (.int p1), .val (.int (31 : Int32))] [(.int p1)])
    refine Go.of (X.ldcwInt hx hown (mvT hZ (hw _ (List.mem_of_getElem? (i := 116) rfl))) (g := (mkF m 19 #[.val (.int p1), .val (.int (31 : Int32))] [(.int p1)])) rfl (hb hby d17_19)) ?_
    show Go p e below s _ _ T (mkF m 22 #[.val (.int p1), .val (.int (31 : Int32))] [(.int (65536 : Int32)), (.int p1)])
    by_cases hc22 : p1 < (65536 : Int32)
    · refine Go.of (fun _ kq => XS.icmpYes X.here hx rfl (pc0 := 22) (pc' := 33) rfl (hb hby d17_22) rfl (tlt hc22).1 (by decide) (by decide) kq) ?_
      show Go p e below s _ _ T (mkF m 33 #[.val (.int p1), .val (.int (31 : Int32))] [])
      refine Go.of (fun _ kq => XS.iloadN X.here hx rfl (hb hby d17_33) rfl kq) ?_
      show Go p e below s _ _ T (mkF m 34 #[.val (.int p1), .val (.int (31 : Int32))] [(.int p1)])
      refine Go.of (fun _ kq => XS.sipush X.here hx rfl (hb hby d17_34) kq) ?_
      show Go p e below s _ _ T (mkF m 37 #[.val (.int p1), .val (.int (31 : Int32))] [(.int (256 : Int32)), (.int p1)])
      by_cases hc37 : p1 < (256 : Int32)
      · refine Go.of (fun _ kq => XS.icmpYes X.here hx rfl (pc0 := 37) (pc' := 48) rfl (hb hby d17_37) rfl (tlt hc37).1 (by decide) (by decide) kq) ?_
        show Go p e below s _ _ T (mkF m 48 #[.val (.int p1), .val (.int (31 : Int32))] [])
        refine Go.of (fun _ kq => XS.iloadN X.here hx rfl (hb hby d17_48) rfl kq) ?_
        show Go p e below s _ _ T (mkF m 49 #[.val (.int p1), .val (.int (31 : Int32))] [(.int p1)])
        refine Go.of (fun _ kq => XS.bipush X.here hx rfl (hb hby d17_49) kq) ?_
        show Go p e below s _ _ T (mkF m 51 #[.val (.int p1), .val (.int (31 : Int32))] [(.int (16 : Int32)), (.int p1)])
        by_cases hc51 : p1 < (16 : Int32)
        · refine Go.of (fun _ kq => XS.icmpYes X.here hx rfl (pc0 := 51) (pc' := 61) rfl (hb hby d17_51) rfl (tlt hc51).1 (by decide) (by decide) kq) ?_
          show Go p e below s _ _ T (mkF m 61 #[.val (.int p1), .val (.int (31 : Int32))] [])
          refine Go.of (fun _ kq => XS.iloadN X.here hx rfl (hb hby d17_61) rfl kq) ?_
          show Go p e below s _ _ T (mkF m 62 #[.val (.int p1), .val (.int (31 : Int32))] [(.int p1)])
          refine Go.of (fun _ kq => XS.iconst X.here hx rfl (hb hby d17_62) kq) ?_
          show Go p e below s _ _ T (mkF m 63 #[.val (.int p1), .val (.int (31 : Int32))] [(.int (4 : Int32)), (.int p1)])
          by_cases hc63 : p1 < (4 : Int32)
          · refine Go.of (fun _ kq => XS.icmpYes X.here hx rfl (pc0 := 63) (pc' := 73) rfl (hb hby d17_63) rfl (tlt hc63).1 (by decide) (by decide) kq) ?_
            show Go p e below s _ _ T (mkF m 73 #[.val (.int p1), .val (.int (31 : Int32))] [])
            refine Go.of (fun _ kq => XS.iloadN X.here hx rfl (hb hby d17_73) rfl kq) ?_
            show Go p e below s _ _ T (mkF m 74 #[.val (.int p1), .val (.int (31 : Int32))] [(.int (31 : Int32))])
            refine Go.of (fun _ kq => XS.iloadN X.here hx rfl (hb hby d17_74) rfl kq) ?_
            show Go p e below s _ _ T (mkF m 75 #[.val (.int p1), .val (.int (31 : Int32))] [(.int p1), (.int (31 : Int32))])
            refine Go.of (fun _ kq => XS.iconst X.here hx rfl (hb hby d17_75) kq) ?_
            show Go p e below s _ _ T (mkF m 76 #[.val (.int p1), .val (.int (31 : Int32))] [(.int (1 : Int32)), (.int p1), (.int (31 : Int32))])
            refine Go.of (fun _ kq => XS.iushr X.here hx rfl (hb hby d17_76) rfl kq) ?_
            show Go p e below s _ _ T (mkF m 77 #[.val (.int p1), .val (.int (31 : Int32))] [(.int ((p1.toUInt32 >>> ((1 : Int32) &&& 31).toUInt32).toInt32)), (.int (31 : Int32))])
            refine Go.of (fun _ kq => XS.isub X.here hx rfl (hb hby d17_77) rfl kq) ?_
            show Go p e below s _ _ T (mkF m 78 #[.val (.int p1), .val (.int (31 : Int32))] [(.int ((31 : Int32) - ((p1.toUInt32 >>> ((1 : Int32) &&& 31).toUInt32).toInt32)))])
            refine Go.retI X hx hret hlk (hb hby d17_78) (by decide) (by decide) ?_
            try rw [eT]
            have k0 : (0 : Int32).toInt = 0 := by decide
            have hp := hc1
            rw [Int32.lt_iff_toInt_lt, k0] at hp
            have hu := p1.toInt_lt
            have t22 := hc22
            rw [Int32.lt_iff_toInt_lt, show (65536 : Int32).toInt = 65536 by decide] at t22
            have t37 := hc37
            rw [Int32.lt_iff_toInt_lt, show (256 : Int32).toInt = 256 by decide] at t37
            have t51 := hc51
            rw [Int32.lt_iff_toInt_lt, show (16 : Int32).toInt = 16 by decide] at t51
            have t63 := hc63
            rw [Int32.lt_iff_toInt_lt, show (4 : Int32).toInt = 4 by decide] at t63
            exact ⟨_, rfl, N, rfl, own_nlz_of (i := p1) (y := p1) 0 (by decide) hp (n := (31 : Int32)) (by decide) (by omega) (by omega) (by omega) rfl⟩
          · refine Go.of (fun _ kq => XS.icmpNo X.here hx rfl (hb hby d17_63) rfl (flt hc63).1 kq) ?_
            show Go p e below s _ _ T (mkF m 66 #[.val (.int p1), .val (.int (31 : Int32))] [])
            refine Go.of (fun _ kq => XS.iinc X.here hx rfl (hb hby d17_66) rfl (l' := #[.val (.int p1), .val (.int (29 : Int32))]) rfl kq) ?_
            show Go p e below s _ _ T (mkF m 69 #[.val (.int p1), .val (.int (29 : Int32))] [])
            refine Go.of (fun _ kq => XS.iloadN X.here hx rfl (hb hby d17_69) rfl kq) ?_
            show Go p e below s _ _ T (mkF m 70 #[.val (.int p1), .val (.int (29 : Int32))] [(.int p1)])
            refine Go.of (fun _ kq => XS.iconst X.here hx rfl (hb hby d17_70) kq) ?_
            show Go p e below s _ _ T (mkF m 71 #[.val (.int p1), .val (.int (29 : Int32))] [(.int (2 : Int32)), (.int p1)])
            refine Go.of (fun _ kq => XS.iushr X.here hx rfl (hb hby d17_71) rfl kq) ?_
            show Go p e below s _ _ T (mkF m 72 #[.val (.int p1), .val (.int (29 : Int32))] [(.int ((p1.toUInt32 >>> ((2 : Int32) &&& 31).toUInt32).toInt32))])
            refine Go.of (fun _ kq => XS.istoreN X.here hx rfl (hb hby d17_72) rfl (l' := #[.val (.int ((p1.toUInt32 >>> ((2 : Int32) &&& 31).toUInt32).toInt32)), .val (.int (29 : Int32))]) rfl kq) ?_
            show Go p e below s _ _ T (mkF m 73 #[.val (.int ((p1.toUInt32 >>> ((2 : Int32) &&& 31).toUInt32).toInt32)), .val (.int (29 : Int32))] [])
            refine Go.of (fun _ kq => XS.iloadN X.here hx rfl (hb hby d17_73) rfl kq) ?_
            show Go p e below s _ _ T (mkF m 74 #[.val (.int ((p1.toUInt32 >>> ((2 : Int32) &&& 31).toUInt32).toInt32)), .val (.int (29 : Int32))] [(.int (29 : Int32))])
            refine Go.of (fun _ kq => XS.iloadN X.here hx rfl (hb hby d17_74) rfl kq) ?_
            show Go p e below s _ _ T (mkF m 75 #[.val (.int ((p1.toUInt32 >>> ((2 : Int32) &&& 31).toUInt32).toInt32)), .val (.int (29 : Int32))] [(.int ((p1.toUInt32 >>> ((2 : Int32) &&& 31).toUInt32).toInt32)), (.int (29 : Int32))])
            refine Go.of (fun _ kq => XS.iconst X.here hx rfl (hb hby d17_75) kq) ?_
            show Go p e below s _ _ T (mkF m 76 #[.val (.int ((p1.toUInt32 >>> ((2 : Int32) &&& 31).toUInt32).toInt32)), .val (.int (29 : Int32))] [(.int (1 : Int32)), (.int ((p1.toUInt32 >>> ((2 : Int32) &&& 31).toUInt32).toInt32)), (.int (29 : Int32))])
            refine Go.of (fun _ kq => XS.iushr X.here hx rfl (hb hby d17_76) rfl kq) ?_
            show Go p e below s _ _ T (mkF m 77 #[.val (.int ((p1.toUInt32 >>> ((2 : Int32) &&& 31).toUInt32).toInt32)), .val (.int (29 : Int32))] [(.int ((((p1.toUInt32 >>> ((2 : Int32) &&& 31).toUInt32).toInt32).toUInt32 >>> ((1 : Int32) &&& 31).toUInt32).toInt32)), (.int (29 : Int32))])
            refine Go.of (fun _ kq => XS.isub X.here hx rfl (hb hby d17_77) rfl kq) ?_
            show Go p e below s _ _ T (mkF m 78 #[.val (.int ((p1.toUInt32 >>> ((2 : Int32) &&& 31).toUInt32).toInt32)), .val (.int (29 : Int32))] [(.int ((29 : Int32) - ((((p1.toUInt32 >>> ((2 : Int32) &&& 31).toUInt32).toInt32).toUInt32 >>> ((1 : Int32) &&& 31).toUInt32).toInt32)))])
            refine Go.retI X hx hret hlk (hb hby d17_78) (by decide) (by decide) ?_
            try rw [eT]
            have k0 : (0 : Int32).toInt = 0 := by decide
            have hp := hc1
            rw [Int32.lt_iff_toInt_lt, k0] at hp
            have hu := p1.toInt_lt
            have t22 := hc22
            rw [Int32.lt_iff_toInt_lt, show (65536 : Int32).toInt = 65536 by decide] at t22
            have t37 := hc37
            rw [Int32.lt_iff_toInt_lt, show (256 : Int32).toInt = 256 by decide] at t37
            have t51 := hc51
            rw [Int32.lt_iff_toInt_lt, show (16 : Int32).toInt = 16 by decide] at t51
            have t63 := hc63
            rw [Int32.lt_iff_toInt_lt, show (4 : Int32).toInt = 4 by decide] at t63
            have u63 : ((p1.toUInt32 >>> ((2 : Int32) &&& 31).toUInt32).toInt32).toInt = p1.toInt / 2 ^ 2 := own_iushr (by omega) (by decide) (by decide)
            exact ⟨_, rfl, N, rfl, own_nlz_of (i := p1) (y := ((p1.toUInt32 >>> ((2 : Int32) &&& 31).toUInt32).toInt32)) 2 (by decide) hp (n := (29 : Int32)) (by decide) (by omega) (by omega) (by omega) rfl⟩
        · refine Go.of (fun _ kq => XS.icmpNo X.here hx rfl (hb hby d17_51) rfl (flt hc51).1 kq) ?_
          show Go p e below s _ _ T (mkF m 54 #[.val (.int p1), .val (.int (31 : Int32))] [])
          refine Go.of (fun _ kq => XS.iinc X.here hx rfl (hb hby d17_54) rfl (l' := #[.val (.int p1), .val (.int (27 : Int32))]) rfl kq) ?_
          show Go p e below s _ _ T (mkF m 57 #[.val (.int p1), .val (.int (27 : Int32))] [])
          refine Go.of (fun _ kq => XS.iloadN X.here hx rfl (hb hby d17_57) rfl kq) ?_
          show Go p e below s _ _ T (mkF m 58 #[.val (.int p1), .val (.int (27 : Int32))] [(.int p1)])
          refine Go.of (fun _ kq => XS.iconst X.here hx rfl (hb hby d17_58) kq) ?_
          show Go p e below s _ _ T (mkF m 59 #[.val (.int p1), .val (.int (27 : Int32))] [(.int (4 : Int32)), (.int p1)])
          refine Go.of (fun _ kq => XS.iushr X.here hx rfl (hb hby d17_59) rfl kq) ?_
          show Go p e below s _ _ T (mkF m 60 #[.val (.int p1), .val (.int (27 : Int32))] [(.int ((p1.toUInt32 >>> ((4 : Int32) &&& 31).toUInt32).toInt32))])
          refine Go.of (fun _ kq => XS.istoreN X.here hx rfl (hb hby d17_60) rfl (l' := #[.val (.int ((p1.toUInt32 >>> ((4 : Int32) &&& 31).toUInt32).toInt32)), .val (.int (27 : Int32))]) rfl kq) ?_
          show Go p e below s _ _ T (mkF m 61 #[.val (.int ((p1.toUInt32 >>> ((4 : Int32) &&& 31).toUInt32).toInt32)), .val (.int (27 : Int32))] [])
          refine Go.of (fun _ kq => XS.iloadN X.here hx rfl (hb hby d17_61) rfl kq) ?_
          show Go p e below s _ _ T (mkF m 62 #[.val (.int ((p1.toUInt32 >>> ((4 : Int32) &&& 31).toUInt32).toInt32)), .val (.int (27 : Int32))] [(.int ((p1.toUInt32 >>> ((4 : Int32) &&& 31).toUInt32).toInt32))])
          refine Go.of (fun _ kq => XS.iconst X.here hx rfl (hb hby d17_62) kq) ?_
          show Go p e below s _ _ T (mkF m 63 #[.val (.int ((p1.toUInt32 >>> ((4 : Int32) &&& 31).toUInt32).toInt32)), .val (.int (27 : Int32))] [(.int (4 : Int32)), (.int ((p1.toUInt32 >>> ((4 : Int32) &&& 31).toUInt32).toInt32))])
          by_cases hc63 : ((p1.toUInt32 >>> ((4 : Int32) &&& 31).toUInt32).toInt32) < (4 : Int32)
          · refine Go.of (fun _ kq => XS.icmpYes X.here hx rfl (pc0 := 63) (pc' := 73) rfl (hb hby d17_63) rfl (tlt hc63).1 (by decide) (by decide) kq) ?_
            show Go p e below s _ _ T (mkF m 73 #[.val (.int ((p1.toUInt32 >>> ((4 : Int32) &&& 31).toUInt32).toInt32)), .val (.int (27 : Int32))] [])
            refine Go.of (fun _ kq => XS.iloadN X.here hx rfl (hb hby d17_73) rfl kq) ?_
            show Go p e below s _ _ T (mkF m 74 #[.val (.int ((p1.toUInt32 >>> ((4 : Int32) &&& 31).toUInt32).toInt32)), .val (.int (27 : Int32))] [(.int (27 : Int32))])
            refine Go.of (fun _ kq => XS.iloadN X.here hx rfl (hb hby d17_74) rfl kq) ?_
            show Go p e below s _ _ T (mkF m 75 #[.val (.int ((p1.toUInt32 >>> ((4 : Int32) &&& 31).toUInt32).toInt32)), .val (.int (27 : Int32))] [(.int ((p1.toUInt32 >>> ((4 : Int32) &&& 31).toUInt32).toInt32)), (.int (27 : Int32))])
            refine Go.of (fun _ kq => XS.iconst X.here hx rfl (hb hby d17_75) kq) ?_
            show Go p e below s _ _ T (mkF m 76 #[.val (.int ((p1.toUInt32 >>> ((4 : Int32) &&& 31).toUInt32).toInt32)), .val (.int (27 : Int32))] [(.int (1 : Int32)), (.int ((p1.toUInt32 >>> ((4 : Int32) &&& 31).toUInt32).toInt32)), (.int (27 : Int32))])
            refine Go.of (fun _ kq => XS.iushr X.here hx rfl (hb hby d17_76) rfl kq) ?_
            show Go p e below s _ _ T (mkF m 77 #[.val (.int ((p1.toUInt32 >>> ((4 : Int32) &&& 31).toUInt32).toInt32)), .val (.int (27 : Int32))] [(.int ((((p1.toUInt32 >>> ((4 : Int32) &&& 31).toUInt32).toInt32).toUInt32 >>> ((1 : Int32) &&& 31).toUInt32).toInt32)), (.int (27 : Int32))])
            refine Go.of (fun _ kq => XS.isub X.here hx rfl (hb hby d17_77) rfl kq) ?_
            show Go p e below s _ _ T (mkF m 78 #[.val (.int ((p1.toUInt32 >>> ((4 : Int32) &&& 31).toUInt32).toInt32)), .val (.int (27 : Int32))] [(.int ((27 : Int32) - ((((p1.toUInt32 >>> ((4 : Int32) &&& 31).toUInt32).toInt32).toUInt32 >>> ((1 : Int32) &&& 31).toUInt32).toInt32)))])
            refine Go.retI X hx hret hlk (hb hby d17_78) (by decide) (by decide) ?_
            try rw [eT]
            have k0 : (0 : Int32).toInt = 0 := by decide
            have hp := hc1
            rw [Int32.lt_iff_toInt_lt, k0] at hp
            have hu := p1.toInt_lt
            have t22 := hc22
            rw [Int32.lt_iff_toInt_lt, show (65536 : Int32).toInt = 65536 by decide] at t22
            have t37 := hc37
            rw [Int32.lt_iff_toInt_lt, show (256 : Int32).toInt = 256 by decide] at t37
            have t51 := hc51
            rw [Int32.lt_iff_toInt_lt, show (16 : Int32).toInt = 16 by decide] at t51
            have u51 : ((p1.toUInt32 >>> ((4 : Int32) &&& 31).toUInt32).toInt32).toInt = p1.toInt / 2 ^ 4 := own_iushr (by omega) (by decide) (by decide)
            have t63 := hc63
            rw [Int32.lt_iff_toInt_lt, show (4 : Int32).toInt = 4 by decide] at t63
            exact ⟨_, rfl, N, rfl, own_nlz_of (i := p1) (y := ((p1.toUInt32 >>> ((4 : Int32) &&& 31).toUInt32).toInt32)) 4 (by decide) hp (n := (27 : Int32)) (by decide) (by omega) (by omega) (by omega) rfl⟩
          · refine Go.of (fun _ kq => XS.icmpNo X.here hx rfl (hb hby d17_63) rfl (flt hc63).1 kq) ?_
            show Go p e below s _ _ T (mkF m 66 #[.val (.int ((p1.toUInt32 >>> ((4 : Int32) &&& 31).toUInt32).toInt32)), .val (.int (27 : Int32))] [])
            refine Go.of (fun _ kq => XS.iinc X.here hx rfl (hb hby d17_66) rfl (l' := #[.val (.int ((p1.toUInt32 >>> ((4 : Int32) &&& 31).toUInt32).toInt32)), .val (.int (25 : Int32))]) rfl kq) ?_
            show Go p e below s _ _ T (mkF m 69 #[.val (.int ((p1.toUInt32 >>> ((4 : Int32) &&& 31).toUInt32).toInt32)), .val (.int (25 : Int32))] [])
            refine Go.of (fun _ kq => XS.iloadN X.here hx rfl (hb hby d17_69) rfl kq) ?_
            show Go p e below s _ _ T (mkF m 70 #[.val (.int ((p1.toUInt32 >>> ((4 : Int32) &&& 31).toUInt32).toInt32)), .val (.int (25 : Int32))] [(.int ((p1.toUInt32 >>> ((4 : Int32) &&& 31).toUInt32).toInt32))])
            refine Go.of (fun _ kq => XS.iconst X.here hx rfl (hb hby d17_70) kq) ?_
            show Go p e below s _ _ T (mkF m 71 #[.val (.int ((p1.toUInt32 >>> ((4 : Int32) &&& 31).toUInt32).toInt32)), .val (.int (25 : Int32))] [(.int (2 : Int32)), (.int ((p1.toUInt32 >>> ((4 : Int32) &&& 31).toUInt32).toInt32))])
            refine Go.of (fun _ kq => XS.iushr X.here hx rfl (hb hby d17_71) rfl kq) ?_
            show Go p e below s _ _ T (mkF m 72 #[.val (.int ((p1.toUInt32 >>> ((4 : Int32) &&& 31).toUInt32).toInt32)), .val (.int (25 : Int32))] [(.int ((((p1.toUInt32 >>> ((4 : Int32) &&& 31).toUInt32).toInt32).toUInt32 >>> ((2 : Int32) &&& 31).toUInt32).toInt32))])
            refine Go.of (fun _ kq => XS.istoreN X.here hx rfl (hb hby d17_72) rfl (l' := #[.val (.int ((((p1.toUInt32 >>> ((4 : Int32) &&& 31).toUInt32).toInt32).toUInt32 >>> ((2 : Int32) &&& 31).toUInt32).toInt32)), .val (.int (25 : Int32))]) rfl kq) ?_
            show Go p e below s _ _ T (mkF m 73 #[.val (.int ((((p1.toUInt32 >>> ((4 : Int32) &&& 31).toUInt32).toInt32).toUInt32 >>> ((2 : Int32) &&& 31).toUInt32).toInt32)), .val (.int (25 : Int32))] [])
            refine Go.of (fun _ kq => XS.iloadN X.here hx rfl (hb hby d17_73) rfl kq) ?_
            show Go p e below s _ _ T (mkF m 74 #[.val (.int ((((p1.toUInt32 >>> ((4 : Int32) &&& 31).toUInt32).toInt32).toUInt32 >>> ((2 : Int32) &&& 31).toUInt32).toInt32)), .val (.int (25 : Int32))] [(.int (25 : Int32))])
            refine Go.of (fun _ kq => XS.iloadN X.here hx rfl (hb hby d17_74) rfl kq) ?_
            show Go p e below s _ _ T (mkF m 75 #[.val (.int ((((p1.toUInt32 >>> ((4 : Int32) &&& 31).toUInt32).toInt32).toUInt32 >>> ((2 : Int32) &&& 31).toUInt32).toInt32)), .val (.int (25 : Int32))] [(.int ((((p1.toUInt32 >>> ((4 : Int32) &&& 31).toUInt32).toInt32).toUInt32 >>> ((2 : Int32) &&& 31).toUInt32).toInt32)), (.int (25 : Int32))])
            refine Go.of (fun _ kq => XS.iconst X.here hx rfl (hb hby d17_75) kq) ?_
            show Go p e below s _ _ T (mkF m 76 #[.val (.int ((((p1.toUInt32 >>> ((4 : Int32) &&& 31).toUInt32).toInt32).toUInt32 >>> ((2 : Int32) &&& 31).toUInt32).toInt32)), .val (.int (25 : Int32))] [(.int (1 : Int32)), (.int ((((p1.toUInt32 >>> ((4 : Int32) &&& 31).toUInt32).toInt32).toUInt32 >>> ((2 : Int32) &&& 31).toUInt32).toInt32)), (.int (25 : Int32))])
            refine Go.of (fun _ kq => XS.iushr X.here hx rfl (hb hby d17_76) rfl kq) ?_
            show Go p e below s _ _ T (mkF m 77 #[.val (.int ((((p1.toUInt32 >>> ((4 : Int32) &&& 31).toUInt32).toInt32).toUInt32 >>> ((2 : Int32) &&& 31).toUInt32).toInt32)), .val (.int (25 : Int32))] [(.int ((((((p1.toUInt32 >>> ((4 : Int32) &&& 31).toUInt32).toInt32).toUInt32 >>> ((2 : Int32) &&& 31).toUInt32).toInt32).toUInt32 >>> ((1 : Int32) &&& 31).toUInt32).toInt32)), (.int (25 : Int32))])
            refine Go.of (fun _ kq => XS.isub X.here hx rfl (hb hby d17_77) rfl kq) ?_
            show Go p e below s _ _ T (mkF m 78 #[.val (.int ((((p1.toUInt32 >>> ((4 : Int32) &&& 31).toUInt32).toInt32).toUInt32 >>> ((2 : Int32) &&& 31).toUInt32).toInt32)), .val (.int (25 : Int32))] [(.int ((25 : Int32) - ((((((p1.toUInt32 >>> ((4 : Int32) &&& 31).toUInt32).toInt32).toUInt32 >>> ((2 : Int32) &&& 31).toUInt32).toInt32).toUInt32 >>> ((1 : Int32) &&& 31).toUInt32).toInt32)))])
            refine Go.retI X hx hret hlk (hb hby d17_78) (by decide) (by decide) ?_
            try rw [eT]
            have k0 : (0 : Int32).toInt = 0 := by decide
            have hp := hc1
            rw [Int32.lt_iff_toInt_lt, k0] at hp
            have hu := p1.toInt_lt
            have t22 := hc22
            rw [Int32.lt_iff_toInt_lt, show (65536 : Int32).toInt = 65536 by decide] at t22
            have t37 := hc37
            rw [Int32.lt_iff_toInt_lt, show (256 : Int32).toInt = 256 by decide] at t37
            have t51 := hc51
            rw [Int32.lt_iff_toInt_lt, show (16 : Int32).toInt = 16 by decide] at t51
            have u51 : ((p1.toUInt32 >>> ((4 : Int32) &&& 31).toUInt32).toInt32).toInt = p1.toInt / 2 ^ 4 := own_iushr (by omega) (by decide) (by decide)
            have t63 := hc63
            rw [Int32.lt_iff_toInt_lt, show (4 : Int32).toInt = 4 by decide] at t63
            have u63 : ((((p1.toUInt32 >>> ((4 : Int32) &&& 31).toUInt32).toInt32).toUInt32 >>> ((2 : Int32) &&& 31).toUInt32).toInt32).toInt = ((p1.toUInt32 >>> ((4 : Int32) &&& 31).toUInt32).toInt32).toInt / 2 ^ 2 := own_iushr (by omega) (by decide) (by decide)
            exact ⟨_, rfl, N, rfl, own_nlz_of (i := p1) (y := ((((p1.toUInt32 >>> ((4 : Int32) &&& 31).toUInt32).toInt32).toUInt32 >>> ((2 : Int32) &&& 31).toUInt32).toInt32)) 6 (by decide) hp (n := (25 : Int32)) (by decide) (by omega) (by omega) (by omega) rfl⟩
      · refine Go.of (fun _ kq => XS.icmpNo X.here hx rfl (hb hby d17_37) rfl (flt hc37).1 kq) ?_
        show Go p e below s _ _ T (mkF m 40 #[.val (.int p1), .val (.int (31 : Int32))] [])
        refine Go.of (fun _ kq => XS.iinc X.here hx rfl (hb hby d17_40) rfl (l' := #[.val (.int p1), .val (.int (23 : Int32))]) rfl kq) ?_
        show Go p e below s _ _ T (mkF m 43 #[.val (.int p1), .val (.int (23 : Int32))] [])
        refine Go.of (fun _ kq => XS.iloadN X.here hx rfl (hb hby d17_43) rfl kq) ?_
        show Go p e below s _ _ T (mkF m 44 #[.val (.int p1), .val (.int (23 : Int32))] [(.int p1)])
        refine Go.of (fun _ kq => XS.bipush X.here hx rfl (hb hby d17_44) kq) ?_
        show Go p e below s _ _ T (mkF m 46 #[.val (.int p1), .val (.int (23 : Int32))] [(.int (8 : Int32)), (.int p1)])
        refine Go.of (fun _ kq => XS.iushr X.here hx rfl (hb hby d17_46) rfl kq) ?_
        show Go p e below s _ _ T (mkF m 47 #[.val (.int p1), .val (.int (23 : Int32))] [(.int ((p1.toUInt32 >>> ((8 : Int32) &&& 31).toUInt32).toInt32))])
        refine Go.of (fun _ kq => XS.istoreN X.here hx rfl (hb hby d17_47) rfl (l' := #[.val (.int ((p1.toUInt32 >>> ((8 : Int32) &&& 31).toUInt32).toInt32)), .val (.int (23 : Int32))]) rfl kq) ?_
        show Go p e below s _ _ T (mkF m 48 #[.val (.int ((p1.toUInt32 >>> ((8 : Int32) &&& 31).toUInt32).toInt32)), .val (.int (23 : Int32))] [])
        refine Go.of (fun _ kq => XS.iloadN X.here hx rfl (hb hby d17_48) rfl kq) ?_
        show Go p e below s _ _ T (mkF m 49 #[.val (.int ((p1.toUInt32 >>> ((8 : Int32) &&& 31).toUInt32).toInt32)), .val (.int (23 : Int32))] [(.int ((p1.toUInt32 >>> ((8 : Int32) &&& 31).toUInt32).toInt32))])
        refine Go.of (fun _ kq => XS.bipush X.here hx rfl (hb hby d17_49) kq) ?_
        show Go p e below s _ _ T (mkF m 51 #[.val (.int ((p1.toUInt32 >>> ((8 : Int32) &&& 31).toUInt32).toInt32)), .val (.int (23 : Int32))] [(.int (16 : Int32)), (.int ((p1.toUInt32 >>> ((8 : Int32) &&& 31).toUInt32).toInt32))])
        by_cases hc51 : ((p1.toUInt32 >>> ((8 : Int32) &&& 31).toUInt32).toInt32) < (16 : Int32)
        · refine Go.of (fun _ kq => XS.icmpYes X.here hx rfl (pc0 := 51) (pc' := 61) rfl (hb hby d17_51) rfl (tlt hc51).1 (by decide) (by decide) kq) ?_
          show Go p e below s _ _ T (mkF m 61 #[.val (.int ((p1.toUInt32 >>> ((8 : Int32) &&& 31).toUInt32).toInt32)), .val (.int (23 : Int32))] [])
          refine Go.of (fun _ kq => XS.iloadN X.here hx rfl (hb hby d17_61) rfl kq) ?_
          show Go p e below s _ _ T (mkF m 62 #[.val (.int ((p1.toUInt32 >>> ((8 : Int32) &&& 31).toUInt32).toInt32)), .val (.int (23 : Int32))] [(.int ((p1.toUInt32 >>> ((8 : Int32) &&& 31).toUInt32).toInt32))])
          refine Go.of (fun _ kq => XS.iconst X.here hx rfl (hb hby d17_62) kq) ?_
          show Go p e below s _ _ T (mkF m 63 #[.val (.int ((p1.toUInt32 >>> ((8 : Int32) &&& 31).toUInt32).toInt32)), .val (.int (23 : Int32))] [(.int (4 : Int32)), (.int ((p1.toUInt32 >>> ((8 : Int32) &&& 31).toUInt32).toInt32))])
          by_cases hc63 : ((p1.toUInt32 >>> ((8 : Int32) &&& 31).toUInt32).toInt32) < (4 : Int32)
          · refine Go.of (fun _ kq => XS.icmpYes X.here hx rfl (pc0 := 63) (pc' := 73) rfl (hb hby d17_63) rfl (tlt hc63).1 (by decide) (by decide) kq) ?_
            show Go p e below s _ _ T (mkF m 73 #[.val (.int ((p1.toUInt32 >>> ((8 : Int32) &&& 31).toUInt32).toInt32)), .val (.int (23 : Int32))] [])
            refine Go.of (fun _ kq => XS.iloadN X.here hx rfl (hb hby d17_73) rfl kq) ?_
            show Go p e below s _ _ T (mkF m 74 #[.val (.int ((p1.toUInt32 >>> ((8 : Int32) &&& 31).toUInt32).toInt32)), .val (.int (23 : Int32))] [(.int (23 : Int32))])
            refine Go.of (fun _ kq => XS.iloadN X.here hx rfl (hb hby d17_74) rfl kq) ?_
            show Go p e below s _ _ T (mkF m 75 #[.val (.int ((p1.toUInt32 >>> ((8 : Int32) &&& 31).toUInt32).toInt32)), .val (.int (23 : Int32))] [(.int ((p1.toUInt32 >>> ((8 : Int32) &&& 31).toUInt32).toInt32)), (.int (23 : Int32))])
            refine Go.of (fun _ kq => XS.iconst X.here hx rfl (hb hby d17_75) kq) ?_
            show Go p e below s _ _ T (mkF m 76 #[.val (.int ((p1.toUInt32 >>> ((8 : Int32) &&& 31).toUInt32).toInt32)), .val (.int (23 : Int32))] [(.int (1 : Int32)), (.int ((p1.toUInt32 >>> ((8 : Int32) &&& 31).toUInt32).toInt32)), (.int (23 : Int32))])
            refine Go.of (fun _ kq => XS.iushr X.here hx rfl (hb hby d17_76) rfl kq) ?_
            show Go p e below s _ _ T (mkF m 77 #[.val (.int ((p1.toUInt32 >>> ((8 : Int32) &&& 31).toUInt32).toInt32)), .val (.int (23 : Int32))] [(.int ((((p1.toUInt32 >>> ((8 : Int32) &&& 31).toUInt32).toInt32).toUInt32 >>> ((1 : Int32) &&& 31).toUInt32).toInt32)), (.int (23 : Int32))])
            refine Go.of (fun _ kq => XS.isub X.here hx rfl (hb hby d17_77) rfl kq) ?_
            show Go p e below s _ _ T (mkF m 78 #[.val (.int ((p1.toUInt32 >>> ((8 : Int32) &&& 31).toUInt32).toInt32)), .val (.int (23 : Int32))] [(.int ((23 : Int32) - ((((p1.toUInt32 >>> ((8 : Int32) &&& 31).toUInt32).toInt32).toUInt32 >>> ((1 : Int32) &&& 31).toUInt32).toInt32)))])
            refine Go.retI X hx hret hlk (hb hby d17_78) (by decide) (by decide) ?_
            try rw [eT]
            have k0 : (0 : Int32).toInt = 0 := by decide
            have hp := hc1
            rw [Int32.lt_iff_toInt_lt, k0] at hp
            have hu := p1.toInt_lt
            have t22 := hc22
            rw [Int32.lt_iff_toInt_lt, show (65536 : Int32).toInt = 65536 by decide] at t22
            have t37 := hc37
            rw [Int32.lt_iff_toInt_lt, show (256 : Int32).toInt = 256 by decide] at t37
            have u37 : ((p1.toUInt32 >>> ((8 : Int32) &&& 31).toUInt32).toInt32).toInt = p1.toInt / 2 ^ 8 := own_iushr (by omega) (by decide) (by decide)
            have t51 := hc51
            rw [Int32.lt_iff_toInt_lt, show (16 : Int32).toInt = 16 by decide] at t51
            have t63 := hc63
            rw [Int32.lt_iff_toInt_lt, show (4 : Int32).toInt = 4 by decide] at t63
            exact ⟨_, rfl, N, rfl, own_nlz_of (i := p1) (y := ((p1.toUInt32 >>> ((8 : Int32) &&& 31).toUInt32).toInt32)) 8 (by decide) hp (n := (23 : Int32)) (by decide) (by omega) (by omega) (by omega) rfl⟩
          · refine Go.of (fun _ kq => XS.icmpNo X.here hx rfl (hb hby d17_63) rfl (flt hc63).1 kq) ?_
            show Go p e below s _ _ T (mkF m 66 #[.val (.int ((p1.toUInt32 >>> ((8 : Int32) &&& 31).toUInt32).toInt32)), .val (.int (23 : Int32))] [])
            refine Go.of (fun _ kq => XS.iinc X.here hx rfl (hb hby d17_66) rfl (l' := #[.val (.int ((p1.toUInt32 >>> ((8 : Int32) &&& 31).toUInt32).toInt32)), .val (.int (21 : Int32))]) rfl kq) ?_
            show Go p e below s _ _ T (mkF m 69 #[.val (.int ((p1.toUInt32 >>> ((8 : Int32) &&& 31).toUInt32).toInt32)), .val (.int (21 : Int32))] [])
            refine Go.of (fun _ kq => XS.iloadN X.here hx rfl (hb hby d17_69) rfl kq) ?_
            show Go p e below s _ _ T (mkF m 70 #[.val (.int ((p1.toUInt32 >>> ((8 : Int32) &&& 31).toUInt32).toInt32)), .val (.int (21 : Int32))] [(.int ((p1.toUInt32 >>> ((8 : Int32) &&& 31).toUInt32).toInt32))])
            refine Go.of (fun _ kq => XS.iconst X.here hx rfl (hb hby d17_70) kq) ?_
            show Go p e below s _ _ T (mkF m 71 #[.val (.int ((p1.toUInt32 >>> ((8 : Int32) &&& 31).toUInt32).toInt32)), .val (.int (21 : Int32))] [(.int (2 : Int32)), (.int ((p1.toUInt32 >>> ((8 : Int32) &&& 31).toUInt32).toInt32))])
            refine Go.of (fun _ kq => XS.iushr X.here hx rfl (hb hby d17_71) rfl kq) ?_
            show Go p e below s _ _ T (mkF m 72 #[.val (.int ((p1.toUInt32 >>> ((8 : Int32) &&& 31).toUInt32).toInt32)), .val (.int (21 : Int32))] [(.int ((((p1.toUInt32 >>> ((8 : Int32) &&& 31).toUInt32).toInt32).toUInt32 >>> ((2 : Int32) &&& 31).toUInt32).toInt32))])
            refine Go.of (fun _ kq => XS.istoreN X.here hx rfl (hb hby d17_72) rfl (l' := #[.val (.int ((((p1.toUInt32 >>> ((8 : Int32) &&& 31).toUInt32).toInt32).toUInt32 >>> ((2 : Int32) &&& 31).toUInt32).toInt32)), .val (.int (21 : Int32))]) rfl kq) ?_
            show Go p e below s _ _ T (mkF m 73 #[.val (.int ((((p1.toUInt32 >>> ((8 : Int32) &&& 31).toUInt32).toInt32).toUInt32 >>> ((2 : Int32) &&& 31).toUInt32).toInt32)), .val (.int (21 : Int32))] [])
            refine Go.of (fun _ kq => XS.iloadN X.here hx rfl (hb hby d17_73) rfl kq) ?_
            show Go p e below s _ _ T (mkF m 74 #[.val (.int ((((p1.toUInt32 >>> ((8 : Int32) &&& 31).toUInt32).toInt32).toUInt32 >>> ((2 : Int32) &&& 31).toUInt32).toInt32)), .val (.int (21 : Int32))] [(.int (21 : Int32))])
            refine Go.of (fun _ kq => XS.iloadN X.here hx rfl (hb hby d17_74) rfl kq) ?_
            show Go p e below s _ _ T (mkF m 75 #[.val (.int ((((p1.toUInt32 >>> ((8 : Int32) &&& 31).toUInt32).toInt32).toUInt32 >>> ((2 : Int32) &&& 31).toUInt32).toInt32)), .val (.int (21 : Int32))] [(.int ((((p1.toUInt32 >>> ((8 : Int32) &&& 31).toUInt32).toInt32).toUInt32 >>> ((2 : Int32) &&& 31).toUInt32).toInt32)), (.int (21 : Int32))])
            refine Go.of (fun _ kq => XS.iconst X.here hx rfl (hb hby d17_75) kq) ?_
            show Go p e below s _ _ T (mkF m 76 #[.val (.int ((((p1.toUInt32 >>> ((8 : Int32) &&& 31).toUInt32).toInt32).toUInt32 >>> ((2 : Int32) &&& 31).toUInt32).toInt32)), .val (.int (21 : Int32))] [(.int (1 : Int32)), (.int ((((p1.toUInt32 >>> ((8 : Int32) &&& 31).toUInt32).toInt32).toUInt32 >>> ((2 : Int32) &&& 31).toUInt32).toInt32)), (.int (21 : Int32))])
            refine Go.of (fun _ kq => XS.iushr X.here hx rfl (hb hby d17_76) rfl kq) ?_
            show Go p e below s _ _ T (mkF m 77 #[.val (.int ((((p1.toUInt32 >>> ((8 : Int32) &&& 31).toUInt32).toInt32).toUInt32 >>> ((2 : Int32) &&& 31).toUInt32).toInt32)), .val (.int (21 : Int32))] [(.int ((((((p1.toUInt32 >>> ((8 : Int32) &&& 31).toUInt32).toInt32).toUInt32 >>> ((2 : Int32) &&& 31).toUInt32).toInt32).toUInt32 >>> ((1 : Int32) &&& 31).toUInt32).toInt32)), (.int (21 : Int32))])
            refine Go.of (fun _ kq => XS.isub X.here hx rfl (hb hby d17_77) rfl kq) ?_
            show Go p e below s _ _ T (mkF m 78 #[.val (.int ((((p1.toUInt32 >>> ((8 : Int32) &&& 31).toUInt32).toInt32).toUInt32 >>> ((2 : Int32) &&& 31).toUInt32).toInt32)), .val (.int (21 : Int32))] [(.int ((21 : Int32) - ((((((p1.toUInt32 >>> ((8 : Int32) &&& 31).toUInt32).toInt32).toUInt32 >>> ((2 : Int32) &&& 31).toUInt32).toInt32).toUInt32 >>> ((1 : Int32) &&& 31).toUInt32).toInt32)))])
            refine Go.retI X hx hret hlk (hb hby d17_78) (by decide) (by decide) ?_
            try rw [eT]
            have k0 : (0 : Int32).toInt = 0 := by decide
            have hp := hc1
            rw [Int32.lt_iff_toInt_lt, k0] at hp
            have hu := p1.toInt_lt
            have t22 := hc22
            rw [Int32.lt_iff_toInt_lt, show (65536 : Int32).toInt = 65536 by decide] at t22
            have t37 := hc37
            rw [Int32.lt_iff_toInt_lt, show (256 : Int32).toInt = 256 by decide] at t37
            have u37 : ((p1.toUInt32 >>> ((8 : Int32) &&& 31).toUInt32).toInt32).toInt = p1.toInt / 2 ^ 8 := own_iushr (by omega) (by decide) (by decide)
            have t51 := hc51
            rw [Int32.lt_iff_toInt_lt, show (16 : Int32).toInt = 16 by decide] at t51
            have t63 := hc63
            rw [Int32.lt_iff_toInt_lt, show (4 : Int32).toInt = 4 by decide] at t63
            have u63 : ((((p1.toUInt32 >>> ((8 : Int32) &&& 31).toUInt32).toInt32).toUInt32 >>> ((2 : Int32) &&& 31).toUInt32).toInt32).toInt = ((p1.toUInt32 >>> ((8 : Int32) &&& 31).toUInt32).toInt32).toInt / 2 ^ 2 := own_iushr (by omega) (by decide) (by decide)
            exact ⟨_, rfl, N, rfl, own_nlz_of (i := p1) (y := ((((p1.toUInt32 >>> ((8 : Int32) &&& 31).toUInt32).toInt32).toUInt32 >>> ((2 : Int32) &&& 31).toUInt32).toInt32)) 10 (by decide) hp (n := (21 : Int32)) (by decide) (by omega) (by omega) (by omega) rfl⟩
        · refine Go.of (fun _ kq => XS.icmpNo X.here hx rfl (hb hby d17_51) rfl (flt hc51).1 kq) ?_
          show Go p e below s _ _ T (mkF m 54 #[.val (.int ((p1.toUInt32 >>> ((8 : Int32) &&& 31).toUInt32).toInt32)), .val (.int (23 : Int32))] [])
          refine Go.of (fun _ kq => XS.iinc X.here hx rfl (hb hby d17_54) rfl (l' := #[.val (.int ((p1.toUInt32 >>> ((8 : Int32) &&& 31).toUInt32).toInt32)), .val (.int (19 : Int32))]) rfl kq) ?_
          show Go p e below s _ _ T (mkF m 57 #[.val (.int ((p1.toUInt32 >>> ((8 : Int32) &&& 31).toUInt32).toInt32)), .val (.int (19 : Int32))] [])
          refine Go.of (fun _ kq => XS.iloadN X.here hx rfl (hb hby d17_57) rfl kq) ?_
          show Go p e below s _ _ T (mkF m 58 #[.val (.int ((p1.toUInt32 >>> ((8 : Int32) &&& 31).toUInt32).toInt32)), .val (.int (19 : Int32))] [(.int ((p1.toUInt32 >>> ((8 : Int32) &&& 31).toUInt32).toInt32))])
          refine Go.of (fun _ kq => XS.iconst X.here hx rfl (hb hby d17_58) kq) ?_
          show Go p e below s _ _ T (mkF m 59 #[.val (.int ((p1.toUInt32 >>> ((8 : Int32) &&& 31).toUInt32).toInt32)), .val (.int (19 : Int32))] [(.int (4 : Int32)), (.int ((p1.toUInt32 >>> ((8 : Int32) &&& 31).toUInt32).toInt32))])
          refine Go.of (fun _ kq => XS.iushr X.here hx rfl (hb hby d17_59) rfl kq) ?_
          show Go p e below s _ _ T (mkF m 60 #[.val (.int ((p1.toUInt32 >>> ((8 : Int32) &&& 31).toUInt32).toInt32)), .val (.int (19 : Int32))] [(.int ((((p1.toUInt32 >>> ((8 : Int32) &&& 31).toUInt32).toInt32).toUInt32 >>> ((4 : Int32) &&& 31).toUInt32).toInt32))])
          refine Go.of (fun _ kq => XS.istoreN X.here hx rfl (hb hby d17_60) rfl (l' := #[.val (.int ((((p1.toUInt32 >>> ((8 : Int32) &&& 31).toUInt32).toInt32).toUInt32 >>> ((4 : Int32) &&& 31).toUInt32).toInt32)), .val (.int (19 : Int32))]) rfl kq) ?_
          show Go p e below s _ _ T (mkF m 61 #[.val (.int ((((p1.toUInt32 >>> ((8 : Int32) &&& 31).toUInt32).toInt32).toUInt32 >>> ((4 : Int32) &&& 31).toUInt32).toInt32)), .val (.int (19 : Int32))] [])
          refine Go.of (fun _ kq => XS.iloadN X.here hx rfl (hb hby d17_61) rfl kq) ?_
          show Go p e below s _ _ T (mkF m 62 #[.val (.int ((((p1.toUInt32 >>> ((8 : Int32) &&& 31).toUInt32).toInt32).toUInt32 >>> ((4 : Int32) &&& 31).toUInt32).toInt32)), .val (.int (19 : Int32))] [(.int ((((p1.toUInt32 >>> ((8 : Int32) &&& 31).toUInt32).toInt32).toUInt32 >>> ((4 : Int32) &&& 31).toUInt32).toInt32))])
          refine Go.of (fun _ kq => XS.iconst X.here hx rfl (hb hby d17_62) kq) ?_
          show Go p e below s _ _ T (mkF m 63 #[.val (.int ((((p1.toUInt32 >>> ((8 : Int32) &&& 31).toUInt32).toInt32).toUInt32 >>> ((4 : Int32) &&& 31).toUInt32).toInt32)), .val (.int (19 : Int32))] [(.int (4 : Int32)), (.int ((((p1.toUInt32 >>> ((8 : Int32) &&& 31).toUInt32).toInt32).toUInt32 >>> ((4 : Int32) &&& 31).toUInt32).toInt32))])
          by_cases hc63 : ((((p1.toUInt32 >>> ((8 : Int32) &&& 31).toUInt32).toInt32).toUInt32 >>> ((4 : Int32) &&& 31).toUInt32).toInt32) < (4 : Int32)
          · refine Go.of (fun _ kq => XS.icmpYes X.here hx rfl (pc0 := 63) (pc' := 73) rfl (hb hby d17_63) rfl (tlt hc63).1 (by decide) (by decide) kq) ?_
            show Go p e below s _ _ T (mkF m 73 #[.val (.int ((((p1.toUInt32 >>> ((8 : Int32) &&& 31).toUInt32).toInt32).toUInt32 >>> ((4 : Int32) &&& 31).toUInt32).toInt32)), .val (.int (19 : Int32))] [])
            refine Go.of (fun _ kq => XS.iloadN X.here hx rfl (hb hby d17_73) rfl kq) ?_
            show Go p e below s _ _ T (mkF m 74 #[.val (.int ((((p1.toUInt32 >>> ((8 : Int32) &&& 31).toUInt32).toInt32).toUInt32 >>> ((4 : Int32) &&& 31).toUInt32).toInt32)), .val (.int (19 : Int32))] [(.int (19 : Int32))])
            refine Go.of (fun _ kq => XS.iloadN X.here hx rfl (hb hby d17_74) rfl kq) ?_
            show Go p e below s _ _ T (mkF m 75 #[.val (.int ((((p1.toUInt32 >>> ((8 : Int32) &&& 31).toUInt32).toInt32).toUInt32 >>> ((4 : Int32) &&& 31).toUInt32).toInt32)), .val (.int (19 : Int32))] [(.int ((((p1.toUInt32 >>> ((8 : Int32) &&& 31).toUInt32).toInt32).toUInt32 >>> ((4 : Int32) &&& 31).toUInt32).toInt32)), (.int (19 : Int32))])
            refine Go.of (fun _ kq => XS.iconst X.here hx rfl (hb hby d17_75) kq) ?_
            show Go p e below s _ _ T (mkF m 76 #[.val (.int ((((p1.toUInt32 >>> ((8 : Int32) &&& 31).toUInt32).toInt32).toUInt32 >>> ((4 : Int32) &&& 31).toUInt32).toInt32)), .val (.int (19 : Int32))] [(.int (1 : Int32)), (.int ((((p1.toUInt32 >>> ((8 : Int32) &&& 31).toUInt32).toInt32).toUInt32 >>> ((4 : Int32) &&& 31).toUInt32).toInt32)), (.int (19 : Int32))])
            refine Go.of (fun _ kq => XS.iushr X.here hx rfl (hb hby d17_76) rfl kq) ?_
            show Go p e below s _ _ T (mkF m 77 #[.val (.int ((((p1.toUInt32 >>> ((8 : Int32) &&& 31).toUInt32).toInt32).toUInt32 >>> ((4 : Int32) &&& 31).toUInt32).toInt32)), .val (.int (19 : Int32))] [(.int ((((((p1.toUInt32 >>> ((8 : Int32) &&& 31).toUInt32).toInt32).toUInt32 >>> ((4 : Int32) &&& 31).toUInt32).toInt32).toUInt32 >>> ((1 : Int32) &&& 31).toUInt32).toInt32)), (.int (19 : Int32))])
            refine Go.of (fun _ kq => XS.isub X.here hx rfl (hb hby d17_77) rfl kq) ?_
            show Go p e below s _ _ T (mkF m 78 #[.val (.int ((((p1.toUInt32 >>> ((8 : Int32) &&& 31).toUInt32).toInt32).toUInt32 >>> ((4 : Int32) &&& 31).toUInt32).toInt32)), .val (.int (19 : Int32))] [(.int ((19 : Int32) - ((((((p1.toUInt32 >>> ((8 : Int32) &&& 31).toUInt32).toInt32).toUInt32 >>> ((4 : Int32) &&& 31).toUInt32).toInt32).toUInt32 >>> ((1 : Int32) &&& 31).toUInt32).toInt32)))])
            refine Go.retI X hx hret hlk (hb hby d17_78) (by decide) (by decide) ?_
            try rw [eT]
            have k0 : (0 : Int32).toInt = 0 := by decide
            have hp := hc1
            rw [Int32.lt_iff_toInt_lt, k0] at hp
            have hu := p1.toInt_lt
            have t22 := hc22
            rw [Int32.lt_iff_toInt_lt, show (65536 : Int32).toInt = 65536 by decide] at t22
            have t37 := hc37
            rw [Int32.lt_iff_toInt_lt, show (256 : Int32).toInt = 256 by decide] at t37
            have u37 : ((p1.toUInt32 >>> ((8 : Int32) &&& 31).toUInt32).toInt32).toInt = p1.toInt / 2 ^ 8 := own_iushr (by omega) (by decide) (by decide)
            have t51 := hc51
            rw [Int32.lt_iff_toInt_lt, show (16 : Int32).toInt = 16 by decide] at t51
            have u51 : ((((p1.toUInt32 >>> ((8 : Int32) &&& 31).toUInt32).toInt32).toUInt32 >>> ((4 : Int32) &&& 31).toUInt32).toInt32).toInt = ((p1.toUInt32 >>> ((8 : Int32) &&& 31).toUInt32).toInt32).toInt / 2 ^ 4 := own_iushr (by omega) (by decide) (by decide)
            have t63 := hc63
            rw [Int32.lt_iff_toInt_lt, show (4 : Int32).toInt = 4 by decide] at t63
            exact ⟨_, rfl, N, rfl, own_nlz_of (i := p1) (y := ((((p1.toUInt32 >>> ((8 : Int32) &&& 31).toUInt32).toInt32).toUInt32 >>> ((4 : Int32) &&& 31).toUInt32).toInt32)) 12 (by decide) hp (n := (19 : Int32)) (by decide) (by omega) (by omega) (by omega) rfl⟩
          · refine Go.of (fun _ kq => XS.icmpNo X.here hx rfl (hb hby d17_63) rfl (flt hc63).1 kq) ?_
            show Go p e below s _ _ T (mkF m 66 #[.val (.int ((((p1.toUInt32 >>> ((8 : Int32) &&& 31).toUInt32).toInt32).toUInt32 >>> ((4 : Int32) &&& 31).toUInt32).toInt32)), .val (.int (19 : Int32))] [])
            refine Go.of (fun _ kq => XS.iinc X.here hx rfl (hb hby d17_66) rfl (l' := #[.val (.int ((((p1.toUInt32 >>> ((8 : Int32) &&& 31).toUInt32).toInt32).toUInt32 >>> ((4 : Int32) &&& 31).toUInt32).toInt32)), .val (.int (17 : Int32))]) rfl kq) ?_
            show Go p e below s _ _ T (mkF m 69 #[.val (.int ((((p1.toUInt32 >>> ((8 : Int32) &&& 31).toUInt32).toInt32).toUInt32 >>> ((4 : Int32) &&& 31).toUInt32).toInt32)), .val (.int (17 : Int32))] [])
            refine Go.of (fun _ kq => XS.iloadN X.here hx rfl (hb hby d17_69) rfl kq) ?_
            show Go p e below s _ _ T (mkF m 70 #[.val (.int ((((p1.toUInt32 >>> ((8 : Int32) &&& 31).toUInt32).toInt32).toUInt32 >>> ((4 : Int32) &&& 31).toUInt32).toInt32)), .val (.int (17 : Int32))] [(.int ((((p1.toUInt32 >>> ((8 : Int32) &&& 31).toUInt32).toInt32).toUInt32 >>> ((4 : Int32) &&& 31).toUInt32).toInt32))])
            refine Go.of (fun _ kq => XS.iconst X.here hx rfl (hb hby d17_70) kq) ?_
            show Go p e below s _ _ T (mkF m 71 #[.val (.int ((((p1.toUInt32 >>> ((8 : Int32) &&& 31).toUInt32).toInt32).toUInt32 >>> ((4 : Int32) &&& 31).toUInt32).toInt32)), .val (.int (17 : Int32))] [(.int (2 : Int32)), (.int ((((p1.toUInt32 >>> ((8 : Int32) &&& 31).toUInt32).toInt32).toUInt32 >>> ((4 : Int32) &&& 31).toUInt32).toInt32))])
            refine Go.of (fun _ kq => XS.iushr X.here hx rfl (hb hby d17_71) rfl kq) ?_
            show Go p e below s _ _ T (mkF m 72 #[.val (.int ((((p1.toUInt32 >>> ((8 : Int32) &&& 31).toUInt32).toInt32).toUInt32 >>> ((4 : Int32) &&& 31).toUInt32).toInt32)), .val (.int (17 : Int32))] [(.int ((((((p1.toUInt32 >>> ((8 : Int32) &&& 31).toUInt32).toInt32).toUInt32 >>> ((4 : Int32) &&& 31).toUInt32).toInt32).toUInt32 >>> ((2 : Int32) &&& 31).toUInt32).toInt32))])
            refine Go.of (fun _ kq => XS.istoreN X.here hx rfl (hb hby d17_72) rfl (l' := #[.val (.int ((((((p1.toUInt32 >>> ((8 : Int32) &&& 31).toUInt32).toInt32).toUInt32 >>> ((4 : Int32) &&& 31).toUInt32).toInt32).toUInt32 >>> ((2 : Int32) &&& 31).toUInt32).toInt32)), .val (.int (17 : Int32))]) rfl kq) ?_
            show Go p e below s _ _ T (mkF m 73 #[.val (.int ((((((p1.toUInt32 >>> ((8 : Int32) &&& 31).toUInt32).toInt32).toUInt32 >>> ((4 : Int32) &&& 31).toUInt32).toInt32).toUInt32 >>> ((2 : Int32) &&& 31).toUInt32).toInt32)), .val (.int (17 : Int32))] [])
            refine Go.of (fun _ kq => XS.iloadN X.here hx rfl (hb hby d17_73) rfl kq) ?_
            show Go p e below s _ _ T (mkF m 74 #[.val (.int ((((((p1.toUInt32 >>> ((8 : Int32) &&& 31).toUInt32).toInt32).toUInt32 >>> ((4 : Int32) &&& 31).toUInt32).toInt32).toUInt32 >>> ((2 : Int32) &&& 31).toUInt32).toInt32)), .val (.int (17 : Int32))] [(.int (17 : Int32))])
            refine Go.of (fun _ kq => XS.iloadN X.here hx rfl (hb hby d17_74) rfl kq) ?_
            show Go p e below s _ _ T (mkF m 75 #[.val (.int ((((((p1.toUInt32 >>> ((8 : Int32) &&& 31).toUInt32).toInt32).toUInt32 >>> ((4 : Int32) &&& 31).toUInt32).toInt32).toUInt32 >>> ((2 : Int32) &&& 31).toUInt32).toInt32)), .val (.int (17 : Int32))] [(.int ((((((p1.toUInt32 >>> ((8 : Int32) &&& 31).toUInt32).toInt32).toUInt32 >>> ((4 : Int32) &&& 31).toUInt32).toInt32).toUInt32 >>> ((2 : Int32) &&& 31).toUInt32).toInt32)), (.int (17 : Int32))])
            refine Go.of (fun _ kq => XS.iconst X.here hx rfl (hb hby d17_75) kq) ?_
            show Go p e below s _ _ T (mkF m 76 #[.val (.int ((((((p1.toUInt32 >>> ((8 : Int32) &&& 31).toUInt32).toInt32).toUInt32 >>> ((4 : Int32) &&& 31).toUInt32).toInt32).toUInt32 >>> ((2 : Int32) &&& 31).toUInt32).toInt32)), .val (.int (17 : Int32))] [(.int (1 : Int32)), (.int ((((((p1.toUInt32 >>> ((8 : Int32) &&& 31).toUInt32).toInt32).toUInt32 >>> ((4 : Int32) &&& 31).toUInt32).toInt32).toUInt32 >>> ((2 : Int32) &&& 31).toUInt32).toInt32)), (.int (17 : Int32))])
            refine Go.of (fun _ kq => XS.iushr X.here hx rfl (hb hby d17_76) rfl kq) ?_
            show Go p e below s _ _ T (mkF m 77 #[.val (.int ((((((p1.toUInt32 >>> ((8 : Int32) &&& 31).toUInt32).toInt32).toUInt32 >>> ((4 : Int32) &&& 31).toUInt32).toInt32).toUInt32 >>> ((2 : Int32) &&& 31).toUInt32).toInt32)), .val (.int (17 : Int32))] [(.int ((((((((p1.toUInt32 >>> ((8 : Int32) &&& 31).toUInt32).toInt32).toUInt32 >>> ((4 : Int32) &&& 31).toUInt32).toInt32).toUInt32 >>> ((2 : Int32) &&& 31).toUInt32).toInt32).toUInt32 >>> ((1 : Int32) &&& 31).toUInt32).toInt32)), (.int (17 : Int32))])
            refine Go.of (fun _ kq => XS.isub X.here hx rfl (hb hby d17_77) rfl kq) ?_
            show Go p e below s _ _ T (mkF m 78 #[.val (.int ((((((p1.toUInt32 >>> ((8 : Int32) &&& 31).toUInt32).toInt32).toUInt32 >>> ((4 : Int32) &&& 31).toUInt32).toInt32).toUInt32 >>> ((2 : Int32) &&& 31).toUInt32).toInt32)), .val (.int (17 : Int32))] [(.int ((17 : Int32) - ((((((((p1.toUInt32 >>> ((8 : Int32) &&& 31).toUInt32).toInt32).toUInt32 >>> ((4 : Int32) &&& 31).toUInt32).toInt32).toUInt32 >>> ((2 : Int32) &&& 31).toUInt32).toInt32).toUInt32 >>> ((1 : Int32) &&& 31).toUInt32).toInt32)))])
            refine Go.retI X hx hret hlk (hb hby d17_78) (by decide) (by decide) ?_
            try rw [eT]
            have k0 : (0 : Int32).toInt = 0 := by decide
            have hp := hc1
            rw [Int32.lt_iff_toInt_lt, k0] at hp
            have hu := p1.toInt_lt
            have t22 := hc22
            rw [Int32.lt_iff_toInt_lt, show (65536 : Int32).toInt = 65536 by decide] at t22
            have t37 := hc37
            rw [Int32.lt_iff_toInt_lt, show (256 : Int32).toInt = 256 by decide] at t37
            have u37 : ((p1.toUInt32 >>> ((8 : Int32) &&& 31).toUInt32).toInt32).toInt = p1.toInt / 2 ^ 8 := own_iushr (by omega) (by decide) (by decide)
            have t51 := hc51
            rw [Int32.lt_iff_toInt_lt, show (16 : Int32).toInt = 16 by decide] at t51
            have u51 : ((((p1.toUInt32 >>> ((8 : Int32) &&& 31).toUInt32).toInt32).toUInt32 >>> ((4 : Int32) &&& 31).toUInt32).toInt32).toInt = ((p1.toUInt32 >>> ((8 : Int32) &&& 31).toUInt32).toInt32).toInt / 2 ^ 4 := own_iushr (by omega) (by decide) (by decide)
            have t63 := hc63
            rw [Int32.lt_iff_toInt_lt, show (4 : Int32).toInt = 4 by decide] at t63
            have u63 : ((((((p1.toUInt32 >>> ((8 : Int32) &&& 31).toUInt32).toInt32).toUInt32 >>> ((4 : Int32) &&& 31).toUInt32).toInt32).toUInt32 >>> ((2 : Int32) &&& 31).toUInt32).toInt32).toInt = ((((p1.toUInt32 >>> ((8 : Int32) &&& 31).toUInt32).toInt32).toUInt32 >>> ((4 : Int32) &&& 31).toUInt32).toInt32).toInt / 2 ^ 2 := own_iushr (by omega) (by decide) (by decide)
            exact ⟨_, rfl, N, rfl, own_nlz_of (i := p1) (y := ((((((p1.toUInt32 >>> ((8 : Int32) &&& 31).toUInt32).toInt32).toUInt32 >>> ((4 : Int32) &&& 31).toUInt32).toInt32).toUInt32 >>> ((2 : Int32) &&& 31).toUInt32).toInt32)) 14 (by decide) hp (n := (17 : Int32)) (by decide) (by omega) (by omega) (by omega) rfl⟩
    · refine Go.of (fun _ kq => XS.icmpNo X.here hx rfl (hb hby d17_22) rfl (flt hc22).1 kq) ?_
      show Go p e below s _ _ T (mkF m 25 #[.val (.int p1), .val (.int (31 : Int32))] [])
      refine Go.of (fun _ kq => XS.iinc X.here hx rfl (hb hby d17_25) rfl (l' := #[.val (.int p1), .val (.int (15 : Int32))]) rfl kq) ?_
      show Go p e below s _ _ T (mkF m 28 #[.val (.int p1), .val (.int (15 : Int32))] [])
      refine Go.of (fun _ kq => XS.iloadN X.here hx rfl (hb hby d17_28) rfl kq) ?_
      show Go p e below s _ _ T (mkF m 29 #[.val (.int p1), .val (.int (15 : Int32))] [(.int p1)])
      refine Go.of (fun _ kq => XS.bipush X.here hx rfl (hb hby d17_29) kq) ?_
      show Go p e below s _ _ T (mkF m 31 #[.val (.int p1), .val (.int (15 : Int32))] [(.int (16 : Int32)), (.int p1)])
      refine Go.of (fun _ kq => XS.iushr X.here hx rfl (hb hby d17_31) rfl kq) ?_
      show Go p e below s _ _ T (mkF m 32 #[.val (.int p1), .val (.int (15 : Int32))] [(.int ((p1.toUInt32 >>> ((16 : Int32) &&& 31).toUInt32).toInt32))])
      refine Go.of (fun _ kq => XS.istoreN X.here hx rfl (hb hby d17_32) rfl (l' := #[.val (.int ((p1.toUInt32 >>> ((16 : Int32) &&& 31).toUInt32).toInt32)), .val (.int (15 : Int32))]) rfl kq) ?_
      show Go p e below s _ _ T (mkF m 33 #[.val (.int ((p1.toUInt32 >>> ((16 : Int32) &&& 31).toUInt32).toInt32)), .val (.int (15 : Int32))] [])
      refine Go.of (fun _ kq => XS.iloadN X.here hx rfl (hb hby d17_33) rfl kq) ?_
      show Go p e below s _ _ T (mkF m 34 #[.val (.int ((p1.toUInt32 >>> ((16 : Int32) &&& 31).toUInt32).toInt32)), .val (.int (15 : Int32))] [(.int ((p1.toUInt32 >>> ((16 : Int32) &&& 31).toUInt32).toInt32))])
      refine Go.of (fun _ kq => XS.sipush X.here hx rfl (hb hby d17_34) kq) ?_
      show Go p e below s _ _ T (mkF m 37 #[.val (.int ((p1.toUInt32 >>> ((16 : Int32) &&& 31).toUInt32).toInt32)), .val (.int (15 : Int32))] [(.int (256 : Int32)), (.int ((p1.toUInt32 >>> ((16 : Int32) &&& 31).toUInt32).toInt32))])
      by_cases hc37 : ((p1.toUInt32 >>> ((16 : Int32) &&& 31).toUInt32).toInt32) < (256 : Int32)
      · refine Go.of (fun _ kq => XS.icmpYes X.here hx rfl (pc0 := 37) (pc' := 48) rfl (hb hby d17_37) rfl (tlt hc37).1 (by decide) (by decide) kq) ?_
        show Go p e below s _ _ T (mkF m 48 #[.val (.int ((p1.toUInt32 >>> ((16 : Int32) &&& 31).toUInt32).toInt32)), .val (.int (15 : Int32))] [])
        refine Go.of (fun _ kq => XS.iloadN X.here hx rfl (hb hby d17_48) rfl kq) ?_
        show Go p e below s _ _ T (mkF m 49 #[.val (.int ((p1.toUInt32 >>> ((16 : Int32) &&& 31).toUInt32).toInt32)), .val (.int (15 : Int32))] [(.int ((p1.toUInt32 >>> ((16 : Int32) &&& 31).toUInt32).toInt32))])
        refine Go.of (fun _ kq => XS.bipush X.here hx rfl (hb hby d17_49) kq) ?_
        show Go p e below s _ _ T (mkF m 51 #[.val (.int ((p1.toUInt32 >>> ((16 : Int32) &&& 31).toUInt32).toInt32)), .val (.int (15 : Int32))] [(.int (16 : Int32)), (.int ((p1.toUInt32 >>> ((16 : Int32) &&& 31).toUInt32).toInt32))])
        by_cases hc51 : ((p1.toUInt32 >>> ((16 : Int32) &&& 31).toUInt32).toInt32) < (16 : Int32)
        · refine Go.of (fun _ kq => XS.icmpYes X.here hx rfl (pc0 := 51) (pc' := 61) rfl (hb hby d17_51) rfl (tlt hc51).1 (by decide) (by decide) kq) ?_
          show Go p e below s _ _ T (mkF m 61 #[.val (.int ((p1.toUInt32 >>> ((16 : Int32) &&& 31).toUInt32).toInt32)), .val (.int (15 : Int32))] [])
          refine Go.of (fun _ kq => XS.iloadN X.here hx rfl (hb hby d17_61) rfl kq) ?_
          show Go p e below s _ _ T (mkF m 62 #[.val (.int ((p1.toUInt32 >>> ((16 : Int32) &&& 31).toUInt32).toInt32)), .val (.int (15 : Int32))] [(.int ((p1.toUInt32 >>> ((16 : Int32) &&& 31).toUInt32).toInt32))])
          refine Go.of (fun _ kq => XS.iconst X.here hx rfl (hb hby d17_62) kq) ?_
          show Go p e below s _ _ T (mkF m 63 #[.val (.int ((p1.toUInt32 >>> ((16 : Int32) &&& 31).toUInt32).toInt32)), .val (.int (15 : Int32))] [(.int (4 : Int32)), (.int ((p1.toUInt32 >>> ((16 : Int32) &&& 31).toUInt32).toInt32))])
          by_cases hc63 : ((p1.toUInt32 >>> ((16 : Int32) &&& 31).toUInt32).toInt32) < (4 : Int32)
          · refine Go.of (fun _ kq => XS.icmpYes X.here hx rfl (pc0 := 63) (pc' := 73) rfl (hb hby d17_63) rfl (tlt hc63).1 (by decide) (by decide) kq) ?_
            show Go p e below s _ _ T (mkF m 73 #[.val (.int ((p1.toUInt32 >>> ((16 : Int32) &&& 31).toUInt32).toInt32)), .val (.int (15 : Int32))] [])
            refine Go.of (fun _ kq => XS.iloadN X.here hx rfl (hb hby d17_73) rfl kq) ?_
            show Go p e below s _ _ T (mkF m 74 #[.val (.int ((p1.toUInt32 >>> ((16 : Int32) &&& 31).toUInt32).toInt32)), .val (.int (15 : Int32))] [(.int (15 : Int32))])
            refine Go.of (fun _ kq => XS.iloadN X.here hx rfl (hb hby d17_74) rfl kq) ?_
            show Go p e below s _ _ T (mkF m 75 #[.val (.int ((p1.toUInt32 >>> ((16 : Int32) &&& 31).toUInt32).toInt32)), .val (.int (15 : Int32))] [(.int ((p1.toUInt32 >>> ((16 : Int32) &&& 31).toUInt32).toInt32)), (.int (15 : Int32))])
            refine Go.of (fun _ kq => XS.iconst X.here hx rfl (hb hby d17_75) kq) ?_
            show Go p e below s _ _ T (mkF m 76 #[.val (.int ((p1.toUInt32 >>> ((16 : Int32) &&& 31).toUInt32).toInt32)), .val (.int (15 : Int32))] [(.int (1 : Int32)), (.int ((p1.toUInt32 >>> ((16 : Int32) &&& 31).toUInt32).toInt32)), (.int (15 : Int32))])
            refine Go.of (fun _ kq => XS.iushr X.here hx rfl (hb hby d17_76) rfl kq) ?_
            show Go p e below s _ _ T (mkF m 77 #[.val (.int ((p1.toUInt32 >>> ((16 : Int32) &&& 31).toUInt32).toInt32)), .val (.int (15 : Int32))] [(.int ((((p1.toUInt32 >>> ((16 : Int32) &&& 31).toUInt32).toInt32).toUInt32 >>> ((1 : Int32) &&& 31).toUInt32).toInt32)), (.int (15 : Int32))])
            refine Go.of (fun _ kq => XS.isub X.here hx rfl (hb hby d17_77) rfl kq) ?_
            show Go p e below s _ _ T (mkF m 78 #[.val (.int ((p1.toUInt32 >>> ((16 : Int32) &&& 31).toUInt32).toInt32)), .val (.int (15 : Int32))] [(.int ((15 : Int32) - ((((p1.toUInt32 >>> ((16 : Int32) &&& 31).toUInt32).toInt32).toUInt32 >>> ((1 : Int32) &&& 31).toUInt32).toInt32)))])
            refine Go.retI X hx hret hlk (hb hby d17_78) (by decide) (by decide) ?_
            try rw [eT]
            have k0 : (0 : Int32).toInt = 0 := by decide
            have hp := hc1
            rw [Int32.lt_iff_toInt_lt, k0] at hp
            have hu := p1.toInt_lt
            have t22 := hc22
            rw [Int32.lt_iff_toInt_lt, show (65536 : Int32).toInt = 65536 by decide] at t22
            have u22 : ((p1.toUInt32 >>> ((16 : Int32) &&& 31).toUInt32).toInt32).toInt = p1.toInt / 2 ^ 16 := own_iushr (by omega) (by decide) (by decide)
            have t37 := hc37
            rw [Int32.lt_iff_toInt_lt, show (256 : Int32).toInt = 256 by decide] at t37
            have t51 := hc51
            rw [Int32.lt_iff_toInt_lt, show (16 : Int32).toInt = 16 by decide] at t51
            have t63 := hc63
            rw [Int32.lt_iff_toInt_lt, show (4 : Int32).toInt = 4 by decide] at t63
            exact ⟨_, rfl, N, rfl, own_nlz_of (i := p1) (y := ((p1.toUInt32 >>> ((16 : Int32) &&& 31).toUInt32).toInt32)) 16 (by decide) hp (n := (15 : Int32)) (by decide) (by omega) (by omega) (by omega) rfl⟩
          · refine Go.of (fun _ kq => XS.icmpNo X.here hx rfl (hb hby d17_63) rfl (flt hc63).1 kq) ?_
            show Go p e below s _ _ T (mkF m 66 #[.val (.int ((p1.toUInt32 >>> ((16 : Int32) &&& 31).toUInt32).toInt32)), .val (.int (15 : Int32))] [])
            refine Go.of (fun _ kq => XS.iinc X.here hx rfl (hb hby d17_66) rfl (l' := #[.val (.int ((p1.toUInt32 >>> ((16 : Int32) &&& 31).toUInt32).toInt32)), .val (.int (13 : Int32))]) rfl kq) ?_
            show Go p e below s _ _ T (mkF m 69 #[.val (.int ((p1.toUInt32 >>> ((16 : Int32) &&& 31).toUInt32).toInt32)), .val (.int (13 : Int32))] [])
            refine Go.of (fun _ kq => XS.iloadN X.here hx rfl (hb hby d17_69) rfl kq) ?_
            show Go p e below s _ _ T (mkF m 70 #[.val (.int ((p1.toUInt32 >>> ((16 : Int32) &&& 31).toUInt32).toInt32)), .val (.int (13 : Int32))] [(.int ((p1.toUInt32 >>> ((16 : Int32) &&& 31).toUInt32).toInt32))])
            refine Go.of (fun _ kq => XS.iconst X.here hx rfl (hb hby d17_70) kq) ?_
            show Go p e below s _ _ T (mkF m 71 #[.val (.int ((p1.toUInt32 >>> ((16 : Int32) &&& 31).toUInt32).toInt32)), .val (.int (13 : Int32))] [(.int (2 : Int32)), (.int ((p1.toUInt32 >>> ((16 : Int32) &&& 31).toUInt32).toInt32))])
            refine Go.of (fun _ kq => XS.iushr X.here hx rfl (hb hby d17_71) rfl kq) ?_
            show Go p e below s _ _ T (mkF m 72 #[.val (.int ((p1.toUInt32 >>> ((16 : Int32) &&& 31).toUInt32).toInt32)), .val (.int (13 : Int32))] [(.int ((((p1.toUInt32 >>> ((16 : Int32) &&& 31).toUInt32).toInt32).toUInt32 >>> ((2 : Int32) &&& 31).toUInt32).toInt32))])
            refine Go.of (fun _ kq => XS.istoreN X.here hx rfl (hb hby d17_72) rfl (l' := #[.val (.int ((((p1.toUInt32 >>> ((16 : Int32) &&& 31).toUInt32).toInt32).toUInt32 >>> ((2 : Int32) &&& 31).toUInt32).toInt32)), .val (.int (13 : Int32))]) rfl kq) ?_
            show Go p e below s _ _ T (mkF m 73 #[.val (.int ((((p1.toUInt32 >>> ((16 : Int32) &&& 31).toUInt32).toInt32).toUInt32 >>> ((2 : Int32) &&& 31).toUInt32).toInt32)), .val (.int (13 : Int32))] [])
            refine Go.of (fun _ kq => XS.iloadN X.here hx rfl (hb hby d17_73) rfl kq) ?_
            show Go p e below s _ _ T (mkF m 74 #[.val (.int ((((p1.toUInt32 >>> ((16 : Int32) &&& 31).toUInt32).toInt32).toUInt32 >>> ((2 : Int32) &&& 31).toUInt32).toInt32)), .val (.int (13 : Int32))] [(.int (13 : Int32))])
            refine Go.of (fun _ kq => XS.iloadN X.here hx rfl (hb hby d17_74) rfl kq) ?_
            show Go p e below s _ _ T (mkF m 75 #[.val (.int ((((p1.toUInt32 >>> ((16 : Int32) &&& 31).toUInt32).toInt32).toUInt32 >>> ((2 : Int32) &&& 31).toUInt32).toInt32)), .val (.int (13 : Int32))] [(.int ((((p1.toUInt32 >>> ((16 : Int32) &&& 31).toUInt32).toInt32).toUInt32 >>> ((2 : Int32) &&& 31).toUInt32).toInt32)), (.int (13 : Int32))])
            refine Go.of (fun _ kq => XS.iconst X.here hx rfl (hb hby d17_75) kq) ?_
            show Go p e below s _ _ T (mkF m 76 #[.val (.int ((((p1.toUInt32 >>> ((16 : Int32) &&& 31).toUInt32).toInt32).toUInt32 >>> ((2 : Int32) &&& 31).toUInt32).toInt32)), .val (.int (13 : Int32))] [(.int (1 : Int32)), (.int ((((p1.toUInt32 >>> ((16 : Int32) &&& 31).toUInt32).toInt32).toUInt32 >>> ((2 : Int32) &&& 31).toUInt32).toInt32)), (.int (13 : Int32))])
            refine Go.of (fun _ kq => XS.iushr X.here hx rfl (hb hby d17_76) rfl kq) ?_
            show Go p e below s _ _ T (mkF m 77 #[.val (.int ((((p1.toUInt32 >>> ((16 : Int32) &&& 31).toUInt32).toInt32).toUInt32 >>> ((2 : Int32) &&& 31).toUInt32).toInt32)), .val (.int (13 : Int32))] [(.int ((((((p1.toUInt32 >>> ((16 : Int32) &&& 31).toUInt32).toInt32).toUInt32 >>> ((2 : Int32) &&& 31).toUInt32).toInt32).toUInt32 >>> ((1 : Int32) &&& 31).toUInt32).toInt32)), (.int (13 : Int32))])
            refine Go.of (fun _ kq => XS.isub X.here hx rfl (hb hby d17_77) rfl kq) ?_
            show Go p e below s _ _ T (mkF m 78 #[.val (.int ((((p1.toUInt32 >>> ((16 : Int32) &&& 31).toUInt32).toInt32).toUInt32 >>> ((2 : Int32) &&& 31).toUInt32).toInt32)), .val (.int (13 : Int32))] [(.int ((13 : Int32) - ((((((p1.toUInt32 >>> ((16 : Int32) &&& 31).toUInt32).toInt32).toUInt32 >>> ((2 : Int32) &&& 31).toUInt32).toInt32).toUInt32 >>> ((1 : Int32) &&& 31).toUInt32).toInt32)))])
            refine Go.retI X hx hret hlk (hb hby d17_78) (by decide) (by decide) ?_
            try rw [eT]
            have k0 : (0 : Int32).toInt = 0 := by decide
            have hp := hc1
            rw [Int32.lt_iff_toInt_lt, k0] at hp
            have hu := p1.toInt_lt
            have t22 := hc22
            rw [Int32.lt_iff_toInt_lt, show (65536 : Int32).toInt = 65536 by decide] at t22
            have u22 : ((p1.toUInt32 >>> ((16 : Int32) &&& 31).toUInt32).toInt32).toInt = p1.toInt / 2 ^ 16 := own_iushr (by omega) (by decide) (by decide)
            have t37 := hc37
            rw [Int32.lt_iff_toInt_lt, show (256 : Int32).toInt = 256 by decide] at t37
            have t51 := hc51
            rw [Int32.lt_iff_toInt_lt, show (16 : Int32).toInt = 16 by decide] at t51
            have t63 := hc63
            rw [Int32.lt_iff_toInt_lt, show (4 : Int32).toInt = 4 by decide] at t63
            have u63 : ((((p1.toUInt32 >>> ((16 : Int32) &&& 31).toUInt32).toInt32).toUInt32 >>> ((2 : Int32) &&& 31).toUInt32).toInt32).toInt = ((p1.toUInt32 >>> ((16 : Int32) &&& 31).toUInt32).toInt32).toInt / 2 ^ 2 := own_iushr (by omega) (by decide) (by decide)
            exact ⟨_, rfl, N, rfl, own_nlz_of (i := p1) (y := ((((p1.toUInt32 >>> ((16 : Int32) &&& 31).toUInt32).toInt32).toUInt32 >>> ((2 : Int32) &&& 31).toUInt32).toInt32)) 18 (by decide) hp (n := (13 : Int32)) (by decide) (by omega) (by omega) (by omega) rfl⟩
        · refine Go.of (fun _ kq => XS.icmpNo X.here hx rfl (hb hby d17_51) rfl (flt hc51).1 kq) ?_
          show Go p e below s _ _ T (mkF m 54 #[.val (.int ((p1.toUInt32 >>> ((16 : Int32) &&& 31).toUInt32).toInt32)), .val (.int (15 : Int32))] [])
          refine Go.of (fun _ kq => XS.iinc X.here hx rfl (hb hby d17_54) rfl (l' := #[.val (.int ((p1.toUInt32 >>> ((16 : Int32) &&& 31).toUInt32).toInt32)), .val (.int (11 : Int32))]) rfl kq) ?_
          show Go p e below s _ _ T (mkF m 57 #[.val (.int ((p1.toUInt32 >>> ((16 : Int32) &&& 31).toUInt32).toInt32)), .val (.int (11 : Int32))] [])
          refine Go.of (fun _ kq => XS.iloadN X.here hx rfl (hb hby d17_57) rfl kq) ?_
          show Go p e below s _ _ T (mkF m 58 #[.val (.int ((p1.toUInt32 >>> ((16 : Int32) &&& 31).toUInt32).toInt32)), .val (.int (11 : Int32))] [(.int ((p1.toUInt32 >>> ((16 : Int32) &&& 31).toUInt32).toInt32))])
          refine Go.of (fun _ kq => XS.iconst X.here hx rfl (hb hby d17_58) kq) ?_
          show Go p e below s _ _ T (mkF m 59 #[.val (.int ((p1.toUInt32 >>> ((16 : Int32) &&& 31).toUInt32).toInt32)), .val (.int (11 : Int32))] [(.int (4 : Int32)), (.int ((p1.toUInt32 >>> ((16 : Int32) &&& 31).toUInt32).toInt32))])
          refine Go.of (fun _ kq => XS.iushr X.here hx rfl (hb hby d17_59) rfl kq) ?_
          show Go p e below s _ _ T (mkF m 60 #[.val (.int ((p1.toUInt32 >>> ((16 : Int32) &&& 31).toUInt32).toInt32)), .val (.int (11 : Int32))] [(.int ((((p1.toUInt32 >>> ((16 : Int32) &&& 31).toUInt32).toInt32).toUInt32 >>> ((4 : Int32) &&& 31).toUInt32).toInt32))])
          refine Go.of (fun _ kq => XS.istoreN X.here hx rfl (hb hby d17_60) rfl (l' := #[.val (.int ((((p1.toUInt32 >>> ((16 : Int32) &&& 31).toUInt32).toInt32).toUInt32 >>> ((4 : Int32) &&& 31).toUInt32).toInt32)), .val (.int (11 : Int32))]) rfl kq) ?_
          show Go p e below s _ _ T (mkF m 61 #[.val (.int ((((p1.toUInt32 >>> ((16 : Int32) &&& 31).toUInt32).toInt32).toUInt32 >>> ((4 : Int32) &&& 31).toUInt32).toInt32)), .val (.int (11 : Int32))] [])
          refine Go.of (fun _ kq => XS.iloadN X.here hx rfl (hb hby d17_61) rfl kq) ?_
          show Go p e below s _ _ T (mkF m 62 #[.val (.int ((((p1.toUInt32 >>> ((16 : Int32) &&& 31).toUInt32).toInt32).toUInt32 >>> ((4 : Int32) &&& 31).toUInt32).toInt32)), .val (.int (11 : Int32))] [(.int ((((p1.toUInt32 >>> ((16 : Int32) &&& 31).toUInt32).toInt32).toUInt32 >>> ((4 : Int32) &&& 31).toUInt32).toInt32))])
          refine Go.of (fun _ kq => XS.iconst X.here hx rfl (hb hby d17_62) kq) ?_
          show Go p e below s _ _ T (mkF m 63 #[.val (.int ((((p1.toUInt32 >>> ((16 : Int32) &&& 31).toUInt32).toInt32).toUInt32 >>> ((4 : Int32) &&& 31).toUInt32).toInt32)), .val (.int (11 : Int32))] [(.int (4 : Int32)), (.int ((((p1.toUInt32 >>> ((16 : Int32) &&& 31).toUInt32).toInt32).toUInt32 >>> ((4 : Int32) &&& 31).toUInt32).toInt32))])
          by_cases hc63 : ((((p1.toUInt32 >>> ((16 : Int32) &&& 31).toUInt32).toInt32).toUInt32 >>> ((4 : Int32) &&& 31).toUInt32).toInt32) < (4 : Int32)
          · refine Go.of (fun _ kq => XS.icmpYes X.here hx rfl (pc0 := 63) (pc' := 73) rfl (hb hby d17_63) rfl (tlt hc63).1 (by decide) (by decide) kq) ?_
            show Go p e below s _ _ T (mkF m 73 #[.val (.int ((((p1.toUInt32 >>> ((16 : Int32) &&& 31).toUInt32).toInt32).toUInt32 >>> ((4 : Int32) &&& 31).toUInt32).toInt32)), .val (.int (11 : Int32))] [])
            refine Go.of (fun _ kq => XS.iloadN X.here hx rfl (hb hby d17_73) rfl kq) ?_
            show Go p e below s _ _ T (mkF m 74 #[.val (.int ((((p1.toUInt32 >>> ((16 : Int32) &&& 31).toUInt32).toInt32).toUInt32 >>> ((4 : Int32) &&& 31).toUInt32).toInt32)), .val (.int (11 : Int32))] [(.int (11 : Int32))])
            refine Go.of (fun _ kq => XS.iloadN X.here hx rfl (hb hby d17_74) rfl kq) ?_
            show Go p e below s _ _ T (mkF m 75 #[.val (.int ((((p1.toUInt32 >>> ((16 : Int32) &&& 31).toUInt32).toInt32).toUInt32 >>> ((4 : Int32) &&& 31).toUInt32).toInt32)), .val (.int (11 : Int32))] [(.int ((((p1.toUInt32 >>> ((16 : Int32) &&& 31).toUInt32).toInt32).toUInt32 >>> ((4 : Int32) &&& 31).toUInt32).toInt32)), (.int (11 : Int32))])
            refine Go.of (fun _ kq => XS.iconst X.here hx rfl (hb hby d17_75) kq) ?_
            show Go p e below s _ _ T (mkF m 76 #[.val (.int ((((p1.toUInt32 >>> ((16 : Int32) &&& 31).toUInt32).toInt32).toUInt32 >>> ((4 : Int32) &&& 31).toUInt32).toInt32)), .val (.int (11 : Int32))] [(.int (1 : Int32)), (.int ((((p1.toUInt32 >>> ((16 : Int32) &&& 31).toUInt32).toInt32).toUInt32 >>> ((4 : Int32) &&& 31).toUInt32).toInt32)), (.int (11 : Int32))])
            refine Go.of (fun _ kq => XS.iushr X.here hx rfl (hb hby d17_76) rfl kq) ?_
            show Go p e below s _ _ T (mkF m 77 #[.val (.int ((((p1.toUInt32 >>> ((16 : Int32) &&& 31).toUInt32).toInt32).toUInt32 >>> ((4 : Int32) &&& 31).toUInt32).toInt32)), .val (.int (11 : Int32))] [(.int ((((((p1.toUInt32 >>> ((16 : Int32) &&& 31).toUInt32).toInt32).toUInt32 >>> ((4 : Int32) &&& 31).toUInt32).toInt32).toUInt32 >>> ((1 : Int32) &&& 31).toUInt32).toInt32)), (.int (11 : Int32))])
            refine Go.of (fun _ kq => XS.isub X.here hx rfl (hb hby d17_77) rfl kq) ?_
            show Go p e below s _ _ T (mkF m 78 #[.val (.int ((((p1.toUInt32 >>> ((16 : Int32) &&& 31).toUInt32).toInt32).toUInt32 >>> ((4 : Int32) &&& 31).toUInt32).toInt32)), .val (.int (11 : Int32))] [(.int ((11 : Int32) - ((((((p1.toUInt32 >>> ((16 : Int32) &&& 31).toUInt32).toInt32).toUInt32 >>> ((4 : Int32) &&& 31).toUInt32).toInt32).toUInt32 >>> ((1 : Int32) &&& 31).toUInt32).toInt32)))])
            refine Go.retI X hx hret hlk (hb hby d17_78) (by decide) (by decide) ?_
            try rw [eT]
            have k0 : (0 : Int32).toInt = 0 := by decide
            have hp := hc1
            rw [Int32.lt_iff_toInt_lt, k0] at hp
            have hu := p1.toInt_lt
            have t22 := hc22
            rw [Int32.lt_iff_toInt_lt, show (65536 : Int32).toInt = 65536 by decide] at t22
            have u22 : ((p1.toUInt32 >>> ((16 : Int32) &&& 31).toUInt32).toInt32).toInt = p1.toInt / 2 ^ 16 := own_iushr (by omega) (by decide) (by decide)
            have t37 := hc37
            rw [Int32.lt_iff_toInt_lt, show (256 : Int32).toInt = 256 by decide] at t37
            have t51 := hc51
            rw [Int32.lt_iff_toInt_lt, show (16 : Int32).toInt = 16 by decide] at t51
            have u51 : ((((p1.toUInt32 >>> ((16 : Int32) &&& 31).toUInt32).toInt32).toUInt32 >>> ((4 : Int32) &&& 31).toUInt32).toInt32).toInt = ((p1.toUInt32 >>> ((16 : Int32) &&& 31).toUInt32).toInt32).toInt / 2 ^ 4 := own_iushr (by omega) (by decide) (by decide)
            have t63 := hc63
            rw [Int32.lt_iff_toInt_lt, show (4 : Int32).toInt = 4 by decide] at t63
            exact ⟨_, rfl, N, rfl, own_nlz_of (i := p1) (y := ((((p1.toUInt32 >>> ((16 : Int32) &&& 31).toUInt32).toInt32).toUInt32 >>> ((4 : Int32) &&& 31).toUInt32).toInt32)) 20 (by decide) hp (n := (11 : Int32)) (by decide) (by omega) (by omega) (by omega) rfl⟩
          · refine Go.of (fun _ kq => XS.icmpNo X.here hx rfl (hb hby d17_63) rfl (flt hc63).1 kq) ?_
            show Go p e below s _ _ T (mkF m 66 #[.val (.int ((((p1.toUInt32 >>> ((16 : Int32) &&& 31).toUInt32).toInt32).toUInt32 >>> ((4 : Int32) &&& 31).toUInt32).toInt32)), .val (.int (11 : Int32))] [])
            refine Go.of (fun _ kq => XS.iinc X.here hx rfl (hb hby d17_66) rfl (l' := #[.val (.int ((((p1.toUInt32 >>> ((16 : Int32) &&& 31).toUInt32).toInt32).toUInt32 >>> ((4 : Int32) &&& 31).toUInt32).toInt32)), .val (.int (9 : Int32))]) rfl kq) ?_
            show Go p e below s _ _ T (mkF m 69 #[.val (.int ((((p1.toUInt32 >>> ((16 : Int32) &&& 31).toUInt32).toInt32).toUInt32 >>> ((4 : Int32) &&& 31).toUInt32).toInt32)), .val (.int (9 : Int32))] [])
            refine Go.of (fun _ kq => XS.iloadN X.here hx rfl (hb hby d17_69) rfl kq) ?_
            show Go p e below s _ _ T (mkF m 70 #[.val (.int ((((p1.toUInt32 >>> ((16 : Int32) &&& 31).toUInt32).toInt32).toUInt32 >>> ((4 : Int32) &&& 31).toUInt32).toInt32)), .val (.int (9 : Int32))] [(.int ((((p1.toUInt32 >>> ((16 : Int32) &&& 31).toUInt32).toInt32).toUInt32 >>> ((4 : Int32) &&& 31).toUInt32).toInt32))])
            refine Go.of (fun _ kq => XS.iconst X.here hx rfl (hb hby d17_70) kq) ?_
            show Go p e below s _ _ T (mkF m 71 #[.val (.int ((((p1.toUInt32 >>> ((16 : Int32) &&& 31).toUInt32).toInt32).toUInt32 >>> ((4 : Int32) &&& 31).toUInt32).toInt32)), .val (.int (9 : Int32))] [(.int (2 : Int32)), (.int ((((p1.toUInt32 >>> ((16 : Int32) &&& 31).toUInt32).toInt32).toUInt32 >>> ((4 : Int32) &&& 31).toUInt32).toInt32))])
            refine Go.of (fun _ kq => XS.iushr X.here hx rfl (hb hby d17_71) rfl kq) ?_
            show Go p e below s _ _ T (mkF m 72 #[.val (.int ((((p1.toUInt32 >>> ((16 : Int32) &&& 31).toUInt32).toInt32).toUInt32 >>> ((4 : Int32) &&& 31).toUInt32).toInt32)), .val (.int (9 : Int32))] [(.int ((((((p1.toUInt32 >>> ((16 : Int32) &&& 31).toUInt32).toInt32).toUInt32 >>> ((4 : Int32) &&& 31).toUInt32).toInt32).toUInt32 >>> ((2 : Int32) &&& 31).toUInt32).toInt32))])
            refine Go.of (fun _ kq => XS.istoreN X.here hx rfl (hb hby d17_72) rfl (l' := #[.val (.int ((((((p1.toUInt32 >>> ((16 : Int32) &&& 31).toUInt32).toInt32).toUInt32 >>> ((4 : Int32) &&& 31).toUInt32).toInt32).toUInt32 >>> ((2 : Int32) &&& 31).toUInt32).toInt32)), .val (.int (9 : Int32))]) rfl kq) ?_
            show Go p e below s _ _ T (mkF m 73 #[.val (.int ((((((p1.toUInt32 >>> ((16 : Int32) &&& 31).toUInt32).toInt32).toUInt32 >>> ((4 : Int32) &&& 31).toUInt32).toInt32).toUInt32 >>> ((2 : Int32) &&& 31).toUInt32).toInt32)), .val (.int (9 : Int32))] [])
            refine Go.of (fun _ kq => XS.iloadN X.here hx rfl (hb hby d17_73) rfl kq) ?_
            show Go p e below s _ _ T (mkF m 74 #[.val (.int ((((((p1.toUInt32 >>> ((16 : Int32) &&& 31).toUInt32).toInt32).toUInt32 >>> ((4 : Int32) &&& 31).toUInt32).toInt32).toUInt32 >>> ((2 : Int32) &&& 31).toUInt32).toInt32)), .val (.int (9 : Int32))] [(.int (9 : Int32))])
            refine Go.of (fun _ kq => XS.iloadN X.here hx rfl (hb hby d17_74) rfl kq) ?_
            show Go p e below s _ _ T (mkF m 75 #[.val (.int ((((((p1.toUInt32 >>> ((16 : Int32) &&& 31).toUInt32).toInt32).toUInt32 >>> ((4 : Int32) &&& 31).toUInt32).toInt32).toUInt32 >>> ((2 : Int32) &&& 31).toUInt32).toInt32)), .val (.int (9 : Int32))] [(.int ((((((p1.toUInt32 >>> ((16 : Int32) &&& 31).toUInt32).toInt32).toUInt32 >>> ((4 : Int32) &&& 31).toUInt32).toInt32).toUInt32 >>> ((2 : Int32) &&& 31).toUInt32).toInt32)), (.int (9 : Int32))])
            refine Go.of (fun _ kq => XS.iconst X.here hx rfl (hb hby d17_75) kq) ?_
            show Go p e below s _ _ T (mkF m 76 #[.val (.int ((((((p1.toUInt32 >>> ((16 : Int32) &&& 31).toUInt32).toInt32).toUInt32 >>> ((4 : Int32) &&& 31).toUInt32).toInt32).toUInt32 >>> ((2 : Int32) &&& 31).toUInt32).toInt32)), .val (.int (9 : Int32))] [(.int (1 : Int32)), (.int ((((((p1.toUInt32 >>> ((16 : Int32) &&& 31).toUInt32).toInt32).toUInt32 >>> ((4 : Int32) &&& 31).toUInt32).toInt32).toUInt32 >>> ((2 : Int32) &&& 31).toUInt32).toInt32)), (.int (9 : Int32))])
            refine Go.of (fun _ kq => XS.iushr X.here hx rfl (hb hby d17_76) rfl kq) ?_
            show Go p e below s _ _ T (mkF m 77 #[.val (.int ((((((p1.toUInt32 >>> ((16 : Int32) &&& 31).toUInt32).toInt32).toUInt32 >>> ((4 : Int32) &&& 31).toUInt32).toInt32).toUInt32 >>> ((2 : Int32) &&& 31).toUInt32).toInt32)), .val (.int (9 : Int32))] [(.int ((((((((p1.toUInt32 >>> ((16 : Int32) &&& 31).toUInt32).toInt32).toUInt32 >>> ((4 : Int32) &&& 31).toUInt32).toInt32).toUInt32 >>> ((2 : Int32) &&& 31).toUInt32).toInt32).toUInt32 >>> ((1 : Int32) &&& 31).toUInt32).toInt32)), (.int (9 : Int32))])
            refine Go.of (fun _ kq => XS.isub X.here hx rfl (hb hby d17_77) rfl kq) ?_
            show Go p e below s _ _ T (mkF m 78 #[.val (.int ((((((p1.toUInt32 >>> ((16 : Int32) &&& 31).toUInt32).toInt32).toUInt32 >>> ((4 : Int32) &&& 31).toUInt32).toInt32).toUInt32 >>> ((2 : Int32) &&& 31).toUInt32).toInt32)), .val (.int (9 : Int32))] [(.int ((9 : Int32) - ((((((((p1.toUInt32 >>> ((16 : Int32) &&& 31).toUInt32).toInt32).toUInt32 >>> ((4 : Int32) &&& 31).toUInt32).toInt32).toUInt32 >>> ((2 : Int32) &&& 31).toUInt32).toInt32).toUInt32 >>> ((1 : Int32) &&& 31).toUInt32).toInt32)))])
            refine Go.retI X hx hret hlk (hb hby d17_78) (by decide) (by decide) ?_
            try rw [eT]
            have k0 : (0 : Int32).toInt = 0 := by decide
            have hp := hc1
            rw [Int32.lt_iff_toInt_lt, k0] at hp
            have hu := p1.toInt_lt
            have t22 := hc22
            rw [Int32.lt_iff_toInt_lt, show (65536 : Int32).toInt = 65536 by decide] at t22
            have u22 : ((p1.toUInt32 >>> ((16 : Int32) &&& 31).toUInt32).toInt32).toInt = p1.toInt / 2 ^ 16 := own_iushr (by omega) (by decide) (by decide)
            have t37 := hc37
            rw [Int32.lt_iff_toInt_lt, show (256 : Int32).toInt = 256 by decide] at t37
            have t51 := hc51
            rw [Int32.lt_iff_toInt_lt, show (16 : Int32).toInt = 16 by decide] at t51
            have u51 : ((((p1.toUInt32 >>> ((16 : Int32) &&& 31).toUInt32).toInt32).toUInt32 >>> ((4 : Int32) &&& 31).toUInt32).toInt32).toInt = ((p1.toUInt32 >>> ((16 : Int32) &&& 31).toUInt32).toInt32).toInt / 2 ^ 4 := own_iushr (by omega) (by decide) (by decide)
            have t63 := hc63
            rw [Int32.lt_iff_toInt_lt, show (4 : Int32).toInt = 4 by decide] at t63
            have u63 : ((((((p1.toUInt32 >>> ((16 : Int32) &&& 31).toUInt32).toInt32).toUInt32 >>> ((4 : Int32) &&& 31).toUInt32).toInt32).toUInt32 >>> ((2 : Int32) &&& 31).toUInt32).toInt32).toInt = ((((p1.toUInt32 >>> ((16 : Int32) &&& 31).toUInt32).toInt32).toUInt32 >>> ((4 : Int32) &&& 31).toUInt32).toInt32).toInt / 2 ^ 2 := own_iushr (by omega) (by decide) (by decide)
            exact ⟨_, rfl, N, rfl, own_nlz_of (i := p1) (y := ((((((p1.toUInt32 >>> ((16 : Int32) &&& 31).toUInt32).toInt32).toUInt32 >>> ((4 : Int32) &&& 31).toUInt32).toInt32).toUInt32 >>> ((2 : Int32) &&& 31).toUInt32).toInt32)) 22 (by decide) hp (n := (9 : Int32)) (by decide) (by omega) (by omega) (by omega) rfl⟩
      · refine Go.of (fun _ kq => XS.icmpNo X.here hx rfl (hb hby d17_37) rfl (flt hc37).1 kq) ?_
        show Go p e below s _ _ T (mkF m 40 #[.val (.int ((p1.toUInt32 >>> ((16 : Int32) &&& 31).toUInt32).toInt32)), .val (.int (15 : Int32))] [])
        refine Go.of (fun _ kq => XS.iinc X.here hx rfl (hb hby d17_40) rfl (l' := #[.val (.int ((p1.toUInt32 >>> ((16 : Int32) &&& 31).toUInt32).toInt32)), .val (.int (7 : Int32))]) rfl kq) ?_
        show Go p e below s _ _ T (mkF m 43 #[.val (.int ((p1.toUInt32 >>> ((16 : Int32) &&& 31).toUInt32).toInt32)), .val (.int (7 : Int32))] [])
        refine Go.of (fun _ kq => XS.iloadN X.here hx rfl (hb hby d17_43) rfl kq) ?_
        show Go p e below s _ _ T (mkF m 44 #[.val (.int ((p1.toUInt32 >>> ((16 : Int32) &&& 31).toUInt32).toInt32)), .val (.int (7 : Int32))] [(.int ((p1.toUInt32 >>> ((16 : Int32) &&& 31).toUInt32).toInt32))])
        refine Go.of (fun _ kq => XS.bipush X.here hx rfl (hb hby d17_44) kq) ?_
        show Go p e below s _ _ T (mkF m 46 #[.val (.int ((p1.toUInt32 >>> ((16 : Int32) &&& 31).toUInt32).toInt32)), .val (.int (7 : Int32))] [(.int (8 : Int32)), (.int ((p1.toUInt32 >>> ((16 : Int32) &&& 31).toUInt32).toInt32))])
        refine Go.of (fun _ kq => XS.iushr X.here hx rfl (hb hby d17_46) rfl kq) ?_
        show Go p e below s _ _ T (mkF m 47 #[.val (.int ((p1.toUInt32 >>> ((16 : Int32) &&& 31).toUInt32).toInt32)), .val (.int (7 : Int32))] [(.int ((((p1.toUInt32 >>> ((16 : Int32) &&& 31).toUInt32).toInt32).toUInt32 >>> ((8 : Int32) &&& 31).toUInt32).toInt32))])
        refine Go.of (fun _ kq => XS.istoreN X.here hx rfl (hb hby d17_47) rfl (l' := #[.val (.int ((((p1.toUInt32 >>> ((16 : Int32) &&& 31).toUInt32).toInt32).toUInt32 >>> ((8 : Int32) &&& 31).toUInt32).toInt32)), .val (.int (7 : Int32))]) rfl kq) ?_
        show Go p e below s _ _ T (mkF m 48 #[.val (.int ((((p1.toUInt32 >>> ((16 : Int32) &&& 31).toUInt32).toInt32).toUInt32 >>> ((8 : Int32) &&& 31).toUInt32).toInt32)), .val (.int (7 : Int32))] [])
        refine Go.of (fun _ kq => XS.iloadN X.here hx rfl (hb hby d17_48) rfl kq) ?_
        show Go p e below s _ _ T (mkF m 49 #[.val (.int ((((p1.toUInt32 >>> ((16 : Int32) &&& 31).toUInt32).toInt32).toUInt32 >>> ((8 : Int32) &&& 31).toUInt32).toInt32)), .val (.int (7 : Int32))] [(.int ((((p1.toUInt32 >>> ((16 : Int32) &&& 31).toUInt32).toInt32).toUInt32 >>> ((8 : Int32) &&& 31).toUInt32).toInt32))])
        refine Go.of (fun _ kq => XS.bipush X.here hx rfl (hb hby d17_49) kq) ?_
        show Go p e below s _ _ T (mkF m 51 #[.val (.int ((((p1.toUInt32 >>> ((16 : Int32) &&& 31).toUInt32).toInt32).toUInt32 >>> ((8 : Int32) &&& 31).toUInt32).toInt32)), .val (.int (7 : Int32))] [(.int (16 : Int32)), (.int ((((p1.toUInt32 >>> ((16 : Int32) &&& 31).toUInt32).toInt32).toUInt32 >>> ((8 : Int32) &&& 31).toUInt32).toInt32))])
        by_cases hc51 : ((((p1.toUInt32 >>> ((16 : Int32) &&& 31).toUInt32).toInt32).toUInt32 >>> ((8 : Int32) &&& 31).toUInt32).toInt32) < (16 : Int32)
        · refine Go.of (fun _ kq => XS.icmpYes X.here hx rfl (pc0 := 51) (pc' := 61) rfl (hb hby d17_51) rfl (tlt hc51).1 (by decide) (by decide) kq) ?_
          show Go p e below s _ _ T (mkF m 61 #[.val (.int ((((p1.toUInt32 >>> ((16 : Int32) &&& 31).toUInt32).toInt32).toUInt32 >>> ((8 : Int32) &&& 31).toUInt32).toInt32)), .val (.int (7 : Int32))] [])
          refine Go.of (fun _ kq => XS.iloadN X.here hx rfl (hb hby d17_61) rfl kq) ?_
          show Go p e below s _ _ T (mkF m 62 #[.val (.int ((((p1.toUInt32 >>> ((16 : Int32) &&& 31).toUInt32).toInt32).toUInt32 >>> ((8 : Int32) &&& 31).toUInt32).toInt32)), .val (.int (7 : Int32))] [(.int ((((p1.toUInt32 >>> ((16 : Int32) &&& 31).toUInt32).toInt32).toUInt32 >>> ((8 : Int32) &&& 31).toUInt32).toInt32))])
          refine Go.of (fun _ kq => XS.iconst X.here hx rfl (hb hby d17_62) kq) ?_
          show Go p e below s _ _ T (mkF m 63 #[.val (.int ((((p1.toUInt32 >>> ((16 : Int32) &&& 31).toUInt32).toInt32).toUInt32 >>> ((8 : Int32) &&& 31).toUInt32).toInt32)), .val (.int (7 : Int32))] [(.int (4 : Int32)), (.int ((((p1.toUInt32 >>> ((16 : Int32) &&& 31).toUInt32).toInt32).toUInt32 >>> ((8 : Int32) &&& 31).toUInt32).toInt32))])
          by_cases hc63 : ((((p1.toUInt32 >>> ((16 : Int32) &&& 31).toUInt32).toInt32).toUInt32 >>> ((8 : Int32) &&& 31).toUInt32).toInt32) < (4 : Int32)
          · refine Go.of (fun _ kq => XS.icmpYes X.here hx rfl (pc0 := 63) (pc' := 73) rfl (hb hby d17_63) rfl (tlt hc63).1 (by decide) (by decide) kq) ?_
            show Go p e below s _ _ T (mkF m 73 #[.val (.int ((((p1.toUInt32 >>> ((16 : Int32) &&& 31).toUInt32).toInt32).toUInt32 >>> ((8 : Int32) &&& 31).toUInt32).toInt32)), .val (.int (7 : Int32))] [])
            refine Go.of (fun _ kq => XS.iloadN X.here hx rfl (hb hby d17_73) rfl kq) ?_
            show Go p e below s _ _ T (mkF m 74 #[.val (.int ((((p1.toUInt32 >>> ((16 : Int32) &&& 31).toUInt32).toInt32).toUInt32 >>> ((8 : Int32) &&& 31).toUInt32).toInt32)), .val (.int (7 : Int32))] [(.int (7 : Int32))])
            refine Go.of (fun _ kq => XS.iloadN X.here hx rfl (hb hby d17_74) rfl kq) ?_
            show Go p e below s _ _ T (mkF m 75 #[.val (.int ((((p1.toUInt32 >>> ((16 : Int32) &&& 31).toUInt32).toInt32).toUInt32 >>> ((8 : Int32) &&& 31).toUInt32).toInt32)), .val (.int (7 : Int32))] [(.int ((((p1.toUInt32 >>> ((16 : Int32) &&& 31).toUInt32).toInt32).toUInt32 >>> ((8 : Int32) &&& 31).toUInt32).toInt32)), (.int (7 : Int32))])
            refine Go.of (fun _ kq => XS.iconst X.here hx rfl (hb hby d17_75) kq) ?_
            show Go p e below s _ _ T (mkF m 76 #[.val (.int ((((p1.toUInt32 >>> ((16 : Int32) &&& 31).toUInt32).toInt32).toUInt32 >>> ((8 : Int32) &&& 31).toUInt32).toInt32)), .val (.int (7 : Int32))] [(.int (1 : Int32)), (.int ((((p1.toUInt32 >>> ((16 : Int32) &&& 31).toUInt32).toInt32).toUInt32 >>> ((8 : Int32) &&& 31).toUInt32).toInt32)), (.int (7 : Int32))])
            refine Go.of (fun _ kq => XS.iushr X.here hx rfl (hb hby d17_76) rfl kq) ?_
            show Go p e below s _ _ T (mkF m 77 #[.val (.int ((((p1.toUInt32 >>> ((16 : Int32) &&& 31).toUInt32).toInt32).toUInt32 >>> ((8 : Int32) &&& 31).toUInt32).toInt32)), .val (.int (7 : Int32))] [(.int ((((((p1.toUInt32 >>> ((16 : Int32) &&& 31).toUInt32).toInt32).toUInt32 >>> ((8 : Int32) &&& 31).toUInt32).toInt32).toUInt32 >>> ((1 : Int32) &&& 31).toUInt32).toInt32)), (.int (7 : Int32))])
            refine Go.of (fun _ kq => XS.isub X.here hx rfl (hb hby d17_77) rfl kq) ?_
            show Go p e below s _ _ T (mkF m 78 #[.val (.int ((((p1.toUInt32 >>> ((16 : Int32) &&& 31).toUInt32).toInt32).toUInt32 >>> ((8 : Int32) &&& 31).toUInt32).toInt32)), .val (.int (7 : Int32))] [(.int ((7 : Int32) - ((((((p1.toUInt32 >>> ((16 : Int32) &&& 31).toUInt32).toInt32).toUInt32 >>> ((8 : Int32) &&& 31).toUInt32).toInt32).toUInt32 >>> ((1 : Int32) &&& 31).toUInt32).toInt32)))])
            refine Go.retI X hx hret hlk (hb hby d17_78) (by decide) (by decide) ?_
            try rw [eT]
            have k0 : (0 : Int32).toInt = 0 := by decide
            have hp := hc1
            rw [Int32.lt_iff_toInt_lt, k0] at hp
            have hu := p1.toInt_lt
            have t22 := hc22
            rw [Int32.lt_iff_toInt_lt, show (65536 : Int32).toInt = 65536 by decide] at t22
            have u22 : ((p1.toUInt32 >>> ((16 : Int32) &&& 31).toUInt32).toInt32).toInt = p1.toInt / 2 ^ 16 := own_iushr (by omega) (by decide) (by decide)
            have t37 := hc37
            rw [Int32.lt_iff_toInt_lt, show (256 : Int32).toInt = 256 by decide] at t37
            have u37 : ((((p1.toUInt32 >>> ((16 : Int32) &&& 31).toUInt32).toInt32).toUInt32 >>> ((8 : Int32) &&& 31).toUInt32).toInt32).toInt = ((p1.toUInt32 >>> ((16 : Int32) &&& 31).toUInt32).toInt32).toInt / 2 ^ 8 := own_iushr (by omega) (by decide) (by decide)
            have t51 := hc51
            rw [Int32.lt_iff_toInt_lt, show (16 : Int32).toInt = 16 by decide] at t51
            have t63 := hc63
            rw [Int32.lt_iff_toInt_lt, show (4 : Int32).toInt = 4 by decide] at t63
            exact ⟨_, rfl, N, rfl, own_nlz_of (i := p1) (y := ((((p1.toUInt32 >>> ((16 : Int32) &&& 31).toUInt32).toInt32).toUInt32 >>> ((8 : Int32) &&& 31).toUInt32).toInt32)) 24 (by decide) hp (n := (7 : Int32)) (by decide) (by omega) (by omega) (by omega) rfl⟩
          · refine Go.of (fun _ kq => XS.icmpNo X.here hx rfl (hb hby d17_63) rfl (flt hc63).1 kq) ?_
            show Go p e below s _ _ T (mkF m 66 #[.val (.int ((((p1.toUInt32 >>> ((16 : Int32) &&& 31).toUInt32).toInt32).toUInt32 >>> ((8 : Int32) &&& 31).toUInt32).toInt32)), .val (.int (7 : Int32))] [])
            refine Go.of (fun _ kq => XS.iinc X.here hx rfl (hb hby d17_66) rfl (l' := #[.val (.int ((((p1.toUInt32 >>> ((16 : Int32) &&& 31).toUInt32).toInt32).toUInt32 >>> ((8 : Int32) &&& 31).toUInt32).toInt32)), .val (.int (5 : Int32))]) rfl kq) ?_
            show Go p e below s _ _ T (mkF m 69 #[.val (.int ((((p1.toUInt32 >>> ((16 : Int32) &&& 31).toUInt32).toInt32).toUInt32 >>> ((8 : Int32) &&& 31).toUInt32).toInt32)), .val (.int (5 : Int32))] [])
            refine Go.of (fun _ kq => XS.iloadN X.here hx rfl (hb hby d17_69) rfl kq) ?_
            show Go p e below s _ _ T (mkF m 70 #[.val (.int ((((p1.toUInt32 >>> ((16 : Int32) &&& 31).toUInt32).toInt32).toUInt32 >>> ((8 : Int32) &&& 31).toUInt32).toInt32)), .val (.int (5 : Int32))] [(.int ((((p1.toUInt32 >>> ((16 : Int32) &&& 31).toUInt32).toInt32).toUInt32 >>> ((8 : Int32) &&& 31).toUInt32).toInt32))])
            refine Go.of (fun _ kq => XS.iconst X.here hx rfl (hb hby d17_70) kq) ?_
            show Go p e below s _ _ T (mkF m 71 #[.val (.int ((((p1.toUInt32 >>> ((16 : Int32) &&& 31).toUInt32).toInt32).toUInt32 >>> ((8 : Int32) &&& 31).toUInt32).toInt32)), .val (.int (5 : Int32))] [(.int (2 : Int32)), (.int ((((p1.toUInt32 >>> ((16 : Int32) &&& 31).toUInt32).toInt32).toUInt32 >>> ((8 : Int32) &&& 31).toUInt32).toInt32))])
            refine Go.of (fun _ kq => XS.iushr X.here hx rfl (hb hby d17_71) rfl kq) ?_
            show Go p e below s _ _ T (mkF m 72 #[.val (.int ((((p1.toUInt32 >>> ((16 : Int32) &&& 31).toUInt32).toInt32).toUInt32 >>> ((8 : Int32) &&& 31).toUInt32).toInt32)), .val (.int (5 : Int32))] [(.int ((((((p1.toUInt32 >>> ((16 : Int32) &&& 31).toUInt32).toInt32).toUInt32 >>> ((8 : Int32) &&& 31).toUInt32).toInt32).toUInt32 >>> ((2 : Int32) &&& 31).toUInt32).toInt32))])
            refine Go.of (fun _ kq => XS.istoreN X.here hx rfl (hb hby d17_72) rfl (l' := #[.val (.int ((((((p1.toUInt32 >>> ((16 : Int32) &&& 31).toUInt32).toInt32).toUInt32 >>> ((8 : Int32) &&& 31).toUInt32).toInt32).toUInt32 >>> ((2 : Int32) &&& 31).toUInt32).toInt32)), .val (.int (5 : Int32))]) rfl kq) ?_
            show Go p e below s _ _ T (mkF m 73 #[.val (.int ((((((p1.toUInt32 >>> ((16 : Int32) &&& 31).toUInt32).toInt32).toUInt32 >>> ((8 : Int32) &&& 31).toUInt32).toInt32).toUInt32 >>> ((2 : Int32) &&& 31).toUInt32).toInt32)), .val (.int (5 : Int32))] [])
            refine Go.of (fun _ kq => XS.iloadN X.here hx rfl (hb hby d17_73) rfl kq) ?_
            show Go p e below s _ _ T (mkF m 74 #[.val (.int ((((((p1.toUInt32 >>> ((16 : Int32) &&& 31).toUInt32).toInt32).toUInt32 >>> ((8 : Int32) &&& 31).toUInt32).toInt32).toUInt32 >>> ((2 : Int32) &&& 31).toUInt32).toInt32)), .val (.int (5 : Int32))] [(.int (5 : Int32))])
            refine Go.of (fun _ kq => XS.iloadN X.here hx rfl (hb hby d17_74) rfl kq) ?_
            show Go p e below s _ _ T (mkF m 75 #[.val (.int ((((((p1.toUInt32 >>> ((16 : Int32) &&& 31).toUInt32).toInt32).toUInt32 >>> ((8 : Int32) &&& 31).toUInt32).toInt32).toUInt32 >>> ((2 : Int32) &&& 31).toUInt32).toInt32)), .val (.int (5 : Int32))] [(.int ((((((p1.toUInt32 >>> ((16 : Int32) &&& 31).toUInt32).toInt32).toUInt32 >>> ((8 : Int32) &&& 31).toUInt32).toInt32).toUInt32 >>> ((2 : Int32) &&& 31).toUInt32).toInt32)), (.int (5 : Int32))])
            refine Go.of (fun _ kq => XS.iconst X.here hx rfl (hb hby d17_75) kq) ?_
            show Go p e below s _ _ T (mkF m 76 #[.val (.int ((((((p1.toUInt32 >>> ((16 : Int32) &&& 31).toUInt32).toInt32).toUInt32 >>> ((8 : Int32) &&& 31).toUInt32).toInt32).toUInt32 >>> ((2 : Int32) &&& 31).toUInt32).toInt32)), .val (.int (5 : Int32))] [(.int (1 : Int32)), (.int ((((((p1.toUInt32 >>> ((16 : Int32) &&& 31).toUInt32).toInt32).toUInt32 >>> ((8 : Int32) &&& 31).toUInt32).toInt32).toUInt32 >>> ((2 : Int32) &&& 31).toUInt32).toInt32)), (.int (5 : Int32))])
            refine Go.of (fun _ kq => XS.iushr X.here hx rfl (hb hby d17_76) rfl kq) ?_
            show Go p e below s _ _ T (mkF m 77 #[.val (.int ((((((p1.toUInt32 >>> ((16 : Int32) &&& 31).toUInt32).toInt32).toUInt32 >>> ((8 : Int32) &&& 31).toUInt32).toInt32).toUInt32 >>> ((2 : Int32) &&& 31).toUInt32).toInt32)), .val (.int (5 : Int32))] [(.int ((((((((p1.toUInt32 >>> ((16 : Int32) &&& 31).toUInt32).toInt32).toUInt32 >>> ((8 : Int32) &&& 31).toUInt32).toInt32).toUInt32 >>> ((2 : Int32) &&& 31).toUInt32).toInt32).toUInt32 >>> ((1 : Int32) &&& 31).toUInt32).toInt32)), (.int (5 : Int32))])
            refine Go.of (fun _ kq => XS.isub X.here hx rfl (hb hby d17_77) rfl kq) ?_
            show Go p e below s _ _ T (mkF m 78 #[.val (.int ((((((p1.toUInt32 >>> ((16 : Int32) &&& 31).toUInt32).toInt32).toUInt32 >>> ((8 : Int32) &&& 31).toUInt32).toInt32).toUInt32 >>> ((2 : Int32) &&& 31).toUInt32).toInt32)), .val (.int (5 : Int32))] [(.int ((5 : Int32) - ((((((((p1.toUInt32 >>> ((16 : Int32) &&& 31).toUInt32).toInt32).toUInt32 >>> ((8 : Int32) &&& 31).toUInt32).toInt32).toUInt32 >>> ((2 : Int32) &&& 31).toUInt32).toInt32).toUInt32 >>> ((1 : Int32) &&& 31).toUInt32).toInt32)))])
            refine Go.retI X hx hret hlk (hb hby d17_78) (by decide) (by decide) ?_
            try rw [eT]
            have k0 : (0 : Int32).toInt = 0 := by decide
            have hp := hc1
            rw [Int32.lt_iff_toInt_lt, k0] at hp
            have hu := p1.toInt_lt
            have t22 := hc22
            rw [Int32.lt_iff_toInt_lt, show (65536 : Int32).toInt = 65536 by decide] at t22
            have u22 : ((p1.toUInt32 >>> ((16 : Int32) &&& 31).toUInt32).toInt32).toInt = p1.toInt / 2 ^ 16 := own_iushr (by omega) (by decide) (by decide)
            have t37 := hc37
            rw [Int32.lt_iff_toInt_lt, show (256 : Int32).toInt = 256 by decide] at t37
            have u37 : ((((p1.toUInt32 >>> ((16 : Int32) &&& 31).toUInt32).toInt32).toUInt32 >>> ((8 : Int32) &&& 31).toUInt32).toInt32).toInt = ((p1.toUInt32 >>> ((16 : Int32) &&& 31).toUInt32).toInt32).toInt / 2 ^ 8 := own_iushr (by omega) (by decide) (by decide)
            have t51 := hc51
            rw [Int32.lt_iff_toInt_lt, show (16 : Int32).toInt = 16 by decide] at t51
            have t63 := hc63
            rw [Int32.lt_iff_toInt_lt, show (4 : Int32).toInt = 4 by decide] at t63
            have u63 : ((((((p1.toUInt32 >>> ((16 : Int32) &&& 31).toUInt32).toInt32).toUInt32 >>> ((8 : Int32) &&& 31).toUInt32).toInt32).toUInt32 >>> ((2 : Int32) &&& 31).toUInt32).toInt32).toInt = ((((p1.toUInt32 >>> ((16 : Int32) &&& 31).toUInt32).toInt32).toUInt32 >>> ((8 : Int32) &&& 31).toUInt32).toInt32).toInt / 2 ^ 2 := own_iushr (by omega) (by decide) (by decide)
            exact ⟨_, rfl, N, rfl, own_nlz_of (i := p1) (y := ((((((p1.toUInt32 >>> ((16 : Int32) &&& 31).toUInt32).toInt32).toUInt32 >>> ((8 : Int32) &&& 31).toUInt32).toInt32).toUInt32 >>> ((2 : Int32) &&& 31).toUInt32).toInt32)) 26 (by decide) hp (n := (5 : Int32)) (by decide) (by omega) (by omega) (by omega) rfl⟩
        · refine Go.of (fun _ kq => XS.icmpNo X.here hx rfl (hb hby d17_51) rfl (flt hc51).1 kq) ?_
          show Go p e below s _ _ T (mkF m 54 #[.val (.int ((((p1.toUInt32 >>> ((16 : Int32) &&& 31).toUInt32).toInt32).toUInt32 >>> ((8 : Int32) &&& 31).toUInt32).toInt32)), .val (.int (7 : Int32))] [])
          refine Go.of (fun _ kq => XS.iinc X.here hx rfl (hb hby d17_54) rfl (l' := #[.val (.int ((((p1.toUInt32 >>> ((16 : Int32) &&& 31).toUInt32).toInt32).toUInt32 >>> ((8 : Int32) &&& 31).toUInt32).toInt32)), .val (.int (3 : Int32))]) rfl kq) ?_
          show Go p e below s _ _ T (mkF m 57 #[.val (.int ((((p1.toUInt32 >>> ((16 : Int32) &&& 31).toUInt32).toInt32).toUInt32 >>> ((8 : Int32) &&& 31).toUInt32).toInt32)), .val (.int (3 : Int32))] [])
          refine Go.of (fun _ kq => XS.iloadN X.here hx rfl (hb hby d17_57) rfl kq) ?_
          show Go p e below s _ _ T (mkF m 58 #[.val (.int ((((p1.toUInt32 >>> ((16 : Int32) &&& 31).toUInt32).toInt32).toUInt32 >>> ((8 : Int32) &&& 31).toUInt32).toInt32)), .val (.int (3 : Int32))] [(.int ((((p1.toUInt32 >>> ((16 : Int32) &&& 31).toUInt32).toInt32).toUInt32 >>> ((8 : Int32) &&& 31).toUInt32).toInt32))])
          refine Go.of (fun _ kq => XS.iconst X.here hx rfl (hb hby d17_58) kq) ?_
          show Go p e below s _ _ T (mkF m 59 #[.val (.int ((((p1.toUInt32 >>> ((16 : Int32) &&& 31).toUInt32).toInt32).toUInt32 >>> ((8 : Int32) &&& 31).toUInt32).toInt32)), .val (.int (3 : Int32))] [(.int (4 : Int32)), (.int ((((p1.toUInt32 >>> ((16 : Int32) &&& 31).toUInt32).toInt32).toUInt32 >>> ((8 : Int32) &&& 31).toUInt32).toInt32))])
          refine Go.of (fun _ kq => XS.iushr X.here hx rfl (hb hby d17_59) rfl kq) ?_
          show Go p e below s _ _ T (mkF m 60 #[.val (.int ((((p1.toUInt32 >>> ((16 : Int32) &&& 31).toUInt32).toInt32).toUInt32 >>> ((8 : Int32) &&& 31).toUInt32).toInt32)), .val (.int (3 : Int32))] [(.int ((((((p1.toUInt32 >>> ((16 : Int32) &&& 31).toUInt32).toInt32).toUInt32 >>> ((8 : Int32) &&& 31).toUInt32).toInt32).toUInt32 >>> ((4 : Int32) &&& 31).toUInt32).toInt32))])
          refine Go.of (fun _ kq => XS.istoreN X.here hx rfl (hb hby d17_60) rfl (l' := #[.val (.int ((((((p1.toUInt32 >>> ((16 : Int32) &&& 31).toUInt32).toInt32).toUInt32 >>> ((8 : Int32) &&& 31).toUInt32).toInt32).toUInt32 >>> ((4 : Int32) &&& 31).toUInt32).toInt32)), .val (.int (3 : Int32))]) rfl kq) ?_
          show Go p e below s _ _ T (mkF m 61 #[.val (.int ((((((p1.toUInt32 >>> ((16 : Int32) &&& 31).toUInt32).toInt32).toUInt32 >>> ((8 : Int32) &&& 31).toUInt32).toInt32).toUInt32 >>> ((4 : Int32) &&& 31).toUInt32).toInt32)), .val (.int (3 : Int32))] [])
          refine Go.of (fun _ kq => XS.iloadN X.here hx rfl (hb hby d17_61) rfl kq) ?_
          show Go p e below s _ _ T (mkF m 62 #[.val (.int ((((((p1.toUInt32 >>> ((16 : Int32) &&& 31).toUInt32).toInt32).toUInt32 >>> ((8 : Int32) &&& 31).toUInt32).toInt32).toUInt32 >>> ((4 : Int32) &&& 31).toUInt32).toInt32)), .val (.int (3 : Int32))] [(.int ((((((p1.toUInt32 >>> ((16 : Int32) &&& 31).toUInt32).toInt32).toUInt32 >>> ((8 : Int32) &&& 31).toUInt32).toInt32).toUInt32 >>> ((4 : Int32) &&& 31).toUInt32).toInt32))])
          refine Go.of (fun _ kq => XS.iconst X.here hx rfl (hb hby d17_62) kq) ?_
          show Go p e below s _ _ T (mkF m 63 #[.val (.int ((((((p1.toUInt32 >>> ((16 : Int32) &&& 31).toUInt32).toInt32).toUInt32 >>> ((8 : Int32) &&& 31).toUInt32).toInt32).toUInt32 >>> ((4 : Int32) &&& 31).toUInt32).toInt32)), .val (.int (3 : Int32))] [(.int (4 : Int32)), (.int ((((((p1.toUInt32 >>> ((16 : Int32) &&& 31).toUInt32).toInt32).toUInt32 >>> ((8 : Int32) &&& 31).toUInt32).toInt32).toUInt32 >>> ((4 : Int32) &&& 31).toUInt32).toInt32))])
          by_cases hc63 : ((((((p1.toUInt32 >>> ((16 : Int32) &&& 31).toUInt32).toInt32).toUInt32 >>> ((8 : Int32) &&& 31).toUInt32).toInt32).toUInt32 >>> ((4 : Int32) &&& 31).toUInt32).toInt32) < (4 : Int32)
          · refine Go.of (fun _ kq => XS.icmpYes X.here hx rfl (pc0 := 63) (pc' := 73) rfl (hb hby d17_63) rfl (tlt hc63).1 (by decide) (by decide) kq) ?_
            show Go p e below s _ _ T (mkF m 73 #[.val (.int ((((((p1.toUInt32 >>> ((16 : Int32) &&& 31).toUInt32).toInt32).toUInt32 >>> ((8 : Int32) &&& 31).toUInt32).toInt32).toUInt32 >>> ((4 : Int32) &&& 31).toUInt32).toInt32)), .val (.int (3 : Int32))] [])
            refine Go.of (fun _ kq => XS.iloadN X.here hx rfl (hb hby d17_73) rfl kq) ?_
            show Go p e below s _ _ T (mkF m 74 #[.val (.int ((((((p1.toUInt32 >>> ((16 : Int32) &&& 31).toUInt32).toInt32).toUInt32 >>> ((8 : Int32) &&& 31).toUInt32).toInt32).toUInt32 >>> ((4 : Int32) &&& 31).toUInt32).toInt32)), .val (.int (3 : Int32))] [(.int (3 : Int32))])
            refine Go.of (fun _ kq => XS.iloadN X.here hx rfl (hb hby d17_74) rfl kq) ?_
            show Go p e below s _ _ T (mkF m 75 #[.val (.int ((((((p1.toUInt32 >>> ((16 : Int32) &&& 31).toUInt32).toInt32).toUInt32 >>> ((8 : Int32) &&& 31).toUInt32).toInt32).toUInt32 >>> ((4 : Int32) &&& 31).toUInt32).toInt32)), .val (.int (3 : Int32))] [(.int ((((((p1.toUInt32 >>> ((16 : Int32) &&& 31).toUInt32).toInt32).toUInt32 >>> ((8 : Int32) &&& 31).toUInt32).toInt32).toUInt32 >>> ((4 : Int32) &&& 31).toUInt32).toInt32)), (.int (3 : Int32))])
            refine Go.of (fun _ kq => XS.iconst X.here hx rfl (hb hby d17_75) kq) ?_
            show Go p e below s _ _ T (mkF m 76 #[.val (.int ((((((p1.toUInt32 >>> ((16 : Int32) &&& 31).toUInt32).toInt32).toUInt32 >>> ((8 : Int32) &&& 31).toUInt32).toInt32).toUInt32 >>> ((4 : Int32) &&& 31).toUInt32).toInt32)), .val (.int (3 : Int32))] [(.int (1 : Int32)), (.int ((((((p1.toUInt32 >>> ((16 : Int32) &&& 31).toUInt32).toInt32).toUInt32 >>> ((8 : Int32) &&& 31).toUInt32).toInt32).toUInt32 >>> ((4 : Int32) &&& 31).toUInt32).toInt32)), (.int (3 : Int32))])
            refine Go.of (fun _ kq => XS.iushr X.here hx rfl (hb hby d17_76) rfl kq) ?_
            show Go p e below s _ _ T (mkF m 77 #[.val (.int ((((((p1.toUInt32 >>> ((16 : Int32) &&& 31).toUInt32).toInt32).toUInt32 >>> ((8 : Int32) &&& 31).toUInt32).toInt32).toUInt32 >>> ((4 : Int32) &&& 31).toUInt32).toInt32)), .val (.int (3 : Int32))] [(.int ((((((((p1.toUInt32 >>> ((16 : Int32) &&& 31).toUInt32).toInt32).toUInt32 >>> ((8 : Int32) &&& 31).toUInt32).toInt32).toUInt32 >>> ((4 : Int32) &&& 31).toUInt32).toInt32).toUInt32 >>> ((1 : Int32) &&& 31).toUInt32).toInt32)), (.int (3 : Int32))])
            refine Go.of (fun _ kq => XS.isub X.here hx rfl (hb hby d17_77) rfl kq) ?_
            show Go p e below s _ _ T (mkF m 78 #[.val (.int ((((((p1.toUInt32 >>> ((16 : Int32) &&& 31).toUInt32).toInt32).toUInt32 >>> ((8 : Int32) &&& 31).toUInt32).toInt32).toUInt32 >>> ((4 : Int32) &&& 31).toUInt32).toInt32)), .val (.int (3 : Int32))] [(.int ((3 : Int32) - ((((((((p1.toUInt32 >>> ((16 : Int32) &&& 31).toUInt32).toInt32).toUInt32 >>> ((8 : Int32) &&& 31).toUInt32).toInt32).toUInt32 >>> ((4 : Int32) &&& 31).toUInt32).toInt32).toUInt32 >>> ((1 : Int32) &&& 31).toUInt32).toInt32)))])
            refine Go.retI X hx hret hlk (hb hby d17_78) (by decide) (by decide) ?_
            try rw [eT]
            have k0 : (0 : Int32).toInt = 0 := by decide
            have hp := hc1
            rw [Int32.lt_iff_toInt_lt, k0] at hp
            have hu := p1.toInt_lt
            have t22 := hc22
            rw [Int32.lt_iff_toInt_lt, show (65536 : Int32).toInt = 65536 by decide] at t22
            have u22 : ((p1.toUInt32 >>> ((16 : Int32) &&& 31).toUInt32).toInt32).toInt = p1.toInt / 2 ^ 16 := own_iushr (by omega) (by decide) (by decide)
            have t37 := hc37
            rw [Int32.lt_iff_toInt_lt, show (256 : Int32).toInt = 256 by decide] at t37
            have u37 : ((((p1.toUInt32 >>> ((16 : Int32) &&& 31).toUInt32).toInt32).toUInt32 >>> ((8 : Int32) &&& 31).toUInt32).toInt32).toInt = ((p1.toUInt32 >>> ((16 : Int32) &&& 31).toUInt32).toInt32).toInt / 2 ^ 8 := own_iushr (by omega) (by decide) (by decide)
            have t51 := hc51
            rw [Int32.lt_iff_toInt_lt, show (16 : Int32).toInt = 16 by decide] at t51
            have u51 : ((((((p1.toUInt32 >>> ((16 : Int32) &&& 31).toUInt32).toInt32).toUInt32 >>> ((8 : Int32) &&& 31).toUInt32).toInt32).toUInt32 >>> ((4 : Int32) &&& 31).toUInt32).toInt32).toInt = ((((p1.toUInt32 >>> ((16 : Int32) &&& 31).toUInt32).toInt32).toUInt32 >>> ((8 : Int32) &&& 31).toUInt32).toInt32).toInt / 2 ^ 4 := own_iushr (by omega) (by decide) (by decide)
            have t63 := hc63
            rw [Int32.lt_iff_toInt_lt, show (4 : Int32).toInt = 4 by decide] at t63
            exact ⟨_, rfl, N, rfl, own_nlz_of (i := p1) (y := ((((((p1.toUInt32 >>> ((16 : Int32) &&& 31).toUInt32).toInt32).toUInt32 >>> ((8 : Int32) &&& 31).toUInt32).toInt32).toUInt32 >>> ((4 : Int32) &&& 31).toUInt32).toInt32)) 28 (by decide) hp (n := (3 : Int32)) (by decide) (by omega) (by omega) (by omega) rfl⟩
          · refine Go.of (fun _ kq => XS.icmpNo X.here hx rfl (hb hby d17_63) rfl (flt hc63).1 kq) ?_
            show Go p e below s _ _ T (mkF m 66 #[.val (.int ((((((p1.toUInt32 >>> ((16 : Int32) &&& 31).toUInt32).toInt32).toUInt32 >>> ((8 : Int32) &&& 31).toUInt32).toInt32).toUInt32 >>> ((4 : Int32) &&& 31).toUInt32).toInt32)), .val (.int (3 : Int32))] [])
            refine Go.of (fun _ kq => XS.iinc X.here hx rfl (hb hby d17_66) rfl (l' := #[.val (.int ((((((p1.toUInt32 >>> ((16 : Int32) &&& 31).toUInt32).toInt32).toUInt32 >>> ((8 : Int32) &&& 31).toUInt32).toInt32).toUInt32 >>> ((4 : Int32) &&& 31).toUInt32).toInt32)), .val (.int (1 : Int32))]) rfl kq) ?_
            show Go p e below s _ _ T (mkF m 69 #[.val (.int ((((((p1.toUInt32 >>> ((16 : Int32) &&& 31).toUInt32).toInt32).toUInt32 >>> ((8 : Int32) &&& 31).toUInt32).toInt32).toUInt32 >>> ((4 : Int32) &&& 31).toUInt32).toInt32)), .val (.int (1 : Int32))] [])
            refine Go.of (fun _ kq => XS.iloadN X.here hx rfl (hb hby d17_69) rfl kq) ?_
            show Go p e below s _ _ T (mkF m 70 #[.val (.int ((((((p1.toUInt32 >>> ((16 : Int32) &&& 31).toUInt32).toInt32).toUInt32 >>> ((8 : Int32) &&& 31).toUInt32).toInt32).toUInt32 >>> ((4 : Int32) &&& 31).toUInt32).toInt32)), .val (.int (1 : Int32))] [(.int ((((((p1.toUInt32 >>> ((16 : Int32) &&& 31).toUInt32).toInt32).toUInt32 >>> ((8 : Int32) &&& 31).toUInt32).toInt32).toUInt32 >>> ((4 : Int32) &&& 31).toUInt32).toInt32))])
            refine Go.of (fun _ kq => XS.iconst X.here hx rfl (hb hby d17_70) kq) ?_
            show Go p e below s _ _ T (mkF m 71 #[.val (.int ((((((p1.toUInt32 >>> ((16 : Int32) &&& 31).toUInt32).toInt32).toUInt32 >>> ((8 : Int32) &&& 31).toUInt32).toInt32).toUInt32 >>> ((4 : Int32) &&& 31).toUInt32).toInt32)), .val (.int (1 : Int32))] [(.int (2 : Int32)), (.int ((((((p1.toUInt32 >>> ((16 : Int32) &&& 31).toUInt32).toInt32).toUInt32 >>> ((8 : Int32) &&& 31).toUInt32).toInt32).toUInt32 >>> ((4 : Int32) &&& 31).toUInt32).toInt32))])
            refine Go.of (fun _ kq => XS.iushr X.here hx rfl (hb hby d17_71) rfl kq) ?_
            show Go p e below s _ _ T (mkF m 72 #[.val (.int ((((((p1.toUInt32 >>> ((16 : Int32) &&& 31).toUInt32).toInt32).toUInt32 >>> ((8 : Int32) &&& 31).toUInt32).toInt32).toUInt32 >>> ((4 : Int32) &&& 31).toUInt32).toInt32)), .val (.int (1 : Int32))] [(.int ((((((((p1.toUInt32 >>> ((16 : Int32) &&& 31).toUInt32).toInt32).toUInt32 >>> ((8 : Int32) &&& 31).toUInt32).toInt32).toUInt32 >>> ((4 : Int32) &&& 31).toUInt32).toInt32).toUInt32 >>> ((2 : Int32) &&& 31).toUInt32).toInt32))])
            refine Go.of (fun _ kq => XS.istoreN X.here hx rfl (hb hby d17_72) rfl (l' := #[.val (.int ((((((((p1.toUInt32 >>> ((16 : Int32) &&& 31).toUInt32).toInt32).toUInt32 >>> ((8 : Int32) &&& 31).toUInt32).toInt32).toUInt32 >>> ((4 : Int32) &&& 31).toUInt32).toInt32).toUInt32 >>> ((2 : Int32) &&& 31).toUInt32).toInt32)), .val (.int (1 : Int32))]) rfl kq) ?_
            show Go p e below s _ _ T (mkF m 73 #[.val (.int ((((((((p1.toUInt32 >>> ((16 : Int32) &&& 31).toUInt32).toInt32).toUInt32 >>> ((8 : Int32) &&& 31).toUInt32).toInt32).toUInt32 >>> ((4 : Int32) &&& 31).toUInt32).toInt32).toUInt32 >>> ((2 : Int32) &&& 31).toUInt32).toInt32)), .val (.int (1 : Int32))] [])
            refine Go.of (fun _ kq => XS.iloadN X.here hx rfl (hb hby d17_73) rfl kq) ?_
            show Go p e below s _ _ T (mkF m 74 #[.val (.int ((((((((p1.toUInt32 >>> ((16 : Int32) &&& 31).toUInt32).toInt32).toUInt32 >>> ((8 : Int32) &&& 31).toUInt32).toInt32).toUInt32 >>> ((4 : Int32) &&& 31).toUInt32).toInt32).toUInt32 >>> ((2 : Int32) &&& 31).toUInt32).toInt32)), .val (.int (1 : Int32))] [(.int (1 : Int32))])
            refine Go.of (fun _ kq => XS.iloadN X.here hx rfl (hb hby d17_74) rfl kq) ?_
            show Go p e below s _ _ T (mkF m 75 #[.val (.int ((((((((p1.toUInt32 >>> ((16 : Int32) &&& 31).toUInt32).toInt32).toUInt32 >>> ((8 : Int32) &&& 31).toUInt32).toInt32).toUInt32 >>> ((4 : Int32) &&& 31).toUInt32).toInt32).toUInt32 >>> ((2 : Int32) &&& 31).toUInt32).toInt32)), .val (.int (1 : Int32))] [(.int ((((((((p1.toUInt32 >>> ((16 : Int32) &&& 31).toUInt32).toInt32).toUInt32 >>> ((8 : Int32) &&& 31).toUInt32).toInt32).toUInt32 >>> ((4 : Int32) &&& 31).toUInt32).toInt32).toUInt32 >>> ((2 : Int32) &&& 31).toUInt32).toInt32)), (.int (1 : Int32))])
            refine Go.of (fun _ kq => XS.iconst X.here hx rfl (hb hby d17_75) kq) ?_
            show Go p e below s _ _ T (mkF m 76 #[.val (.int ((((((((p1.toUInt32 >>> ((16 : Int32) &&& 31).toUInt32).toInt32).toUInt32 >>> ((8 : Int32) &&& 31).toUInt32).toInt32).toUInt32 >>> ((4 : Int32) &&& 31).toUInt32).toInt32).toUInt32 >>> ((2 : Int32) &&& 31).toUInt32).toInt32)), .val (.int (1 : Int32))] [(.int (1 : Int32)), (.int ((((((((p1.toUInt32 >>> ((16 : Int32) &&& 31).toUInt32).toInt32).toUInt32 >>> ((8 : Int32) &&& 31).toUInt32).toInt32).toUInt32 >>> ((4 : Int32) &&& 31).toUInt32).toInt32).toUInt32 >>> ((2 : Int32) &&& 31).toUInt32).toInt32)), (.int (1 : Int32))])
            refine Go.of (fun _ kq => XS.iushr X.here hx rfl (hb hby d17_76) rfl kq) ?_
            show Go p e below s _ _ T (mkF m 77 #[.val (.int ((((((((p1.toUInt32 >>> ((16 : Int32) &&& 31).toUInt32).toInt32).toUInt32 >>> ((8 : Int32) &&& 31).toUInt32).toInt32).toUInt32 >>> ((4 : Int32) &&& 31).toUInt32).toInt32).toUInt32 >>> ((2 : Int32) &&& 31).toUInt32).toInt32)), .val (.int (1 : Int32))] [(.int ((((((((((p1.toUInt32 >>> ((16 : Int32) &&& 31).toUInt32).toInt32).toUInt32 >>> ((8 : Int32) &&& 31).toUInt32).toInt32).toUInt32 >>> ((4 : Int32) &&& 31).toUInt32).toInt32).toUInt32 >>> ((2 : Int32) &&& 31).toUInt32).toInt32).toUInt32 >>> ((1 : Int32) &&& 31).toUInt32).toInt32)), (.int (1 : Int32))])
            refine Go.of (fun _ kq => XS.isub X.here hx rfl (hb hby d17_77) rfl kq) ?_
            show Go p e below s _ _ T (mkF m 78 #[.val (.int ((((((((p1.toUInt32 >>> ((16 : Int32) &&& 31).toUInt32).toInt32).toUInt32 >>> ((8 : Int32) &&& 31).toUInt32).toInt32).toUInt32 >>> ((4 : Int32) &&& 31).toUInt32).toInt32).toUInt32 >>> ((2 : Int32) &&& 31).toUInt32).toInt32)), .val (.int (1 : Int32))] [(.int ((1 : Int32) - ((((((((((p1.toUInt32 >>> ((16 : Int32) &&& 31).toUInt32).toInt32).toUInt32 >>> ((8 : Int32) &&& 31).toUInt32).toInt32).toUInt32 >>> ((4 : Int32) &&& 31).toUInt32).toInt32).toUInt32 >>> ((2 : Int32) &&& 31).toUInt32).toInt32).toUInt32 >>> ((1 : Int32) &&& 31).toUInt32).toInt32)))])
            refine Go.retI X hx hret hlk (hb hby d17_78) (by decide) (by decide) ?_
            try rw [eT]
            have k0 : (0 : Int32).toInt = 0 := by decide
            have hp := hc1
            rw [Int32.lt_iff_toInt_lt, k0] at hp
            have hu := p1.toInt_lt
            have t22 := hc22
            rw [Int32.lt_iff_toInt_lt, show (65536 : Int32).toInt = 65536 by decide] at t22
            have u22 : ((p1.toUInt32 >>> ((16 : Int32) &&& 31).toUInt32).toInt32).toInt = p1.toInt / 2 ^ 16 := own_iushr (by omega) (by decide) (by decide)
            have t37 := hc37
            rw [Int32.lt_iff_toInt_lt, show (256 : Int32).toInt = 256 by decide] at t37
            have u37 : ((((p1.toUInt32 >>> ((16 : Int32) &&& 31).toUInt32).toInt32).toUInt32 >>> ((8 : Int32) &&& 31).toUInt32).toInt32).toInt = ((p1.toUInt32 >>> ((16 : Int32) &&& 31).toUInt32).toInt32).toInt / 2 ^ 8 := own_iushr (by omega) (by decide) (by decide)
            have t51 := hc51
            rw [Int32.lt_iff_toInt_lt, show (16 : Int32).toInt = 16 by decide] at t51
            have u51 : ((((((p1.toUInt32 >>> ((16 : Int32) &&& 31).toUInt32).toInt32).toUInt32 >>> ((8 : Int32) &&& 31).toUInt32).toInt32).toUInt32 >>> ((4 : Int32) &&& 31).toUInt32).toInt32).toInt = ((((p1.toUInt32 >>> ((16 : Int32) &&& 31).toUInt32).toInt32).toUInt32 >>> ((8 : Int32) &&& 31).toUInt32).toInt32).toInt / 2 ^ 4 := own_iushr (by omega) (by decide) (by decide)
            have t63 := hc63
            rw [Int32.lt_iff_toInt_lt, show (4 : Int32).toInt = 4 by decide] at t63
            have u63 : ((((((((p1.toUInt32 >>> ((16 : Int32) &&& 31).toUInt32).toInt32).toUInt32 >>> ((8 : Int32) &&& 31).toUInt32).toInt32).toUInt32 >>> ((4 : Int32) &&& 31).toUInt32).toInt32).toUInt32 >>> ((2 : Int32) &&& 31).toUInt32).toInt32).toInt = ((((((p1.toUInt32 >>> ((16 : Int32) &&& 31).toUInt32).toInt32).toUInt32 >>> ((8 : Int32) &&& 31).toUInt32).toInt32).toUInt32 >>> ((4 : Int32) &&& 31).toUInt32).toInt32).toInt / 2 ^ 2 := own_iushr (by omega) (by decide) (by decide)
            exact ⟨_, rfl, N, rfl, own_nlz_of (i := p1) (y := ((((((((p1.toUInt32 >>> ((16 : Int32) &&& 31).toUInt32).toInt32).toUInt32 >>> ((8 : Int32) &&& 31).toUInt32).toInt32).toUInt32 >>> ((4 : Int32) &&& 31).toUInt32).toInt32).toUInt32 >>> ((2 : Int32) &&& 31).toUInt32).toInt32)) 30 (by decide) hp (n := (1 : Int32)) (by decide) (by omega) (by omega) (by omega) rfl⟩
  · refine Go.of (fun _ kq => XS.ifNo X.here hx rfl (hb hby d17_1) rfl ((if0 _ _).trans (flt hc1).2.2.1) kq) ?_
    show Go p e below s _ _ T (mkF m 4 #[.val (.int p1), .unset] [])
    refine Go.of (fun _ kq => XS.iloadN X.here hx rfl (hb hby d17_4) rfl kq) ?_
    show Go p e below s _ _ T (mkF m 5 #[.val (.int p1), .unset] [(.int p1)])
    by_cases hc5 : p1 = (0 : Int32)
    · refine Go.of (fun _ kq => XS.ifNo X.here hx rfl (hb hby d17_5) rfl ((if0 _ _).trans (teq hc5).2) kq) ?_
      show Go p e below s _ _ T (mkF m 8 #[.val (.int p1), .unset] [])
      refine Go.of (fun _ kq => XS.bipush X.here hx rfl (hb hby d17_8) kq) ?_
      show Go p e below s _ _ T (mkF m 10 #[.val (.int p1), .unset] [(.int (32 : Int32))])
      refine Go.of (fun _ kq => XS.goto X.here hx rfl (pc0 := 10) (pc' := 14) rfl (hb hby d17_10) (by decide) (by decide) kq) ?_
      show Go p e below s _ _ T (mkF m 14 #[.val (.int p1), .unset] [(.int (32 : Int32))])
      refine Go.retI X hx hret hlk (hb hby d17_14) (by decide) (by decide) ?_
      try rw [eT]
      exact ⟨_, rfl, N, rfl, ⟨fun q => absurd q (by rw [hc5]; decide), fun q => absurd q (by rw [hc5]; decide)⟩⟩
    · refine Go.of (fun _ kq => XS.ifYes X.here hx rfl (pc0 := 5) (pc' := 13) rfl (hb hby d17_5) rfl ((if0 _ _).trans (feq hc5).2) (by decide) (by decide) kq) ?_
      show Go p e below s _ _ T (mkF m 13 #[.val (.int p1), .unset] [])
      refine Go.of (fun _ kq => XS.iconst X.here hx rfl (hb hby d17_13) kq) ?_
      show Go p e below s _ _ T (mkF m 14 #[.val (.int p1), .unset] [(.int (0 : Int32))])
      refine Go.retI X hx hret hlk (hb hby d17_14) (by decide) (by decide) ?_
      try rw [eT]
      exact ⟨_, rfl, N, rfl, ⟨fun q => absurd ((Int32.lt_iff_toInt_lt).mpr (by rw [show (0 : Int32).toInt = 0 by decide]; exact q)) hc1, fun _ => rfl⟩⟩
theorem d16_0 : decode jdk_35_method_48_code 0 = .ok (.lload_n 0, 1) := by decide +kernel
theorem d16_1 : decode jdk_35_method_48_code 1 = .ok (.bipush 32, 2) := by decide +kernel
theorem d16_3 : decode jdk_35_method_48_code 3 = .ok (.lushr, 1) := by decide +kernel
theorem d16_4 : decode jdk_35_method_48_code 4 = .ok (.l2i, 1) := by decide +kernel
theorem d16_5 : decode jdk_35_method_48_code 5 = .ok (.istore_n 2, 1) := by decide +kernel
theorem d16_6 : decode jdk_35_method_48_code 6 = .ok (.iload_n 2, 1) := by decide +kernel
theorem d16_7 : decode jdk_35_method_48_code 7 = .ok (.ifCond .ne 14, 3) := by decide +kernel
theorem d16_10 : decode jdk_35_method_48_code 10 = .ok (.bipush 32, 2) := by decide +kernel
theorem d16_12 : decode jdk_35_method_48_code 12 = .ok (.lload_n 0, 1) := by decide +kernel
theorem d16_13 : decode jdk_35_method_48_code 13 = .ok (.l2i, 1) := by decide +kernel
theorem d16_14 : decode jdk_35_method_48_code 14 = .ok (.invokestatic 308, 3) := by decide +kernel
theorem d16_17 : decode jdk_35_method_48_code 17 = .ok (.iadd, 1) := by decide +kernel
theorem d16_18 : decode jdk_35_method_48_code 18 = .ok (.goto 7, 3) := by decide +kernel
theorem d16_21 : decode jdk_35_method_48_code 21 = .ok (.iload_n 2, 1) := by decide +kernel
theorem d16_22 : decode jdk_35_method_48_code 22 = .ok (.invokestatic 308, 3) := by decide +kernel
theorem d16_25 : decode jdk_35_method_48_code 25 = .ok (.ireturn, 1) := by decide +kernel
theorem pn16 : plainFor (⟨"java/lang/Long", "numberOfLeadingZeros", "(J)I"⟩ : MethodName) = true := plainFor_of_name (by first | (simp [plainName, overriddenIn]; done) | decide +kernel)
theorem ef_rmNlzJ (m : MethodId) (x0 : Int64) : entryFrame m #[(.long x0)] 3 = mkF m 0 #[.val (.long x0), .second, .unset] [] := by first | (simp [entryFrame, mkF, argsToLocals, Value.category]; done) | rfl
set_option maxRecDepth 65536 in
set_option maxHeartbeats 40000000 in
theorem rmNlzJ {l : Launch} {Z : State} {a0 : Array Value} (hw : ∀ d ∈ tables_1, d.before a0 Z = true) (x : Int64) (h0 : Heap) (n0 : Nat) (hx0 : 0 < x.toInt) (hx1 : x.toInt < 34359738368) :
    Met l Z (⟨"java/lang/Long", "numberOfLeadingZeros", "(J)I"⟩ : MethodName) jdk_35_method_48_code 3 (some .int) [] ({ frames := 1, cells := 0, slots := 0, locals := 14 } : Room) #[(.long x)] h0 (fun v h L => ∃ r : Int32, v = some (.int r) ∧ Fr n0 L ∧ h = h0 ∧ own_nlzJ x r) := by
  refine Met.mk pn16 ?_
  intro p e s m below meth c T hx hby hml hown hnm hret hlk hZ X eT
  refine Go.cast (ef_rmNlzJ m x) ?_
  have N := Fr.nil n0
  show Go p e below s _ _ T (mkF m 0 #[.val (.long x), .second, .unset] [])
  refine Go.of (fun _ kq => XS.lloadN X.here hx rfl (hb hby d16_0) rfl kq) ?_
  show Go p e below s _ _ T (mkF m 1 #[.val (.long x), .second, .unset] [(.long x)])
  refine Go.of (fun _ kq => XS.bipush X.here hx rfl (hb hby d16_1) kq) ?_
  show Go p e below s _ _ T (mkF m 3 #[.val (.long x), .second, .unset] [(.int (32 : Int32)), (.long x)])
  refine Go.of (fun _ kq => XS.lushr X.here hx rfl (hb hby d16_3) rfl kq) ?_
  show Go p e below s _ _ T (mkF m 4 #[.val (.long x), .second, .unset] [(.long ((x.toUInt64 >>> ((32 : Int32) &&& 0x3f).toInt64.toUInt64).toInt64))])
  refine Go.of (fun _ kq => XS.l2i X.here hx rfl (hb hby d16_4) rfl kq) ?_
  show Go p e below s _ _ T (mkF m 5 #[.val (.long x), .second, .unset] [(.int (((x.toUInt64 >>> ((32 : Int32) &&& 0x3f).toInt64.toUInt64).toInt64).toInt32))])
  refine Go.of (fun _ kq => XS.istoreN X.here hx rfl (hb hby d16_5) rfl (l' := #[.val (.long x), .second, .val (.int (((x.toUInt64 >>> ((32 : Int32) &&& 0x3f).toInt64.toUInt64).toInt64).toInt32))]) rfl kq) ?_
  show Go p e below s _ _ T (mkF m 6 #[.val (.long x), .second, .val (.int (((x.toUInt64 >>> ((32 : Int32) &&& 0x3f).toInt64.toUInt64).toInt64).toInt32))] [])
  refine Go.of (fun _ kq => XS.iloadN X.here hx rfl (hb hby d16_6) rfl kq) ?_
  show Go p e below s _ _ T (mkF m 7 #[.val (.long x), .second, .val (.int (((x.toUInt64 >>> ((32 : Int32) &&& 0x3f).toInt64.toUInt64).toInt64).toInt32))] [(.int (((x.toUInt64 >>> ((32 : Int32) &&& 0x3f).toInt64.toUInt64).toInt64).toInt32))])
  by_cases hc7 : (((x.toUInt64 >>> ((32 : Int32) &&& 0x3f).toInt64.toUInt64).toInt64).toInt32) = (0 : Int32)
  · refine Go.of (fun _ kq => XS.ifNo X.here hx rfl (hb hby d16_7) rfl ((if0 _ _).trans (teq hc7).2) kq) ?_
    show Go p e below s _ _ T (mkF m 10 #[.val (.long x), .second, .val (.int (((x.toUInt64 >>> ((32 : Int32) &&& 0x3f).toInt64.toUInt64).toInt64).toInt32))] [])
    refine Go.of (fun _ kq => XS.bipush X.here hx rfl (hb hby d16_10) kq) ?_
    show Go p e below s _ _ T (mkF m 12 #[.val (.long x), .second, .val (.int (((x.toUInt64 >>> ((32 : Int32) &&& 0x3f).toInt64.toUInt64).toInt64).toInt32))] [(.int (32 : Int32))])
    refine Go.of (fun _ kq => XS.lloadN X.here hx rfl (hb hby d16_12) rfl kq) ?_
    show Go p e below s _ _ T (mkF m 13 #[.val (.long x), .second, .val (.int (((x.toUInt64 >>> ((32 : Int32) &&& 0x3f).toInt64.toUInt64).toInt64).toInt32))] [(.long x), (.int (32 : Int32))])
    refine Go.of (fun _ kq => XS.l2i X.here hx rfl (hb hby d16_13) rfl kq) ?_
    show Go p e below s _ _ T (mkF m 14 #[.val (.long x), .second, .val (.int (((x.toUInt64 >>> ((32 : Int32) &&& 0x3f).toInt64.toUInt64).toInt64).toInt32))] [(.int (x.toInt32)), (.int (32 : Int32))])
    refine Go.static X hx hZ hown (hw _ (List.mem_of_getElem? (i := 112) rfl)) (hw _ (List.mem_of_getElem? (i := 113) rfl)) (hw _ (List.mem_of_getElem? (i := 114) rfl)) (hw _ (List.mem_of_getElem? (i := 115) rfl)) (by decide) (rmNlz hw (x.toInt32) _ n0) eT 1 (by decide) (by decide) (by decide) (by decide) (by rw [hml]; rfl) (argsL := [(.int (x.toInt32))]) [(.int (32 : Int32))] (lenOf pd0 rfl) rfl rfl (Nat.le_of_eq rfl) (hb hby d16_14) ?_
    intro v T L' X hQ
    obtain ⟨r, rfl, N', eT, hr⟩ := hQ
    have N := Fr.app N N'
    show Go p e below s _ _ T (mkF m 17 #[.val (.long x), .second, .val (.int (((x.toUInt64 >>> ((32 : Int32) &&& 0x3f).toInt64.toUInt64).toInt64).toInt32))] [(.int r), (.int (32 : Int32))])
    refine Go.of (fun _ kq => XS.iadd X.here hx rfl (hb hby d16_17) rfl kq) ?_
    show Go p e below s _ _ T (mkF m 18 #[.val (.long x), .second, .val (.int (((x.toUInt64 >>> ((32 : Int32) &&& 0x3f).toInt64.toUInt64).toInt64).toInt32))] [(.int ((32 : Int32) + r))])
    refine Go.of (fun _ kq => XS.goto X.here hx rfl (pc0 := 18) (pc' := 25) rfl (hb hby d16_18) (by decide) (by decide) kq) ?_
    show Go p e below s _ _ T (mkF m 25 #[.val (.long x), .second, .val (.int (((x.toUInt64 >>> ((32 : Int32) &&& 0x3f).toInt64.toUInt64).toInt64).toInt32))] [(.int ((32 : Int32) + r))])
    refine Go.retI X hx hret hlk (hb hby d16_25) (by decide) (by decide) ?_
    try rw [eT]
    exact ⟨_, rfl, N, rfl, own_J0 hx0 hx1 hc7 hr⟩
  · refine Go.of (fun _ kq => XS.ifYes X.here hx rfl (pc0 := 7) (pc' := 21) rfl (hb hby d16_7) rfl ((if0 _ _).trans (feq hc7).2) (by decide) (by decide) kq) ?_
    show Go p e below s _ _ T (mkF m 21 #[.val (.long x), .second, .val (.int (((x.toUInt64 >>> ((32 : Int32) &&& 0x3f).toInt64.toUInt64).toInt64).toInt32))] [])
    refine Go.of (fun _ kq => XS.iloadN X.here hx rfl (hb hby d16_21) rfl kq) ?_
    show Go p e below s _ _ T (mkF m 22 #[.val (.long x), .second, .val (.int (((x.toUInt64 >>> ((32 : Int32) &&& 0x3f).toInt64.toUInt64).toInt64).toInt32))] [(.int (((x.toUInt64 >>> ((32 : Int32) &&& 0x3f).toInt64.toUInt64).toInt64).toInt32))])
    refine Go.static X hx hZ hown (hw _ (List.mem_of_getElem? (i := 112) rfl)) (hw _ (List.mem_of_getElem? (i := 113) rfl)) (hw _ (List.mem_of_getElem? (i := 114) rfl)) (hw _ (List.mem_of_getElem? (i := 115) rfl)) (by decide) (rmNlz hw (((x.toUInt64 >>> ((32 : Int32) &&& 0x3f).toInt64.toUInt64).toInt64).toInt32) _ n0) eT 0 (by decide) (by decide) (by decide) (by decide) (by rw [hml]; rfl) (argsL := [(.int (((x.toUInt64 >>> ((32 : Int32) &&& 0x3f).toInt64.toUInt64).toInt64).toInt32))]) [] (lenOf pd0 rfl) rfl rfl (Nat.le_of_eq rfl) (hb hby d16_22) ?_
    intro v T L' X hQ
    obtain ⟨r, rfl, N', eT, hr⟩ := hQ
    have N := Fr.app N N'
    show Go p e below s _ _ T (mkF m 25 #[.val (.long x), .second, .val (.int (((x.toUInt64 >>> ((32 : Int32) &&& 0x3f).toInt64.toUInt64).toInt64).toInt32))] [(.int r)])
    refine Go.retI X hx hret hlk (hb hby d16_25) (by decide) (by decide) ?_
    try rw [eT]
    exact ⟨_, rfl, N, rfl, own_J1 hx0 hx1 hc7 hr⟩
theorem d15_0 : decode prog_41_method_10_code 0 = .ok (.bipush 63, 2) := by decide +kernel
theorem d15_2 : decode prog_41_method_10_code 2 = .ok (.lload_n 0, 1) := by decide +kernel
theorem d15_3 : decode prog_41_method_10_code 3 = .ok (.lconst 1, 1) := by decide +kernel
theorem d15_4 : decode prog_41_method_10_code 4 = .ok (.lor, 1) := by decide +kernel
theorem d15_5 : decode prog_41_method_10_code 5 = .ok (.invokestatic 63, 3) := by decide +kernel
theorem d15_8 : decode prog_41_method_10_code 8 = .ok (.isub, 1) := by decide +kernel
theorem d15_9 : decode prog_41_method_10_code 9 = .ok (.bipush 7, 2) := by decide +kernel
theorem d15_11 : decode prog_41_method_10_code 11 = .ok (.idiv, 1) := by decide +kernel
theorem d15_12 : decode prog_41_method_10_code 12 = .ok (.iconst 1, 1) := by decide +kernel
theorem d15_13 : decode prog_41_method_10_code 13 = .ok (.iadd, 1) := by decide +kernel
theorem d15_14 : decode prog_41_method_10_code 14 = .ok (.ireturn, 1) := by decide +kernel
theorem pn15 : plainFor (⟨"org/segmentry/files/ByteWriter", "vLongLength", "(J)I"⟩ : MethodName) = true := plainFor_of_name (by first | (simp [plainName, overriddenIn]; done) | decide +kernel)
theorem ef_rmVL (m : MethodId) (x0 : Int64) : entryFrame m #[(.long x0)] 2 = mkF m 0 #[.val (.long x0), .second] [] := by first | (simp [entryFrame, mkF, argsToLocals, Value.category]; done) | rfl
set_option maxRecDepth 65536 in
set_option maxHeartbeats 40000000 in
theorem rmVL {l : Launch} {Z : State} {a0 : Array Value} (hw : ∀ d ∈ tables_1, d.before a0 Z = true) (q : Int64) (h0 : Heap) (n0 : Nat) (hv0 : 0 ≤ q.toInt) (hv1 : q.toInt < 34359738368) :
    Met l Z (⟨"org/segmentry/files/ByteWriter", "vLongLength", "(J)I"⟩ : MethodName) prog_41_method_10_code 2 (some .int) [] ({ frames := 2, cells := 0, slots := 0, locals := 29 } : Room) #[(.long q)] h0 (fun v h L => v = some (.int (own_vlen q)) ∧ Fr n0 L ∧ h = h0) := by
  refine Met.mk pn15 ?_
  intro p e s m below meth c T hx hby hml hown hnm hret hlk hZ X eT
  refine Go.cast (ef_rmVL m q) ?_
  have N := Fr.nil n0
  show Go p e below s _ _ T (mkF m 0 #[.val (.long q), .second] [])
  refine Go.of (fun _ kq => XS.bipush X.here hx rfl (hb hby d15_0) kq) ?_
  show Go p e below s _ _ T (mkF m 2 #[.val (.long q), .second] [(.int (63 : Int32))])
  refine Go.of (fun _ kq => XS.lloadN X.here hx rfl (hb hby d15_2) rfl kq) ?_
  show Go p e below s _ _ T (mkF m 3 #[.val (.long q), .second] [(.long q), (.int (63 : Int32))])
  refine Go.of (fun _ kq => XS.lconst X.here hx rfl (hb hby d15_3) kq) ?_
  show Go p e below s _ _ T (mkF m 4 #[.val (.long q), .second] [(.long (1 : Int64)), (.long q), (.int (63 : Int32))])
  refine Go.of (fun _ kq => XS.lor X.here hx rfl (hb hby d15_4) rfl kq) ?_
  show Go p e below s _ _ T (mkF m 5 #[.val (.long q), .second] [(.long (q ||| (1 : Int64))), (.int (63 : Int32))])
  refine Go.static X hx hZ hown (hw _ (List.mem_of_getElem? (i := 108) rfl)) (hw _ (List.mem_of_getElem? (i := 109) rfl)) (hw _ (List.mem_of_getElem? (i := 110) rfl)) (hw _ (List.mem_of_getElem? (i := 111) rfl)) (by decide) (rmNlzJ hw (q ||| (1 : Int64)) _ n0 (by have := own_or1 hv0 hv1; omega) (by have := own_or1 hv0 hv1; omega)) eT 1 (by decide) (by decide) (by decide) (by decide) (by rw [hml]; rfl) (argsL := [(.long (q ||| (1 : Int64)))]) [(.int (63 : Int32))] (lenOf pd1 rfl) rfl rfl (Nat.le_of_eq rfl) (hb hby d15_5) ?_
  intro v T L' X hQ
  obtain ⟨r, rfl, N', eT, hr⟩ := hQ
  have N := Fr.app N N'
  show Go p e below s _ _ T (mkF m 8 #[.val (.long q), .second] [(.int r), (.int (63 : Int32))])
  refine Go.of (fun _ kq => XS.isub X.here hx rfl (hb hby d15_8) rfl kq) ?_
  show Go p e below s _ _ T (mkF m 9 #[.val (.long q), .second] [(.int ((63 : Int32) - r))])
  refine Go.of (fun _ kq => XS.bipush X.here hx rfl (hb hby d15_9) kq) ?_
  show Go p e below s _ _ T (mkF m 11 #[.val (.long q), .second] [(.int (7 : Int32)), (.int ((63 : Int32) - r))])
  refine Go.of (fun _ kq => XS.idiv X.here hx rfl (hb hby d15_11) rfl (by decide) kq) ?_
  show Go p e below s _ _ T (mkF m 12 #[.val (.long q), .second] [(.int (((63 : Int32) - r) / (7 : Int32)))])
  refine Go.of (fun _ kq => XS.iconst X.here hx rfl (hb hby d15_12) kq) ?_
  show Go p e below s _ _ T (mkF m 13 #[.val (.long q), .second] [(.int (1 : Int32)), (.int (((63 : Int32) - r) / (7 : Int32)))])
  refine Go.of (fun _ kq => XS.iadd X.here hx rfl (hb hby d15_13) rfl kq) ?_
  show Go p e below s _ _ T (mkF m 14 #[.val (.long q), .second] [(.int ((((63 : Int32) - r) / (7 : Int32)) + (1 : Int32)))])
  refine Go.retI X hx hret hlk (hb hby d15_14) (by decide) (by decide) ?_
  try rw [eT]
  exact ⟨by rw [← own_vl hv0 hv1 hr], N, rfl⟩
theorem d14_0 : decode prog_41_method_7_code 0 = .ok (.ldc2_w 50, 3) := by decide +kernel
theorem d14_3 : decode prog_41_method_7_code 3 = .ok (.iload_n 0, 1) := by decide +kernel
theorem d14_4 : decode prog_41_method_7_code 4 = .ok (.i2l, 1) := by decide +kernel
theorem d14_5 : decode prog_41_method_7_code 5 = .ok (.lmul, 1) := by decide +kernel
theorem d14_6 : decode prog_41_method_7_code 6 = .ok (.iload_n 1, 1) := by decide +kernel
theorem d14_7 : decode prog_41_method_7_code 7 = .ok (.iconst 1, 1) := by decide +kernel
theorem d14_8 : decode prog_41_method_7_code 8 = .ok (.if_icmp .ne 7, 3) := by decide +kernel
theorem d14_11 : decode prog_41_method_7_code 11 = .ok (.iconst 1, 1) := by decide +kernel
theorem d14_12 : decode prog_41_method_7_code 12 = .ok (.goto 4, 3) := by decide +kernel
theorem d14_15 : decode prog_41_method_7_code 15 = .ok (.iconst 0, 1) := by decide +kernel
theorem d14_16 : decode prog_41_method_7_code 16 = .ok (.i2l, 1) := by decide +kernel
theorem d14_17 : decode prog_41_method_7_code 17 = .ok (.ladd, 1) := by decide +kernel
theorem d14_18 : decode prog_41_method_7_code 18 = .ok (.lreturn, 1) := by decide +kernel
theorem pn14 : plainFor (⟨"org/segmentry/files/ByteWriter", "foldGap", "(II)J"⟩ : MethodName) = true := plainFor_of_name (by first | (simp [plainName, overriddenIn]; done) | decide +kernel)
theorem ef_rmFold (m : MethodId) (x0 : Int32) (x1 : Int32) : entryFrame m #[(.int x0), (.int x1)] 2 = mkF m 0 #[.val (.int x0), .val (.int x1)] [] := by first | (simp [entryFrame, mkF, argsToLocals, Value.category]; done) | rfl
set_option maxRecDepth 65536 in
set_option maxHeartbeats 40000000 in
theorem rmFold {l : Launch} {Z : State} {a0 : Array Value} (hw : ∀ d ∈ tables_1, d.before a0 Z = true) (p1 p2 : Int32) (h0 : Heap) (n0 : Nat)  :
    Met l Z (⟨"org/segmentry/files/ByteWriter", "foldGap", "(II)J"⟩ : MethodName) prog_41_method_7_code 2 (some .long) [] ({ frames := 0, cells := 0, slots := 0, locals := 0 } : Room) #[(.int p1), (.int p2)] h0 (fun v h L => v = some (.long (own_fold p1 p2)) ∧ Fr n0 L ∧ h = h0) := by
  refine Met.mk pn14 ?_
  intro p e s m below meth c T hx hby hml hown hnm hret hlk hZ X eT
  refine Go.cast (ef_rmFold m p1 p2) ?_
  have N := Fr.nil n0
  show Go p e below s _ _ T (mkF m 0 #[.val (.int p1), .val (.int p2)] [])
  refine Go.of (X.ldc2Long hx hown (mvT hZ (hw _ (List.mem_of_getElem? (i := 104) rfl))) (g := (mkF m 0 #[.val (.int p1), .val (.int p2)] [])) rfl (hb hby d14_0)) ?_
  show Go p e below s _ _ T (mkF m 3 #[.val (.int p1), .val (.int p2)] [(.long (2 : Int64))])
  refine Go.of (fun _ kq => XS.iloadN X.here hx rfl (hb hby d14_3) rfl kq) ?_
  show Go p e below s _ _ T (mkF m 4 #[.val (.int p1), .val (.int p2)] [(.int p1), (.long (2 : Int64))])
  refine Go.of (fun _ kq => XS.i2l X.here hx rfl (hb hby d14_4) rfl kq) ?_
  show Go p e below s _ _ T (mkF m 5 #[.val (.int p1), .val (.int p2)] [(.long (p1.toInt64)), (.long (2 : Int64))])
  refine Go.of (fun _ kq => XS.lmul X.here hx rfl (hb hby d14_5) rfl kq) ?_
  show Go p e below s _ _ T (mkF m 6 #[.val (.int p1), .val (.int p2)] [(.long ((2 : Int64) * (p1.toInt64)))])
  refine Go.of (fun _ kq => XS.iloadN X.here hx rfl (hb hby d14_6) rfl kq) ?_
  show Go p e below s _ _ T (mkF m 7 #[.val (.int p1), .val (.int p2)] [(.int p2), (.long ((2 : Int64) * (p1.toInt64)))])
  refine Go.of (fun _ kq => XS.iconst X.here hx rfl (hb hby d14_7) kq) ?_
  show Go p e below s _ _ T (mkF m 8 #[.val (.int p1), .val (.int p2)] [(.int (1 : Int32)), (.int p2), (.long ((2 : Int64) * (p1.toInt64)))])
  by_cases hc8 : p2 = (1 : Int32)
  · refine Go.of (fun _ kq => XS.icmpNo X.here hx rfl (hb hby d14_8) rfl (teq hc8).2 kq) ?_
    show Go p e below s _ _ T (mkF m 11 #[.val (.int p1), .val (.int p2)] [(.long ((2 : Int64) * (p1.toInt64)))])
    refine Go.of (fun _ kq => XS.iconst X.here hx rfl (hb hby d14_11) kq) ?_
    show Go p e below s _ _ T (mkF m 12 #[.val (.int p1), .val (.int p2)] [(.int (1 : Int32)), (.long ((2 : Int64) * (p1.toInt64)))])
    refine Go.of (fun _ kq => XS.goto X.here hx rfl (pc0 := 12) (pc' := 16) rfl (hb hby d14_12) (by decide) (by decide) kq) ?_
    show Go p e below s _ _ T (mkF m 16 #[.val (.int p1), .val (.int p2)] [(.int (1 : Int32)), (.long ((2 : Int64) * (p1.toInt64)))])
    refine Go.of (fun _ kq => XS.i2l X.here hx rfl (hb hby d14_16) rfl kq) ?_
    show Go p e below s _ _ T (mkF m 17 #[.val (.int p1), .val (.int p2)] [(.long ((1 : Int32).toInt64)), (.long ((2 : Int64) * (p1.toInt64)))])
    refine Go.of (fun _ kq => XS.ladd X.here hx rfl (hb hby d14_17) rfl kq) ?_
    show Go p e below s _ _ T (mkF m 18 #[.val (.int p1), .val (.int p2)] [(.long (((2 : Int64) * (p1.toInt64)) + ((1 : Int32).toInt64)))])
    refine Go.retJ X hx hret hlk (hb hby d14_18) (by decide) (by decide) ?_
    try rw [eT]
    exact ⟨by simp [own_fold, hc8], N, rfl⟩
  · refine Go.of (fun _ kq => XS.icmpYes X.here hx rfl (pc0 := 8) (pc' := 15) rfl (hb hby d14_8) rfl (feq hc8).2 (by decide) (by decide) kq) ?_
    show Go p e below s _ _ T (mkF m 15 #[.val (.int p1), .val (.int p2)] [(.long ((2 : Int64) * (p1.toInt64)))])
    refine Go.of (fun _ kq => XS.iconst X.here hx rfl (hb hby d14_15) kq) ?_
    show Go p e below s _ _ T (mkF m 16 #[.val (.int p1), .val (.int p2)] [(.int (0 : Int32)), (.long ((2 : Int64) * (p1.toInt64)))])
    refine Go.of (fun _ kq => XS.i2l X.here hx rfl (hb hby d14_16) rfl kq) ?_
    show Go p e below s _ _ T (mkF m 17 #[.val (.int p1), .val (.int p2)] [(.long ((0 : Int32).toInt64)), (.long ((2 : Int64) * (p1.toInt64)))])
    refine Go.of (fun _ kq => XS.ladd X.here hx rfl (hb hby d14_17) rfl kq) ?_
    show Go p e below s _ _ T (mkF m 18 #[.val (.int p1), .val (.int p2)] [(.long (((2 : Int64) * (p1.toInt64)) + ((0 : Int32).toInt64)))])
    refine Go.retJ X hx hret hlk (hb hby d14_18) (by decide) (by decide) ?_
    try rw [eT]
    exact ⟨by simp [own_fold, hc8], N, rfl⟩
theorem d13_0 : decode prog_41_method_25_code 0 = .ok (.lload_n 0, 1) := by decide +kernel
theorem d13_1 : decode prog_41_method_25_code 1 = .ok (.lconst 0, 1) := by decide +kernel
theorem d13_2 : decode prog_41_method_25_code 2 = .ok (.lcmp, 1) := by decide +kernel
theorem d13_3 : decode prog_41_method_25_code 3 = .ok (.ifCond .ge 17, 3) := by decide +kernel
theorem d13_20 : decode prog_41_method_25_code 20 = .ok (.return_, 1) := by decide +kernel
theorem pn13 : plainFor (⟨"org/segmentry/files/ByteWriter", "checkNotNegative", "(J)V"⟩ : MethodName) = true := plainFor_of_name (by first | (simp [plainName, overriddenIn]; done) | decide +kernel)
theorem ef_rmCN (m : MethodId) (x0 : Int64) : entryFrame m #[(.long x0)] 2 = mkF m 0 #[.val (.long x0), .second] [] := by first | (simp [entryFrame, mkF, argsToLocals, Value.category]; done) | rfl
set_option maxRecDepth 65536 in
set_option maxHeartbeats 40000000 in
theorem rmCN {l : Launch} {Z : State} {a0 : Array Value} (hw : ∀ d ∈ tables_1, d.before a0 Z = true) (q : Int64) (h0 : Heap) (n0 : Nat) (hq : ¬ q < 0) :
    Met l Z (⟨"org/segmentry/files/ByteWriter", "checkNotNegative", "(J)V"⟩ : MethodName) prog_41_method_25_code 2 none [] ({ frames := 0, cells := 0, slots := 0, locals := 0 } : Room) #[(.long q)] h0 (fun v h L => v = none ∧ Fr n0 L ∧ h = h0) := by
  refine Met.mk pn13 ?_
  intro p e s m below meth c T hx hby hml hown hnm hret hlk hZ X eT
  refine Go.cast (ef_rmCN m q) ?_
  have N := Fr.nil n0
  show Go p e below s _ _ T (mkF m 0 #[.val (.long q), .second] [])
  refine Go.of (fun _ kq => XS.lloadN X.here hx rfl (hb hby d13_0) rfl kq) ?_
  show Go p e below s _ _ T (mkF m 1 #[.val (.long q), .second] [(.long q)])
  refine Go.of (fun _ kq => XS.lconst X.here hx rfl (hb hby d13_1) kq) ?_
  show Go p e below s _ _ T (mkF m 2 #[.val (.long q), .second] [(.long (0 : Int64)), (.long q)])
  refine Go.of (fun _ kq => XS.lcmp X.here hx rfl (hb hby d13_2) rfl kq) ?_
  show Go p e below s _ _ T (mkF m 3 #[.val (.long q), .second] [(.int (lcmpW q (0 : Int64)))])
  refine Go.of (fun _ kq => XS.ifYes X.here hx rfl (pc0 := 3) (pc' := 20) rfl (hb hby d13_3) rfl (cFlt (hq)).2 (by decide) (by decide) kq) ?_
  show Go p e below s _ _ T (mkF m 20 #[.val (.long q), .second] [])
  refine Go.retV X hx hret hlk (hb hby d13_20) (by decide) (by decide) ?_
  try rw [eT]
  exact ⟨rfl, N, rfl⟩
theorem d12_0 : decode prog_41_method_8_code 0 = .ok (.iload_n 0, 1) := by decide +kernel
theorem d12_1 : decode prog_41_method_8_code 1 = .ok (.i2l, 1) := by decide +kernel
theorem d12_2 : decode prog_41_method_8_code 2 = .ok (.invokestatic 24, 3) := by decide +kernel
theorem d12_5 : decode prog_41_method_8_code 5 = .ok (.iload_n 1, 1) := by decide +kernel
theorem d12_6 : decode prog_41_method_8_code 6 = .ok (.iconst 1, 1) := by decide +kernel
theorem d12_7 : decode prog_41_method_8_code 7 = .ok (.if_icmp .ge 17, 3) := by decide +kernel
theorem d12_24 : decode prog_41_method_8_code 24 = .ok (.return_, 1) := by decide +kernel
theorem pn12 : plainFor (⟨"org/segmentry/files/ByteWriter", "checkGapPair", "(II)V"⟩ : MethodName) = true := plainFor_of_name (by first | (simp [plainName, overriddenIn]; done) | decide +kernel)
theorem ef_rmCG (m : MethodId) (x0 : Int32) (x1 : Int32) : entryFrame m #[(.int x0), (.int x1)] 2 = mkF m 0 #[.val (.int x0), .val (.int x1)] [] := by first | (simp [entryFrame, mkF, argsToLocals, Value.category]; done) | rfl
set_option maxRecDepth 65536 in
set_option maxHeartbeats 40000000 in
theorem rmCG {l : Launch} {Z : State} {a0 : Array Value} (hw : ∀ d ∈ tables_1, d.before a0 Z = true) (p1 p2 : Int32) (h0 : Heap) (n0 : Nat) (hp1 : 0 ≤ p1.toInt) (hp2 : ¬ p2 < 1) :
    Met l Z (⟨"org/segmentry/files/ByteWriter", "checkGapPair", "(II)V"⟩ : MethodName) prog_41_method_8_code 2 none [] ({ frames := 1, cells := 0, slots := 0, locals := 13 } : Room) #[(.int p1), (.int p2)] h0 (fun v h L => v = none ∧ Fr n0 L ∧ h = h0) := by
  refine Met.mk pn12 ?_
  intro p e s m below meth c T hx hby hml hown hnm hret hlk hZ X eT
  refine Go.cast (ef_rmCG m p1 p2) ?_
  have N := Fr.nil n0
  show Go p e below s _ _ T (mkF m 0 #[.val (.int p1), .val (.int p2)] [])
  refine Go.of (fun _ kq => XS.iloadN X.here hx rfl (hb hby d12_0) rfl kq) ?_
  show Go p e below s _ _ T (mkF m 1 #[.val (.int p1), .val (.int p2)] [(.int p1)])
  refine Go.of (fun _ kq => XS.i2l X.here hx rfl (hb hby d12_1) rfl kq) ?_
  show Go p e below s _ _ T (mkF m 2 #[.val (.int p1), .val (.int p2)] [(.long (p1.toInt64))])
  refine Go.static X hx hZ hown (hw _ (List.mem_of_getElem? (i := 98) rfl)) (hw _ (List.mem_of_getElem? (i := 99) rfl)) (hw _ (List.mem_of_getElem? (i := 93) rfl)) (hw _ (List.mem_of_getElem? (i := 100) rfl)) (by decide) (rmCN hw (p1.toInt64) _ n0 (own_nn hp1)) eT 0 (by decide) (by decide) (by decide) (by decide) (by rw [hml]; rfl) (argsL := [(.long (p1.toInt64))]) [] (lenOf pd2 rfl) rfl rfl (Nat.le_of_eq rfl) (hb hby d12_2) ?_
  intro v T L' X hQ
  obtain ⟨rfl, N', eT⟩ := hQ
  have N := Fr.app N N'
  show Go p e below s _ _ T (mkF m 5 #[.val (.int p1), .val (.int p2)] [])
  refine Go.of (fun _ kq => XS.iloadN X.here hx rfl (hb hby d12_5) rfl kq) ?_
  show Go p e below s _ _ T (mkF m 6 #[.val (.int p1), .val (.int p2)] [(.int p2)])
  refine Go.of (fun _ kq => XS.iconst X.here hx rfl (hb hby d12_6) kq) ?_
  show Go p e below s _ _ T (mkF m 7 #[.val (.int p1), .val (.int p2)] [(.int (1 : Int32)), (.int p2)])
  refine Go.of (fun _ kq => XS.icmpYes X.here hx rfl (pc0 := 7) (pc' := 24) rfl (hb hby d12_7) rfl (flt (hp2)).2.1 (by decide) (by decide) kq) ?_
  show Go p e below s _ _ T (mkF m 24 #[.val (.int p1), .val (.int p2)] [])
  refine Go.retV X hx hret hlk (hb hby d12_24) (by decide) (by decide) ?_
  try rw [eT]
  exact ⟨rfl, N, rfl⟩
theorem d11_0 : decode prog_41_method_6_code 0 = .ok (.iload_n 0, 1) := by decide +kernel
theorem d11_1 : decode prog_41_method_6_code 1 = .ok (.iload_n 1, 1) := by decide +kernel
theorem d11_2 : decode prog_41_method_6_code 2 = .ok (.invokestatic 35, 3) := by decide +kernel
theorem d11_5 : decode prog_41_method_6_code 5 = .ok (.iload_n 0, 1) := by decide +kernel
theorem d11_6 : decode prog_41_method_6_code 6 = .ok (.iload_n 1, 1) := by decide +kernel
theorem d11_7 : decode prog_41_method_6_code 7 = .ok (.invokestatic 39, 3) := by decide +kernel
theorem d11_10 : decode prog_41_method_6_code 10 = .ok (.invokestatic 46, 3) := by decide +kernel
theorem d11_13 : decode prog_41_method_6_code 13 = .ok (.iload_n 1, 1) := by decide +kernel
theorem d11_14 : decode prog_41_method_6_code 14 = .ok (.iconst 1, 1) := by decide +kernel
theorem d11_15 : decode prog_41_method_6_code 15 = .ok (.if_icmp .ne 7, 3) := by decide +kernel
theorem d11_18 : decode prog_41_method_6_code 18 = .ok (.iconst 0, 1) := by decide +kernel
theorem d11_19 : decode prog_41_method_6_code 19 = .ok (.goto 8, 3) := by decide +kernel
theorem d11_22 : decode prog_41_method_6_code 22 = .ok (.iload_n 1, 1) := by decide +kernel
theorem d11_23 : decode prog_41_method_6_code 23 = .ok (.i2l, 1) := by decide +kernel
theorem d11_24 : decode prog_41_method_6_code 24 = .ok (.invokestatic 46, 3) := by decide +kernel
theorem d11_27 : decode prog_41_method_6_code 27 = .ok (.iadd, 1) := by decide +kernel
theorem d11_28 : decode prog_41_method_6_code 28 = .ok (.ireturn, 1) := by decide +kernel
theorem pn11 : plainFor (⟨"org/segmentry/files/ByteWriter", "gapPairLength", "(II)I"⟩ : MethodName) = true := plainFor_of_name (by first | (simp [plainName, overriddenIn]; done) | decide +kernel)
theorem ef_rmGap (m : MethodId) (x0 : Int32) (x1 : Int32) : entryFrame m #[(.int x0), (.int x1)] 2 = mkF m 0 #[.val (.int x0), .val (.int x1)] [] := by first | (simp [entryFrame, mkF, argsToLocals, Value.category]; done) | rfl
set_option maxRecDepth 65536 in
set_option maxHeartbeats 40000000 in
theorem rmGap {l : Launch} {Z : State} {a0 : Array Value} (hw : ∀ d ∈ tables_1, d.before a0 Z = true) (p1 p2 : Int32) (h0 : Heap) (n0 : Nat) (hp1 : 0 ≤ p1.toInt) (hp2 : ¬ p2 < 1) :
    Met l Z (⟨"org/segmentry/files/ByteWriter", "gapPairLength", "(II)I"⟩ : MethodName) prog_41_method_6_code 2 (some .int) [] ({ frames := 3, cells := 0, slots := 0, locals := 43 } : Room) #[(.int p1), (.int p2)] h0 (fun v h L => v = some (.int (own_gap p1 p2)) ∧ Fr n0 L ∧ h = h0) := by
  refine Met.mk pn11 ?_
  intro p e s m below meth c T hx hby hml hown hnm hret hlk hZ X eT
  refine Go.cast (ef_rmGap m p1 p2) ?_
  have N := Fr.nil n0
  show Go p e below s _ _ T (mkF m 0 #[.val (.int p1), .val (.int p2)] [])
  refine Go.of (fun _ kq => XS.iloadN X.here hx rfl (hb hby d11_0) rfl kq) ?_
  show Go p e below s _ _ T (mkF m 1 #[.val (.int p1), .val (.int p2)] [(.int p1)])
  refine Go.of (fun _ kq => XS.iloadN X.here hx rfl (hb hby d11_1) rfl kq) ?_
  show Go p e below s _ _ T (mkF m 2 #[.val (.int p1), .val (.int p2)] [(.int p2), (.int p1)])
  refine Go.static X hx hZ hown (hw _ (List.mem_of_getElem? (i := 95) rfl)) (hw _ (List.mem_of_getElem? (i := 96) rfl)) (hw _ (List.mem_of_getElem? (i := 93) rfl)) (hw _ (List.mem_of_getElem? (i := 97) rfl)) (by decide) (rmCG hw p1 p2 _ n0 hp1 hp2) eT 0 (by decide) (by decide) (by decide) (by decide) (by rw [hml]; rfl) (argsL := [(.int p1), (.int p2)]) [] (lenOf pd3 rfl) rfl rfl (Nat.le_of_eq rfl) (hb hby d11_2) ?_
  intro v T L' X hQ
  obtain ⟨rfl, N', eT⟩ := hQ
  have N := Fr.app N N'
  show Go p e below s _ _ T (mkF m 5 #[.val (.int p1), .val (.int p2)] [])
  refine Go.of (fun _ kq => XS.iloadN X.here hx rfl (hb hby d11_5) rfl kq) ?_
  show Go p e below s _ _ T (mkF m 6 #[.val (.int p1), .val (.int p2)] [(.int p1)])
  refine Go.of (fun _ kq => XS.iloadN X.here hx rfl (hb hby d11_6) rfl kq) ?_
  show Go p e below s _ _ T (mkF m 7 #[.val (.int p1), .val (.int p2)] [(.int p2), (.int p1)])
  refine Go.static X hx hZ hown (hw _ (List.mem_of_getElem? (i := 101) rfl)) (hw _ (List.mem_of_getElem? (i := 102) rfl)) (hw _ (List.mem_of_getElem? (i := 93) rfl)) (hw _ (List.mem_of_getElem? (i := 103) rfl)) (by decide) (rmFold hw p1 p2 _ n0) eT 0 (by decide) (by decide) (by decide) (by decide) (by rw [hml]; rfl) (argsL := [(.int p1), (.int p2)]) [] (lenOf pd4 rfl) rfl rfl (Nat.le_of_eq rfl) (hb hby d11_7) ?_
  intro v T L' X hQ
  obtain ⟨rfl, N', eT⟩ := hQ
  have N := Fr.app N N'
  show Go p e below s _ _ T (mkF m 10 #[.val (.int p1), .val (.int p2)] [(.long (own_fold p1 p2))])
  refine Go.static X hx hZ hown (hw _ (List.mem_of_getElem? (i := 105) rfl)) (hw _ (List.mem_of_getElem? (i := 106) rfl)) (hw _ (List.mem_of_getElem? (i := 93) rfl)) (hw _ (List.mem_of_getElem? (i := 107) rfl)) (by decide) (rmVL hw (own_fold p1 p2) _ n0 (own_foldR hp1 p2).1 (own_foldR hp1 p2).2) eT 0 (by decide) (by decide) (by decide) (by decide) (by rw [hml]; rfl) (argsL := [(.long (own_fold p1 p2))]) [] (lenOf pd1 rfl) rfl rfl (Nat.le_of_eq rfl) (hb hby d11_10) ?_
  intro v T L' X hQ
  obtain ⟨rfl, N', eT⟩ := hQ
  have N := Fr.app N N'
  show Go p e below s _ _ T (mkF m 13 #[.val (.int p1), .val (.int p2)] [(.int (own_vlen (own_fold p1 p2)))])
  refine Go.of (fun _ kq => XS.iloadN X.here hx rfl (hb hby d11_13) rfl kq) ?_
  show Go p e below s _ _ T (mkF m 14 #[.val (.int p1), .val (.int p2)] [(.int p2), (.int (own_vlen (own_fold p1 p2)))])
  refine Go.of (fun _ kq => XS.iconst X.here hx rfl (hb hby d11_14) kq) ?_
  show Go p e below s _ _ T (mkF m 15 #[.val (.int p1), .val (.int p2)] [(.int (1 : Int32)), (.int p2), (.int (own_vlen (own_fold p1 p2)))])
  by_cases hc15 : p2 = (1 : Int32)
  · refine Go.of (fun _ kq => XS.icmpNo X.here hx rfl (hb hby d11_15) rfl (teq hc15).2 kq) ?_
    show Go p e below s _ _ T (mkF m 18 #[.val (.int p1), .val (.int p2)] [(.int (own_vlen (own_fold p1 p2)))])
    refine Go.of (fun _ kq => XS.iconst X.here hx rfl (hb hby d11_18) kq) ?_
    show Go p e below s _ _ T (mkF m 19 #[.val (.int p1), .val (.int p2)] [(.int (0 : Int32)), (.int (own_vlen (own_fold p1 p2)))])
    refine Go.of (fun _ kq => XS.goto X.here hx rfl (pc0 := 19) (pc' := 27) rfl (hb hby d11_19) (by decide) (by decide) kq) ?_
    show Go p e below s _ _ T (mkF m 27 #[.val (.int p1), .val (.int p2)] [(.int (0 : Int32)), (.int (own_vlen (own_fold p1 p2)))])
    refine Go.of (fun _ kq => XS.iadd X.here hx rfl (hb hby d11_27) rfl kq) ?_
    show Go p e below s _ _ T (mkF m 28 #[.val (.int p1), .val (.int p2)] [(.int ((own_vlen (own_fold p1 p2)) + (0 : Int32)))])
    refine Go.retI X hx hret hlk (hb hby d11_28) (by decide) (by decide) ?_
    try rw [eT]
    exact ⟨by simp [own_gap, hc15], N, rfl⟩
  · refine Go.of (fun _ kq => XS.icmpYes X.here hx rfl (pc0 := 15) (pc' := 22) rfl (hb hby d11_15) rfl (feq hc15).2 (by decide) (by decide) kq) ?_
    show Go p e below s _ _ T (mkF m 22 #[.val (.int p1), .val (.int p2)] [(.int (own_vlen (own_fold p1 p2)))])
    refine Go.of (fun _ kq => XS.iloadN X.here hx rfl (hb hby d11_22) rfl kq) ?_
    show Go p e below s _ _ T (mkF m 23 #[.val (.int p1), .val (.int p2)] [(.int p2), (.int (own_vlen (own_fold p1 p2)))])
    refine Go.of (fun _ kq => XS.i2l X.here hx rfl (hb hby d11_23) rfl kq) ?_
    show Go p e below s _ _ T (mkF m 24 #[.val (.int p1), .val (.int p2)] [(.long (p2.toInt64)), (.int (own_vlen (own_fold p1 p2)))])
    refine Go.static X hx hZ hown (hw _ (List.mem_of_getElem? (i := 105) rfl)) (hw _ (List.mem_of_getElem? (i := 106) rfl)) (hw _ (List.mem_of_getElem? (i := 93) rfl)) (hw _ (List.mem_of_getElem? (i := 107) rfl)) (by decide) (rmVL hw (p2.toInt64) _ n0 (own_numR hp2).1 (own_numR hp2).2) eT 1 (by decide) (by decide) (by decide) (by decide) (by rw [hml]; rfl) (argsL := [(.long (p2.toInt64))]) [(.int (own_vlen (own_fold p1 p2)))] (lenOf pd1 rfl) rfl rfl (Nat.le_of_eq rfl) (hb hby d11_24) ?_
    intro v T L' X hQ
    obtain ⟨rfl, N', eT⟩ := hQ
    have N := Fr.app N N'
    show Go p e below s _ _ T (mkF m 27 #[.val (.int p1), .val (.int p2)] [(.int (own_vlen (p2.toInt64))), (.int (own_vlen (own_fold p1 p2)))])
    refine Go.of (fun _ kq => XS.iadd X.here hx rfl (hb hby d11_27) rfl kq) ?_
    show Go p e below s _ _ T (mkF m 28 #[.val (.int p1), .val (.int p2)] [(.int ((own_vlen (own_fold p1 p2)) + (own_vlen (p2.toInt64))))])
    refine Go.retI X hx hret hlk (hb hby d11_28) (by decide) (by decide) ?_
    try rw [eT]
    exact ⟨by simp [own_gap, hc15], N, rfl⟩
theorem d3_0 : decode prog_99_method_1_code 0 = .ok (.aload_n 0, 1) := by decide +kernel
theorem d3_1 : decode prog_99_method_1_code 1 = .ok (.invokespecial 1, 3) := by decide +kernel
theorem d3_4 : decode prog_99_method_1_code 4 = .ok (.aload_n 0, 1) := by decide +kernel
theorem d3_5 : decode prog_99_method_1_code 5 = .ok (.bipush 33, 2) := by decide +kernel
theorem d3_7 : decode prog_99_method_1_code 7 = .ok (.newarray .int, 2) := by decide +kernel
theorem d3_9 : decode prog_99_method_1_code 9 = .ok (.putfield 9, 3) := by decide +kernel
theorem d3_12 : decode prog_99_method_1_code 12 = .ok (.aload_n 0, 1) := by decide +kernel
theorem d3_13 : decode prog_99_method_1_code 13 = .ok (.sipush 128, 3) := by decide +kernel
theorem d3_16 : decode prog_99_method_1_code 16 = .ok (.newarray .long, 2) := by decide +kernel
theorem d3_18 : decode prog_99_method_1_code 18 = .ok (.putfield 15, 3) := by decide +kernel
theorem d3_21 : decode prog_99_method_1_code 21 = .ok (.aload_n 0, 1) := by decide +kernel
theorem d3_22 : decode prog_99_method_1_code 22 = .ok (.sipush 128, 3) := by decide +kernel
theorem d3_25 : decode prog_99_method_1_code 25 = .ok (.newarray .int, 2) := by decide +kernel
theorem d3_27 : decode prog_99_method_1_code 27 = .ok (.putfield 19, 3) := by decide +kernel
theorem d3_30 : decode prog_99_method_1_code 30 = .ok (.aload_n 0, 1) := by decide +kernel
theorem d3_31 : decode prog_99_method_1_code 31 = .ok (.sipush 128, 3) := by decide +kernel
theorem d3_34 : decode prog_99_method_1_code 34 = .ok (.newarray .int, 2) := by decide +kernel
theorem d3_36 : decode prog_99_method_1_code 36 = .ok (.putfield 22, 3) := by decide +kernel
theorem d3_39 : decode prog_99_method_1_code 39 = .ok (.return_, 1) := by decide +kernel
theorem pn3 : plainFor (⟨"org/segmentry/segment/BlockBounds", "<init>", "()V"⟩ : MethodName) = true := plainFor_of_name (by first | (simp [plainName, overriddenIn]; done) | decide +kernel)
theorem ef_rmBB (m : MethodId) (x0 : Addr) : entryFrame m #[(.ref x0)] 1 = mkF m 0 #[.val (.ref x0)] [] := by first | (simp [entryFrame, mkF, argsToLocals, Value.category]; done) | rfl
set_option maxRecDepth 65536 in
set_option maxHeartbeats 40000000 in
theorem rmBB {l : Launch} {Z : State} {a0 : Array Value} (hw : ∀ d ∈ tables_1, d.before a0 Z = true) (a : Addr) (h0 : Heap) (n0 : Nat) (Z0 : n0 ≤ h0.size) (g_a : n0 ≤ a) (E_a : Exa Z h0 a "org/segmentry/segment/BlockBounds") (F_m_shortest_a : Fld Z h0 a "org/segmentry/segment/BlockBounds" "m_shortest" "[I" .null) (F_m_sorted_a : Fld Z h0 a "org/segmentry/segment/BlockBounds" "m_sorted" "[J" .null) (F_m_frequencies_a : Fld Z h0 a "org/segmentry/segment/BlockBounds" "m_frequencies" "[I" .null) (F_m_lengths_a : Fld Z h0 a "org/segmentry/segment/BlockBounds" "m_lengths" "[I" .null) :
    Met l Z (⟨"org/segmentry/segment/BlockBounds", "<init>", "()V"⟩ : MethodName) prog_99_method_1_code 1 none [] ({ frames := 1, cells := 4, slots := 417, locals := 12 } : Room) #[(.ref a)] h0 (fun v h L => v = none ∧ Fr n0 L ∧ Keep h0 h [a]) := by
  refine Met.mk pn3 ?_
  intro p e s m below meth c T hx hby hml hown hnm hret hlk hZ X eT
  refine Go.cast (ef_rmBB m a) ?_
  have N := Fr.nil n0
  have K := Keep.refl h0 [a]
  show Go p e below s _ _ T (mkF m 0 #[.val (.ref a)] [])
  refine Go.of (fun _ kq => XS.aloadN X.here hx rfl (hb hby d3_0) rfl rfl kq) ?_
  show Go p e below s _ _ T (mkF m 1 #[.val (.ref a)] [(.ref a)])
  refine Go.initO X hx hZ hown (hw _ (List.mem_of_getElem? (i := 26) rfl)) (hw _ (List.mem_of_getElem? (i := 7) rfl)) (hw _ (List.mem_of_getElem? (i := 8) rfl)) eT (by rw [hml]; rfl) (hb hby d3_1) (by decide) 0 (Nat.le_of_eq rfl) (by decide) ?_
  intro T X eT
  show Go p e below s _ _ T (mkF m 4 #[.val (.ref a)] [])
  refine Go.of (fun _ kq => XS.aloadN X.here hx rfl (hb hby d3_4) rfl rfl kq) ?_
  show Go p e below s _ _ T (mkF m 5 #[.val (.ref a)] [(.ref a)])
  refine Go.of (fun _ kq => XS.bipush X.here hx rfl (hb hby d3_5) kq) ?_
  show Go p e below s _ _ T (mkF m 7 #[.val (.ref a)] [(.int (33 : Int32)), (.ref a)])
  refine Go.newP X hx hZ (hw _ (List.mem_of_getElem? (i := 9) rfl)) eT (hb hby d3_7) (by decide) 33 (by decide) (by decide) (by decide) (by decide) ?_
  intro T h b7 X eT E ha V_b7
  have ne_a_b7 : a ≠ b7 := by rw [ha]; exact Nat.ne_of_lt E_a.lt
  have z_b7 : h0.size ≤ b7 := by rw [ha]; exact K.1
  have g_b7 : n0 ≤ b7 := Nat.le_trans Z0 z_b7
  have K := K.ext E
  have E_a := E_a.ext E
  have F_m_shortest_a := F_m_shortest_a.ext E
  have F_m_sorted_a := F_m_sorted_a.ext E
  have F_m_frequencies_a := F_m_frequencies_a.ext E
  have F_m_lengths_a := F_m_lengths_a.ext E
  have V_b7 : AV Z h b7 .int 33 (fun _ => .int 0) := V_b7
  show Go p e below s _ _ T (mkF m 9 #[.val (.ref a)] [(.ref b7), (.ref a)])
  refine Go.putF X hx hZ hown (hw _ (List.mem_of_getElem? (i := 27) rfl)) Via.refl eT F_m_shortest_a E_a (Or.inr ⟨(hw _ (List.mem_of_getElem? (i := 28) rfl)), rfl, hnm⟩) (hw _ (List.mem_of_getElem? (i := 21) rfl)) (ty := (.array .int)) (by decide) rfl rfl (hb hby d3_9) ?_
  intro T h X eT wr
  have N := Fr.snoc X N g_a
  have K := K.wr wr (Or.inl (List.mem_of_getElem? (i := 0) rfl))
  have E_a := E_a.wr wr
  have F_m_shortest_a := F_m_shortest_a.same wr
  have F_m_sorted_a := F_m_sorted_a.other wr (Or.inr (slot_ne (Or.inr (hw _ (List.mem_of_getElem? (i := 31) rfl))) (Or.inr (hw _ (List.mem_of_getElem? (i := 28) rfl))) (by decide) (t := (.array .long)) (t' := (.array .int)) (by decide) (by decide)))
  have F_m_frequencies_a := F_m_frequencies_a.other wr (Or.inr (slot_ne (Or.inr (hw _ (List.mem_of_getElem? (i := 33) rfl))) (Or.inr (hw _ (List.mem_of_getElem? (i := 28) rfl))) (by decide) (t := (.array .int)) (t' := (.array .int)) (by decide) (by decide)))
  have F_m_lengths_a := F_m_lengths_a.other wr (Or.inr (slot_ne (Or.inr (hw _ (List.mem_of_getElem? (i := 35) rfl))) (Or.inr (hw _ (List.mem_of_getElem? (i := 28) rfl))) (by decide) (t := (.array .int)) (t' := (.array .int)) (by decide) (by decide)))
  have V_b7 := V_b7.other wr (Ne.symm ne_a_b7)
  show Go p e below s _ _ T (mkF m 12 #[.val (.ref a)] [])
  refine Go.of (fun _ kq => XS.aloadN X.here hx rfl (hb hby d3_12) rfl rfl kq) ?_
  show Go p e below s _ _ T (mkF m 13 #[.val (.ref a)] [(.ref a)])
  refine Go.of (fun _ kq => XS.sipush X.here hx rfl (hb hby d3_13) kq) ?_
  show Go p e below s _ _ T (mkF m 16 #[.val (.ref a)] [(.int (128 : Int32)), (.ref a)])
  refine Go.newP X hx hZ (hw _ (List.mem_of_getElem? (i := 29) rfl)) eT (hb hby d3_16) (by decide) 128 (by decide) (by decide) (by decide) (by decide) ?_
  intro T h b16 X eT E ha V_b16
  have ne_a_b16 : a ≠ b16 := by rw [ha]; exact Nat.ne_of_lt E_a.lt
  have z_b16 : h0.size ≤ b16 := by rw [ha]; exact K.1
  have g_b16 : n0 ≤ b16 := Nat.le_trans Z0 z_b16
  have K := K.ext E
  have E_a := E_a.ext E
  have F_m_sorted_a := F_m_sorted_a.ext E
  have F_m_frequencies_a := F_m_frequencies_a.ext E
  have F_m_lengths_a := F_m_lengths_a.ext E
  have V_b16 : AV Z h b16 .long 128 (fun _ => .long 0) := V_b16
  show Go p e below s _ _ T (mkF m 18 #[.val (.ref a)] [(.ref b16), (.ref a)])
  refine Go.putF X hx hZ hown (hw _ (List.mem_of_getElem? (i := 30) rfl)) Via.refl eT F_m_sorted_a E_a (Or.inr ⟨(hw _ (List.mem_of_getElem? (i := 31) rfl)), rfl, hnm⟩) (hw _ (List.mem_of_getElem? (i := 21) rfl)) (ty := (.array .long)) (by decide) rfl rfl (hb hby d3_18) ?_
  intro T h X eT wr
  have N := Fr.snoc X N g_a
  have K := K.wr wr (Or.inl (List.mem_of_getElem? (i := 0) rfl))
  have E_a := E_a.wr wr
  have F_m_sorted_a := F_m_sorted_a.same wr
  have F_m_frequencies_a := F_m_frequencies_a.other wr (Or.inr (slot_ne (Or.inr (hw _ (List.mem_of_getElem? (i := 33) rfl))) (Or.inr (hw _ (List.mem_of_getElem? (i := 31) rfl))) (by decide) (t := (.array .int)) (t' := (.array .long)) (by decide) (by decide)))
  have F_m_lengths_a := F_m_lengths_a.other wr (Or.inr (slot_ne (Or.inr (hw _ (List.mem_of_getElem? (i := 35) rfl))) (Or.inr (hw _ (List.mem_of_getElem? (i := 31) rfl))) (by decide) (t := (.array .int)) (t' := (.array .long)) (by decide) (by decide)))
  have V_b16 := V_b16.other wr (Ne.symm ne_a_b16)
  show Go p e below s _ _ T (mkF m 21 #[.val (.ref a)] [])
  refine Go.of (fun _ kq => XS.aloadN X.here hx rfl (hb hby d3_21) rfl rfl kq) ?_
  show Go p e below s _ _ T (mkF m 22 #[.val (.ref a)] [(.ref a)])
  refine Go.of (fun _ kq => XS.sipush X.here hx rfl (hb hby d3_22) kq) ?_
  show Go p e below s _ _ T (mkF m 25 #[.val (.ref a)] [(.int (128 : Int32)), (.ref a)])
  refine Go.newP X hx hZ (hw _ (List.mem_of_getElem? (i := 9) rfl)) eT (hb hby d3_25) (by decide) 128 (by decide) (by decide) (by decide) (by decide) ?_
  intro T h b25 X eT E ha V_b25
  have ne_a_b25 : a ≠ b25 := by rw [ha]; exact Nat.ne_of_lt E_a.lt
  have z_b25 : h0.size ≤ b25 := by rw [ha]; exact K.1
  have g_b25 : n0 ≤ b25 := Nat.le_trans Z0 z_b25
  have K := K.ext E
  have E_a := E_a.ext E
  have F_m_frequencies_a := F_m_frequencies_a.ext E
  have F_m_lengths_a := F_m_lengths_a.ext E
  have V_b25 : AV Z h b25 .int 128 (fun _ => .int 0) := V_b25
  show Go p e below s _ _ T (mkF m 27 #[.val (.ref a)] [(.ref b25), (.ref a)])
  refine Go.putF X hx hZ hown (hw _ (List.mem_of_getElem? (i := 32) rfl)) Via.refl eT F_m_frequencies_a E_a (Or.inr ⟨(hw _ (List.mem_of_getElem? (i := 33) rfl)), rfl, hnm⟩) (hw _ (List.mem_of_getElem? (i := 21) rfl)) (ty := (.array .int)) (by decide) rfl rfl (hb hby d3_27) ?_
  intro T h X eT wr
  have N := Fr.snoc X N g_a
  have K := K.wr wr (Or.inl (List.mem_of_getElem? (i := 0) rfl))
  have E_a := E_a.wr wr
  have F_m_frequencies_a := F_m_frequencies_a.same wr
  have F_m_lengths_a := F_m_lengths_a.other wr (Or.inr (slot_ne (Or.inr (hw _ (List.mem_of_getElem? (i := 35) rfl))) (Or.inr (hw _ (List.mem_of_getElem? (i := 33) rfl))) (by decide) (t := (.array .int)) (t' := (.array .int)) (by decide) (by decide)))
  have V_b25 := V_b25.other wr (Ne.symm ne_a_b25)
  show Go p e below s _ _ T (mkF m 30 #[.val (.ref a)] [])
  refine Go.of (fun _ kq => XS.aloadN X.here hx rfl (hb hby d3_30) rfl rfl kq) ?_
  show Go p e below s _ _ T (mkF m 31 #[.val (.ref a)] [(.ref a)])
  refine Go.of (fun _ kq => XS.sipush X.here hx rfl (hb hby d3_31) kq) ?_
  show Go p e below s _ _ T (mkF m 34 #[.val (.ref a)] [(.int (128 : Int32)), (.ref a)])
  refine Go.newP X hx hZ (hw _ (List.mem_of_getElem? (i := 9) rfl)) eT (hb hby d3_34) (by decide) 128 (by decide) (by decide) (by decide) (by decide) ?_
  intro T h b34 X eT E ha V_b34
  have ne_a_b34 : a ≠ b34 := by rw [ha]; exact Nat.ne_of_lt E_a.lt
  have z_b34 : h0.size ≤ b34 := by rw [ha]; exact K.1
  have g_b34 : n0 ≤ b34 := Nat.le_trans Z0 z_b34
  have K := K.ext E
  have E_a := E_a.ext E
  have F_m_lengths_a := F_m_lengths_a.ext E
  have V_b34 : AV Z h b34 .int 128 (fun _ => .int 0) := V_b34
  show Go p e below s _ _ T (mkF m 36 #[.val (.ref a)] [(.ref b34), (.ref a)])
  refine Go.putF X hx hZ hown (hw _ (List.mem_of_getElem? (i := 34) rfl)) Via.refl eT F_m_lengths_a E_a (Or.inr ⟨(hw _ (List.mem_of_getElem? (i := 35) rfl)), rfl, hnm⟩) (hw _ (List.mem_of_getElem? (i := 21) rfl)) (ty := (.array .int)) (by decide) rfl rfl (hb hby d3_36) ?_
  intro T h X eT wr
  have N := Fr.snoc X N g_a
  have K := K.wr wr (Or.inl (List.mem_of_getElem? (i := 0) rfl))
  have E_a := E_a.wr wr
  have F_m_lengths_a := F_m_lengths_a.same wr
  have V_b34 := V_b34.other wr (Ne.symm ne_a_b34)
  show Go p e below s _ _ T (mkF m 39 #[.val (.ref a)] [])
  refine Go.retV X hx hret hlk (hb hby d3_39) (by decide) (by decide) ?_
  try rw [eT]
  exact ⟨rfl, N, K⟩
theorem d1_0 : decode prog_162_method_1_code 0 = .ok (.aload_n 0, 1) := by decide +kernel
theorem d1_1 : decode prog_162_method_1_code 1 = .ok (.invokespecial 3, 3) := by decide +kernel
theorem d1_4 : decode prog_162_method_1_code 4 = .ok (.aload_n 0, 1) := by decide +kernel
theorem d1_5 : decode prog_162_method_1_code 5 = .ok (.sipush 128, 3) := by decide +kernel
theorem d1_8 : decode prog_162_method_1_code 8 = .ok (.newarray .int, 2) := by decide +kernel
theorem d1_10 : decode prog_162_method_1_code 10 = .ok (.putfield 11, 3) := by decide +kernel
theorem d1_13 : decode prog_162_method_1_code 13 = .ok (.aload_n 0, 1) := by decide +kernel
theorem d1_14 : decode prog_162_method_1_code 14 = .ok (.sipush 128, 3) := by decide +kernel
theorem d1_17 : decode prog_162_method_1_code 17 = .ok (.newarray .int, 2) := by decide +kernel
theorem d1_19 : decode prog_162_method_1_code 19 = .ok (.putfield 17, 3) := by decide +kernel
theorem d1_22 : decode prog_162_method_1_code 22 = .ok (.aload_n 0, 1) := by decide +kernel
theorem d1_23 : decode prog_162_method_1_code 23 = .ok (.sipush 128, 3) := by decide +kernel
theorem d1_26 : decode prog_162_method_1_code 26 = .ok (.newarray .int, 2) := by decide +kernel
theorem d1_28 : decode prog_162_method_1_code 28 = .ok (.putfield 20, 3) := by decide +kernel
theorem d1_31 : decode prog_162_method_1_code 31 = .ok (.aload_n 0, 1) := by decide +kernel
theorem d1_32 : decode prog_162_method_1_code 32 = .ok (.bipush 8, 2) := by decide +kernel
theorem d1_34 : decode prog_162_method_1_code 34 = .ok (.newarray .int, 2) := by decide +kernel
theorem d1_36 : decode prog_162_method_1_code 36 = .ok (.putfield 25, 3) := by decide +kernel
theorem d1_39 : decode prog_162_method_1_code 39 = .ok (.aload_n 0, 1) := by decide +kernel
theorem d1_40 : decode prog_162_method_1_code 40 = .ok (.bipush 8, 2) := by decide +kernel
theorem d1_42 : decode prog_162_method_1_code 42 = .ok (.newarray .int, 2) := by decide +kernel
theorem d1_44 : decode prog_162_method_1_code 44 = .ok (.putfield 28, 3) := by decide +kernel
theorem d1_47 : decode prog_162_method_1_code 47 = .ok (.aload_n 0, 1) := by decide +kernel
theorem d1_48 : decode prog_162_method_1_code 48 = .ok (.new 23, 3) := by decide +kernel
theorem d1_51 : decode prog_162_method_1_code 51 = .ok (.dup, 1) := by decide +kernel
theorem d1_52 : decode prog_162_method_1_code 52 = .ok (.invokespecial 31, 3) := by decide +kernel
theorem d1_55 : decode prog_162_method_1_code 55 = .ok (.putfield 32, 3) := by decide +kernel
theorem d1_58 : decode prog_162_method_1_code 58 = .ok (.return_, 1) := by decide +kernel
theorem pn1 : plainFor (⟨"org/segmentry/segment/TermBlocks", "<init>", "()V"⟩ : MethodName) = true := plainFor_of_name (by first | (simp [plainName, overriddenIn]; done) | decide +kernel)
theorem ef_rmNew (m : MethodId) (x0 : Addr) : entryFrame m #[(.ref x0)] 1 = mkF m 0 #[.val (.ref x0)] [] := by first | (simp [entryFrame, mkF, argsToLocals, Value.category]; done) | rfl
set_option maxRecDepth 65536 in
set_option maxHeartbeats 40000000 in
theorem rmNew {l : Launch} {Z : State} {a0 : Array Value} (hw : ∀ d ∈ tables_1, d.before a0 Z = true) (a : Addr) (h0 : Heap) (n0 : Nat) (Z0 : n0 ≤ h0.size) (g_a : n0 ≤ a) (E_a : Exa Z h0 a "org/segmentry/segment/TermBlocks") (F_m_documents_a : Fld Z h0 a "org/segmentry/segment/TermBlocks" "m_documents" "[I" .null) (F_m_frequencies_a : Fld Z h0 a "org/segmentry/segment/TermBlocks" "m_frequencies" "[I" .null) (F_m_lengths_a : Fld Z h0 a "org/segmentry/segment/TermBlocks" "m_lengths" "[I" .null) (F_m_count_a : Fld Z h0 a "org/segmentry/segment/TermBlocks" "m_count" "I" (.int (0 : Int32))) (F_m_blocked_a : Fld Z h0 a "org/segmentry/segment/TermBlocks" "m_blocked" "Z" (.int (0 : Int32))) (F_m_last_a : Fld Z h0 a "org/segmentry/segment/TermBlocks" "m_last" "I" (.int (0 : Int32))) (F_m_base_a : Fld Z h0 a "org/segmentry/segment/TermBlocks" "m_base" "I" (.int (0 : Int32))) (F_m_keepsEntry_a : Fld Z h0 a "org/segmentry/segment/TermBlocks" "m_keepsEntry" "Z" (.int (0 : Int32))) (F_m_entry_a : Fld Z h0 a "org/segmentry/segment/TermBlocks" "m_entry" "J" (.long (0 : Int64))) (F_m_entryBefore_a : Fld Z h0 a "org/segmentry/segment/TermBlocks" "m_entryBefore" "J" (.long (0 : Int64))) (F_m_pairFrequencies_a : Fld Z h0 a "org/segmentry/segment/TermBlocks" "m_pairFrequencies" "[I" .null) (F_m_pairLengths_a : Fld Z h0 a "org/segmentry/segment/TermBlocks" "m_pairLengths" "[I" .null) (F_m_bounds_a : Fld Z h0 a "org/segmentry/segment/TermBlocks" "m_bounds" "Lorg/segmentry/segment/BlockBounds;" .null) :
    Met l Z (⟨"org/segmentry/segment/TermBlocks", "<init>", "()V"⟩ : MethodName) prog_162_method_1_code 1 none [] ({ frames := 2, cells := 10, slots := 821, locals := 26 } : Room) #[(.ref a)] h0 (fun v h L => v = none ∧ Fr n0 L ∧ Keep h0 h [a] ∧ ∃ d f g : Addr, h0.size ≤ d ∧ h0.size ≤ f ∧ h0.size ≤ g ∧ a ≠ d ∧ a ≠ f ∧ a ≠ g ∧ d ≠ f ∧ d ≠ g ∧ f ≠ g ∧ TB Z h a d f g) := by
  refine Met.mk pn1 ?_
  intro p e s m below meth c T hx hby hml hown hnm hret hlk hZ X eT
  refine Go.cast (ef_rmNew m a) ?_
  have N := Fr.nil n0
  have K := Keep.refl h0 [a]
  show Go p e below s _ _ T (mkF m 0 #[.val (.ref a)] [])
  refine Go.of (fun _ kq => XS.aloadN X.here hx rfl (hb hby d1_0) rfl rfl kq) ?_
  show Go p e below s _ _ T (mkF m 1 #[.val (.ref a)] [(.ref a)])
  refine Go.initO X hx hZ hown (hw _ (List.mem_of_getElem? (i := 6) rfl)) (hw _ (List.mem_of_getElem? (i := 7) rfl)) (hw _ (List.mem_of_getElem? (i := 8) rfl)) eT (by rw [hml]; rfl) (hb hby d1_1) (by decide) 0 (Nat.le_of_eq rfl) (by decide) ?_
  intro T X eT
  show Go p e below s _ _ T (mkF m 4 #[.val (.ref a)] [])
  refine Go.of (fun _ kq => XS.aloadN X.here hx rfl (hb hby d1_4) rfl rfl kq) ?_
  show Go p e below s _ _ T (mkF m 5 #[.val (.ref a)] [(.ref a)])
  refine Go.of (fun _ kq => XS.sipush X.here hx rfl (hb hby d1_5) kq) ?_
  show Go p e below s _ _ T (mkF m 8 #[.val (.ref a)] [(.int (128 : Int32)), (.ref a)])
  refine Go.newP X hx hZ (hw _ (List.mem_of_getElem? (i := 9) rfl)) eT (hb hby d1_8) (by decide) 128 (by decide) (by decide) (by decide) (by decide) ?_
  intro T h b8 X eT E ha V_b8
  have ne_a_b8 : a ≠ b8 := by rw [ha]; exact Nat.ne_of_lt E_a.lt
  have z_b8 : h0.size ≤ b8 := by rw [ha]; exact K.1
  have g_b8 : n0 ≤ b8 := Nat.le_trans Z0 z_b8
  have K := K.ext E
  have E_a := E_a.ext E
  have F_m_documents_a := F_m_documents_a.ext E
  have F_m_frequencies_a := F_m_frequencies_a.ext E
  have F_m_lengths_a := F_m_lengths_a.ext E
  have F_m_count_a := F_m_count_a.ext E
  have F_m_blocked_a := F_m_blocked_a.ext E
  have F_m_last_a := F_m_last_a.ext E
  have F_m_base_a := F_m_base_a.ext E
  have F_m_keepsEntry_a := F_m_keepsEntry_a.ext E
  have F_m_entry_a := F_m_entry_a.ext E
  have F_m_entryBefore_a := F_m_entryBefore_a.ext E
  have F_m_pairFrequencies_a := F_m_pairFrequencies_a.ext E
  have F_m_pairLengths_a := F_m_pairLengths_a.ext E
  have F_m_bounds_a := F_m_bounds_a.ext E
  have V_b8 : AV Z h b8 .int 128 (fun _ => .int 0) := V_b8
  show Go p e below s _ _ T (mkF m 10 #[.val (.ref a)] [(.ref b8), (.ref a)])
  refine Go.putF X hx hZ hown (hw _ (List.mem_of_getElem? (i := 10) rfl)) Via.refl eT F_m_documents_a E_a (Or.inr ⟨(hw _ (List.mem_of_getElem? (i := 11) rfl)), rfl, hnm⟩) (hw _ (List.mem_of_getElem? (i := 1) rfl)) (ty := (.array .int)) (by decide) rfl rfl (hb hby d1_10) ?_
  intro T h X eT wr
  have N := Fr.snoc X N g_a
  have K := K.wr wr (Or.inl (List.mem_of_getElem? (i := 0) rfl))
  have E_a := E_a.wr wr
  have F_m_documents_a := F_m_documents_a.same wr
  have F_m_frequencies_a := F_m_frequencies_a.other wr (Or.inr (slot_ne (Or.inr (hw _ (List.mem_of_getElem? (i := 13) rfl))) (Or.inr (hw _ (List.mem_of_getElem? (i := 11) rfl))) (by decide) (t := (.array .int)) (t' := (.array .int)) (by decide) (by decide)))
  have F_m_lengths_a := F_m_lengths_a.other wr (Or.inr (slot_ne (Or.inr (hw _ (List.mem_of_getElem? (i := 15) rfl))) (Or.inr (hw _ (List.mem_of_getElem? (i := 11) rfl))) (by decide) (t := (.array .int)) (t' := (.array .int)) (by decide) (by decide)))
  have F_m_count_a := F_m_count_a.other wr (Or.inr (slot_ne (Or.inl (hw _ (List.mem_of_getElem? (i := 44) rfl))) (Or.inr (hw _ (List.mem_of_getElem? (i := 11) rfl))) (by decide) (t := .int) (t' := (.array .int)) (by decide) (by decide)))
  have F_m_blocked_a := F_m_blocked_a.other wr (Or.inr (slot_ne (Or.inl (hw _ (List.mem_of_getElem? (i := 46) rfl))) (Or.inr (hw _ (List.mem_of_getElem? (i := 11) rfl))) (by decide) (t := .boolean) (t' := (.array .int)) (by decide) (by decide)))
  have F_m_last_a := F_m_last_a.other wr (Or.inr (slot_ne (Or.inl (hw _ (List.mem_of_getElem? (i := 48) rfl))) (Or.inr (hw _ (List.mem_of_getElem? (i := 11) rfl))) (by decide) (t := .int) (t' := (.array .int)) (by decide) (by decide)))
  have F_m_base_a := F_m_base_a.other wr (Or.inr (slot_ne (Or.inl (hw _ (List.mem_of_getElem? (i := 50) rfl))) (Or.inr (hw _ (List.mem_of_getElem? (i := 11) rfl))) (by decide) (t := .int) (t' := (.array .int)) (by decide) (by decide)))
  have F_m_keepsEntry_a := F_m_keepsEntry_a.other wr (Or.inr (slot_ne (Or.inl (hw _ (List.mem_of_getElem? (i := 52) rfl))) (Or.inr (hw _ (List.mem_of_getElem? (i := 11) rfl))) (by decide) (t := .boolean) (t' := (.array .int)) (by decide) (by decide)))
  have F_m_entry_a := F_m_entry_a.other wr (Or.inr (slot_ne (Or.inl (hw _ (List.mem_of_getElem? (i := 55) rfl))) (Or.inr (hw _ (List.mem_of_getElem? (i := 11) rfl))) (by decide) (t := .long) (t' := (.array .int)) (by decide) (by decide)))
  have F_m_entryBefore_a := F_m_entryBefore_a.other wr (Or.inr (slot_ne (Or.inl (hw _ (List.mem_of_getElem? (i := 57) rfl))) (Or.inr (hw _ (List.mem_of_getElem? (i := 11) rfl))) (by decide) (t := .long) (t' := (.array .int)) (by decide) (by decide)))
  have F_m_pairFrequencies_a := F_m_pairFrequencies_a.other wr (Or.inr (slot_ne (Or.inr (hw _ (List.mem_of_getElem? (i := 17) rfl))) (Or.inr (hw _ (List.mem_of_getElem? (i := 11) rfl))) (by decide) (t := (.array .int)) (t' := (.array .int)) (by decide) (by decide)))
  have F_m_pairLengths_a := F_m_pairLengths_a.other wr (Or.inr (slot_ne (Or.inr (hw _ (List.mem_of_getElem? (i := 19) rfl))) (Or.inr (hw _ (List.mem_of_getElem? (i := 11) rfl))) (by decide) (t := (.array .int)) (t' := (.array .int)) (by decide) (by decide)))
  have F_m_bounds_a := F_m_bounds_a.other wr (Or.inr (slot_ne (Or.inr (hw _ (List.mem_of_getElem? (i := 37) rfl))) (Or.inr (hw _ (List.mem_of_getElem? (i := 11) rfl))) (by decide) (t := (.object "org/segmentry/segment/BlockBounds")) (t' := (.array .int)) (by decide) (by decide)))
  have V_b8 := V_b8.other wr (Ne.symm ne_a_b8)
  show Go p e below s _ _ T (mkF m 13 #[.val (.ref a)] [])
  refine Go.of (fun _ kq => XS.aloadN X.here hx rfl (hb hby d1_13) rfl rfl kq) ?_
  show Go p e below s _ _ T (mkF m 14 #[.val (.ref a)] [(.ref a)])
  refine Go.of (fun _ kq => XS.sipush X.here hx rfl (hb hby d1_14) kq) ?_
  show Go p e below s _ _ T (mkF m 17 #[.val (.ref a)] [(.int (128 : Int32)), (.ref a)])
  refine Go.newP X hx hZ (hw _ (List.mem_of_getElem? (i := 9) rfl)) eT (hb hby d1_17) (by decide) 128 (by decide) (by decide) (by decide) (by decide) ?_
  intro T h b17 X eT E ha V_b17
  have ne_a_b17 : a ≠ b17 := by rw [ha]; exact Nat.ne_of_lt E_a.lt
  have ne_b8_b17 : b8 ≠ b17 := by rw [ha]; exact Nat.ne_of_lt V_b8.lt
  have z_b17 : h0.size ≤ b17 := by rw [ha]; exact K.1
  have g_b17 : n0 ≤ b17 := Nat.le_trans Z0 z_b17
  have K := K.ext E
  have E_a := E_a.ext E
  have F_m_documents_a := F_m_documents_a.ext E
  have F_m_frequencies_a := F_m_frequencies_a.ext E
  have F_m_lengths_a := F_m_lengths_a.ext E
  have F_m_count_a := F_m_count_a.ext E
  have F_m_blocked_a := F_m_blocked_a.ext E
  have F_m_last_a := F_m_last_a.ext E
  have F_m_base_a := F_m_base_a.ext E
  have F_m_keepsEntry_a := F_m_keepsEntry_a.ext E
  have F_m_entry_a := F_m_entry_a.ext E
  have F_m_entryBefore_a := F_m_entryBefore_a.ext E
  have F_m_pairFrequencies_a := F_m_pairFrequencies_a.ext E
  have F_m_pairLengths_a := F_m_pairLengths_a.ext E
  have F_m_bounds_a := F_m_bounds_a.ext E
  have V_b8 := V_b8.ext E
  have V_b17 : AV Z h b17 .int 128 (fun _ => .int 0) := V_b17
  show Go p e below s _ _ T (mkF m 19 #[.val (.ref a)] [(.ref b17), (.ref a)])
  refine Go.putF X hx hZ hown (hw _ (List.mem_of_getElem? (i := 12) rfl)) Via.refl eT F_m_frequencies_a E_a (Or.inr ⟨(hw _ (List.mem_of_getElem? (i := 13) rfl)), rfl, hnm⟩) (hw _ (List.mem_of_getElem? (i := 1) rfl)) (ty := (.array .int)) (by decide) rfl rfl (hb hby d1_19) ?_
  intro T h X eT wr
  have N := Fr.snoc X N g_a
  have K := K.wr wr (Or.inl (List.mem_of_getElem? (i := 0) rfl))
  have E_a := E_a.wr wr
  have F_m_documents_a := F_m_documents_a.other wr (Or.inr (slot_ne (Or.inr (hw _ (List.mem_of_getElem? (i := 11) rfl))) (Or.inr (hw _ (List.mem_of_getElem? (i := 13) rfl))) (by decide) (t := (.array .int)) (t' := (.array .int)) (by decide) (by decide)))
  have F_m_frequencies_a := F_m_frequencies_a.same wr
  have F_m_lengths_a := F_m_lengths_a.other wr (Or.inr (slot_ne (Or.inr (hw _ (List.mem_of_getElem? (i := 15) rfl))) (Or.inr (hw _ (List.mem_of_getElem? (i := 13) rfl))) (by decide) (t := (.array .int)) (t' := (.array .int)) (by decide) (by decide)))
  have F_m_count_a := F_m_count_a.other wr (Or.inr (slot_ne (Or.inl (hw _ (List.mem_of_getElem? (i := 44) rfl))) (Or.inr (hw _ (List.mem_of_getElem? (i := 13) rfl))) (by decide) (t := .int) (t' := (.array .int)) (by decide) (by decide)))
  have F_m_blocked_a := F_m_blocked_a.other wr (Or.inr (slot_ne (Or.inl (hw _ (List.mem_of_getElem? (i := 46) rfl))) (Or.inr (hw _ (List.mem_of_getElem? (i := 13) rfl))) (by decide) (t := .boolean) (t' := (.array .int)) (by decide) (by decide)))
  have F_m_last_a := F_m_last_a.other wr (Or.inr (slot_ne (Or.inl (hw _ (List.mem_of_getElem? (i := 48) rfl))) (Or.inr (hw _ (List.mem_of_getElem? (i := 13) rfl))) (by decide) (t := .int) (t' := (.array .int)) (by decide) (by decide)))
  have F_m_base_a := F_m_base_a.other wr (Or.inr (slot_ne (Or.inl (hw _ (List.mem_of_getElem? (i := 50) rfl))) (Or.inr (hw _ (List.mem_of_getElem? (i := 13) rfl))) (by decide) (t := .int) (t' := (.array .int)) (by decide) (by decide)))
  have F_m_keepsEntry_a := F_m_keepsEntry_a.other wr (Or.inr (slot_ne (Or.inl (hw _ (List.mem_of_getElem? (i := 52) rfl))) (Or.inr (hw _ (List.mem_of_getElem? (i := 13) rfl))) (by decide) (t := .boolean) (t' := (.array .int)) (by decide) (by decide)))
  have F_m_entry_a := F_m_entry_a.other wr (Or.inr (slot_ne (Or.inl (hw _ (List.mem_of_getElem? (i := 55) rfl))) (Or.inr (hw _ (List.mem_of_getElem? (i := 13) rfl))) (by decide) (t := .long) (t' := (.array .int)) (by decide) (by decide)))
  have F_m_entryBefore_a := F_m_entryBefore_a.other wr (Or.inr (slot_ne (Or.inl (hw _ (List.mem_of_getElem? (i := 57) rfl))) (Or.inr (hw _ (List.mem_of_getElem? (i := 13) rfl))) (by decide) (t := .long) (t' := (.array .int)) (by decide) (by decide)))
  have F_m_pairFrequencies_a := F_m_pairFrequencies_a.other wr (Or.inr (slot_ne (Or.inr (hw _ (List.mem_of_getElem? (i := 17) rfl))) (Or.inr (hw _ (List.mem_of_getElem? (i := 13) rfl))) (by decide) (t := (.array .int)) (t' := (.array .int)) (by decide) (by decide)))
  have F_m_pairLengths_a := F_m_pairLengths_a.other wr (Or.inr (slot_ne (Or.inr (hw _ (List.mem_of_getElem? (i := 19) rfl))) (Or.inr (hw _ (List.mem_of_getElem? (i := 13) rfl))) (by decide) (t := (.array .int)) (t' := (.array .int)) (by decide) (by decide)))
  have F_m_bounds_a := F_m_bounds_a.other wr (Or.inr (slot_ne (Or.inr (hw _ (List.mem_of_getElem? (i := 37) rfl))) (Or.inr (hw _ (List.mem_of_getElem? (i := 13) rfl))) (by decide) (t := (.object "org/segmentry/segment/BlockBounds")) (t' := (.array .int)) (by decide) (by decide)))
  have V_b8 := V_b8.other wr (Ne.symm ne_a_b8)
  have V_b17 := V_b17.other wr (Ne.symm ne_a_b17)
  show Go p e below s _ _ T (mkF m 22 #[.val (.ref a)] [])
  refine Go.of (fun _ kq => XS.aloadN X.here hx rfl (hb hby d1_22) rfl rfl kq) ?_
  show Go p e below s _ _ T (mkF m 23 #[.val (.ref a)] [(.ref a)])
  refine Go.of (fun _ kq => XS.sipush X.here hx rfl (hb hby d1_23) kq) ?_
  show Go p e below s _ _ T (mkF m 26 #[.val (.ref a)] [(.int (128 : Int32)), (.ref a)])
  refine Go.newP X hx hZ (hw _ (List.mem_of_getElem? (i := 9) rfl)) eT (hb hby d1_26) (by decide) 128 (by decide) (by decide) (by decide) (by decide) ?_
  intro T h b26 X eT E ha V_b26
  have ne_a_b26 : a ≠ b26 := by rw [ha]; exact Nat.ne_of_lt E_a.lt
  have ne_b8_b26 : b8 ≠ b26 := by rw [ha]; exact Nat.ne_of_lt V_b8.lt
  have ne_b17_b26 : b17 ≠ b26 := by rw [ha]; exact Nat.ne_of_lt V_b17.lt
  have z_b26 : h0.size ≤ b26 := by rw [ha]; exact K.1
  have g_b26 : n0 ≤ b26 := Nat.le_trans Z0 z_b26
  have K := K.ext E
  have E_a := E_a.ext E
  have F_m_documents_a := F_m_documents_a.ext E
  have F_m_frequencies_a := F_m_frequencies_a.ext E
  have F_m_lengths_a := F_m_lengths_a.ext E
  have F_m_count_a := F_m_count_a.ext E
  have F_m_blocked_a := F_m_blocked_a.ext E
  have F_m_last_a := F_m_last_a.ext E
  have F_m_base_a := F_m_base_a.ext E
  have F_m_keepsEntry_a := F_m_keepsEntry_a.ext E
  have F_m_entry_a := F_m_entry_a.ext E
  have F_m_entryBefore_a := F_m_entryBefore_a.ext E
  have F_m_pairFrequencies_a := F_m_pairFrequencies_a.ext E
  have F_m_pairLengths_a := F_m_pairLengths_a.ext E
  have F_m_bounds_a := F_m_bounds_a.ext E
  have V_b8 := V_b8.ext E
  have V_b17 := V_b17.ext E
  have V_b26 : AV Z h b26 .int 128 (fun _ => .int 0) := V_b26
  show Go p e below s _ _ T (mkF m 28 #[.val (.ref a)] [(.ref b26), (.ref a)])
  refine Go.putF X hx hZ hown (hw _ (List.mem_of_getElem? (i := 14) rfl)) Via.refl eT F_m_lengths_a E_a (Or.inr ⟨(hw _ (List.mem_of_getElem? (i := 15) rfl)), rfl, hnm⟩) (hw _ (List.mem_of_getElem? (i := 1) rfl)) (ty := (.array .int)) (by decide) rfl rfl (hb hby d1_28) ?_
  intro T h X eT wr
  have N := Fr.snoc X N g_a
  have K := K.wr wr (Or.inl (List.mem_of_getElem? (i := 0) rfl))
  have E_a := E_a.wr wr
  have F_m_documents_a := F_m_documents_a.other wr (Or.inr (slot_ne (Or.inr (hw _ (List.mem_of_getElem? (i := 11) rfl))) (Or.inr (hw _ (List.mem_of_getElem? (i := 15) rfl))) (by decide) (t := (.array .int)) (t' := (.array .int)) (by decide) (by decide)))
  have F_m_frequencies_a := F_m_frequencies_a.other wr (Or.inr (slot_ne (Or.inr (hw _ (List.mem_of_getElem? (i := 13) rfl))) (Or.inr (hw _ (List.mem_of_getElem? (i := 15) rfl))) (by decide) (t := (.array .int)) (t' := (.array .int)) (by decide) (by decide)))
  have F_m_lengths_a := F_m_lengths_a.same wr
  have F_m_count_a := F_m_count_a.other wr (Or.inr (slot_ne (Or.inl (hw _ (List.mem_of_getElem? (i := 44) rfl))) (Or.inr (hw _ (List.mem_of_getElem? (i := 15) rfl))) (by decide) (t := .int) (t' := (.array .int)) (by decide) (by decide)))
  have F_m_blocked_a := F_m_blocked_a.other wr (Or.inr (slot_ne (Or.inl (hw _ (List.mem_of_getElem? (i := 46) rfl))) (Or.inr (hw _ (List.mem_of_getElem? (i := 15) rfl))) (by decide) (t := .boolean) (t' := (.array .int)) (by decide) (by decide)))
  have F_m_last_a := F_m_last_a.other wr (Or.inr (slot_ne (Or.inl (hw _ (List.mem_of_getElem? (i := 48) rfl))) (Or.inr (hw _ (List.mem_of_getElem? (i := 15) rfl))) (by decide) (t := .int) (t' := (.array .int)) (by decide) (by decide)))
  have F_m_base_a := F_m_base_a.other wr (Or.inr (slot_ne (Or.inl (hw _ (List.mem_of_getElem? (i := 50) rfl))) (Or.inr (hw _ (List.mem_of_getElem? (i := 15) rfl))) (by decide) (t := .int) (t' := (.array .int)) (by decide) (by decide)))
  have F_m_keepsEntry_a := F_m_keepsEntry_a.other wr (Or.inr (slot_ne (Or.inl (hw _ (List.mem_of_getElem? (i := 52) rfl))) (Or.inr (hw _ (List.mem_of_getElem? (i := 15) rfl))) (by decide) (t := .boolean) (t' := (.array .int)) (by decide) (by decide)))
  have F_m_entry_a := F_m_entry_a.other wr (Or.inr (slot_ne (Or.inl (hw _ (List.mem_of_getElem? (i := 55) rfl))) (Or.inr (hw _ (List.mem_of_getElem? (i := 15) rfl))) (by decide) (t := .long) (t' := (.array .int)) (by decide) (by decide)))
  have F_m_entryBefore_a := F_m_entryBefore_a.other wr (Or.inr (slot_ne (Or.inl (hw _ (List.mem_of_getElem? (i := 57) rfl))) (Or.inr (hw _ (List.mem_of_getElem? (i := 15) rfl))) (by decide) (t := .long) (t' := (.array .int)) (by decide) (by decide)))
  have F_m_pairFrequencies_a := F_m_pairFrequencies_a.other wr (Or.inr (slot_ne (Or.inr (hw _ (List.mem_of_getElem? (i := 17) rfl))) (Or.inr (hw _ (List.mem_of_getElem? (i := 15) rfl))) (by decide) (t := (.array .int)) (t' := (.array .int)) (by decide) (by decide)))
  have F_m_pairLengths_a := F_m_pairLengths_a.other wr (Or.inr (slot_ne (Or.inr (hw _ (List.mem_of_getElem? (i := 19) rfl))) (Or.inr (hw _ (List.mem_of_getElem? (i := 15) rfl))) (by decide) (t := (.array .int)) (t' := (.array .int)) (by decide) (by decide)))
  have F_m_bounds_a := F_m_bounds_a.other wr (Or.inr (slot_ne (Or.inr (hw _ (List.mem_of_getElem? (i := 37) rfl))) (Or.inr (hw _ (List.mem_of_getElem? (i := 15) rfl))) (by decide) (t := (.object "org/segmentry/segment/BlockBounds")) (t' := (.array .int)) (by decide) (by decide)))
  have V_b8 := V_b8.other wr (Ne.symm ne_a_b8)
  have V_b17 := V_b17.other wr (Ne.symm ne_a_b17)
  have V_b26 := V_b26.other wr (Ne.symm ne_a_b26)
  show Go p e below s _ _ T (mkF m 31 #[.val (.ref a)] [])
  refine Go.of (fun _ kq => XS.aloadN X.here hx rfl (hb hby d1_31) rfl rfl kq) ?_
  show Go p e below s _ _ T (mkF m 32 #[.val (.ref a)] [(.ref a)])
  refine Go.of (fun _ kq => XS.bipush X.here hx rfl (hb hby d1_32) kq) ?_
  show Go p e below s _ _ T (mkF m 34 #[.val (.ref a)] [(.int (8 : Int32)), (.ref a)])
  refine Go.newP X hx hZ (hw _ (List.mem_of_getElem? (i := 9) rfl)) eT (hb hby d1_34) (by decide) 8 (by decide) (by decide) (by decide) (by decide) ?_
  intro T h b34 X eT E ha V_b34
  have ne_a_b34 : a ≠ b34 := by rw [ha]; exact Nat.ne_of_lt E_a.lt
  have ne_b8_b34 : b8 ≠ b34 := by rw [ha]; exact Nat.ne_of_lt V_b8.lt
  have ne_b17_b34 : b17 ≠ b34 := by rw [ha]; exact Nat.ne_of_lt V_b17.lt
  have ne_b26_b34 : b26 ≠ b34 := by rw [ha]; exact Nat.ne_of_lt V_b26.lt
  have z_b34 : h0.size ≤ b34 := by rw [ha]; exact K.1
  have g_b34 : n0 ≤ b34 := Nat.le_trans Z0 z_b34
  have K := K.ext E
  have E_a := E_a.ext E
  have F_m_documents_a := F_m_documents_a.ext E
  have F_m_frequencies_a := F_m_frequencies_a.ext E
  have F_m_lengths_a := F_m_lengths_a.ext E
  have F_m_count_a := F_m_count_a.ext E
  have F_m_blocked_a := F_m_blocked_a.ext E
  have F_m_last_a := F_m_last_a.ext E
  have F_m_base_a := F_m_base_a.ext E
  have F_m_keepsEntry_a := F_m_keepsEntry_a.ext E
  have F_m_entry_a := F_m_entry_a.ext E
  have F_m_entryBefore_a := F_m_entryBefore_a.ext E
  have F_m_pairFrequencies_a := F_m_pairFrequencies_a.ext E
  have F_m_pairLengths_a := F_m_pairLengths_a.ext E
  have F_m_bounds_a := F_m_bounds_a.ext E
  have V_b8 := V_b8.ext E
  have V_b17 := V_b17.ext E
  have V_b26 := V_b26.ext E
  have V_b34 : AV Z h b34 .int 8 (fun _ => .int 0) := V_b34
  show Go p e below s _ _ T (mkF m 36 #[.val (.ref a)] [(.ref b34), (.ref a)])
  refine Go.putF X hx hZ hown (hw _ (List.mem_of_getElem? (i := 16) rfl)) Via.refl eT F_m_pairFrequencies_a E_a (Or.inr ⟨(hw _ (List.mem_of_getElem? (i := 17) rfl)), rfl, hnm⟩) (hw _ (List.mem_of_getElem? (i := 1) rfl)) (ty := (.array .int)) (by decide) rfl rfl (hb hby d1_36) ?_
  intro T h X eT wr
  have N := Fr.snoc X N g_a
  have K := K.wr wr (Or.inl (List.mem_of_getElem? (i := 0) rfl))
  have E_a := E_a.wr wr
  have F_m_documents_a := F_m_documents_a.other wr (Or.inr (slot_ne (Or.inr (hw _ (List.mem_of_getElem? (i := 11) rfl))) (Or.inr (hw _ (List.mem_of_getElem? (i := 17) rfl))) (by decide) (t := (.array .int)) (t' := (.array .int)) (by decide) (by decide)))
  have F_m_frequencies_a := F_m_frequencies_a.other wr (Or.inr (slot_ne (Or.inr (hw _ (List.mem_of_getElem? (i := 13) rfl))) (Or.inr (hw _ (List.mem_of_getElem? (i := 17) rfl))) (by decide) (t := (.array .int)) (t' := (.array .int)) (by decide) (by decide)))
  have F_m_lengths_a := F_m_lengths_a.other wr (Or.inr (slot_ne (Or.inr (hw _ (List.mem_of_getElem? (i := 15) rfl))) (Or.inr (hw _ (List.mem_of_getElem? (i := 17) rfl))) (by decide) (t := (.array .int)) (t' := (.array .int)) (by decide) (by decide)))
  have F_m_count_a := F_m_count_a.other wr (Or.inr (slot_ne (Or.inl (hw _ (List.mem_of_getElem? (i := 44) rfl))) (Or.inr (hw _ (List.mem_of_getElem? (i := 17) rfl))) (by decide) (t := .int) (t' := (.array .int)) (by decide) (by decide)))
  have F_m_blocked_a := F_m_blocked_a.other wr (Or.inr (slot_ne (Or.inl (hw _ (List.mem_of_getElem? (i := 46) rfl))) (Or.inr (hw _ (List.mem_of_getElem? (i := 17) rfl))) (by decide) (t := .boolean) (t' := (.array .int)) (by decide) (by decide)))
  have F_m_last_a := F_m_last_a.other wr (Or.inr (slot_ne (Or.inl (hw _ (List.mem_of_getElem? (i := 48) rfl))) (Or.inr (hw _ (List.mem_of_getElem? (i := 17) rfl))) (by decide) (t := .int) (t' := (.array .int)) (by decide) (by decide)))
  have F_m_base_a := F_m_base_a.other wr (Or.inr (slot_ne (Or.inl (hw _ (List.mem_of_getElem? (i := 50) rfl))) (Or.inr (hw _ (List.mem_of_getElem? (i := 17) rfl))) (by decide) (t := .int) (t' := (.array .int)) (by decide) (by decide)))
  have F_m_keepsEntry_a := F_m_keepsEntry_a.other wr (Or.inr (slot_ne (Or.inl (hw _ (List.mem_of_getElem? (i := 52) rfl))) (Or.inr (hw _ (List.mem_of_getElem? (i := 17) rfl))) (by decide) (t := .boolean) (t' := (.array .int)) (by decide) (by decide)))
  have F_m_entry_a := F_m_entry_a.other wr (Or.inr (slot_ne (Or.inl (hw _ (List.mem_of_getElem? (i := 55) rfl))) (Or.inr (hw _ (List.mem_of_getElem? (i := 17) rfl))) (by decide) (t := .long) (t' := (.array .int)) (by decide) (by decide)))
  have F_m_entryBefore_a := F_m_entryBefore_a.other wr (Or.inr (slot_ne (Or.inl (hw _ (List.mem_of_getElem? (i := 57) rfl))) (Or.inr (hw _ (List.mem_of_getElem? (i := 17) rfl))) (by decide) (t := .long) (t' := (.array .int)) (by decide) (by decide)))
  have F_m_pairFrequencies_a := F_m_pairFrequencies_a.same wr
  have F_m_pairLengths_a := F_m_pairLengths_a.other wr (Or.inr (slot_ne (Or.inr (hw _ (List.mem_of_getElem? (i := 19) rfl))) (Or.inr (hw _ (List.mem_of_getElem? (i := 17) rfl))) (by decide) (t := (.array .int)) (t' := (.array .int)) (by decide) (by decide)))
  have F_m_bounds_a := F_m_bounds_a.other wr (Or.inr (slot_ne (Or.inr (hw _ (List.mem_of_getElem? (i := 37) rfl))) (Or.inr (hw _ (List.mem_of_getElem? (i := 17) rfl))) (by decide) (t := (.object "org/segmentry/segment/BlockBounds")) (t' := (.array .int)) (by decide) (by decide)))
  have V_b8 := V_b8.other wr (Ne.symm ne_a_b8)
  have V_b17 := V_b17.other wr (Ne.symm ne_a_b17)
  have V_b26 := V_b26.other wr (Ne.symm ne_a_b26)
  have V_b34 := V_b34.other wr (Ne.symm ne_a_b34)
  show Go p e below s _ _ T (mkF m 39 #[.val (.ref a)] [])
  refine Go.of (fun _ kq => XS.aloadN X.here hx rfl (hb hby d1_39) rfl rfl kq) ?_
  show Go p e below s _ _ T (mkF m 40 #[.val (.ref a)] [(.ref a)])
  refine Go.of (fun _ kq => XS.bipush X.here hx rfl (hb hby d1_40) kq) ?_
  show Go p e below s _ _ T (mkF m 42 #[.val (.ref a)] [(.int (8 : Int32)), (.ref a)])
  refine Go.newP X hx hZ (hw _ (List.mem_of_getElem? (i := 9) rfl)) eT (hb hby d1_42) (by decide) 8 (by decide) (by decide) (by decide) (by decide) ?_
  intro T h b42 X eT E ha V_b42
  have ne_a_b42 : a ≠ b42 := by rw [ha]; exact Nat.ne_of_lt E_a.lt
  have ne_b8_b42 : b8 ≠ b42 := by rw [ha]; exact Nat.ne_of_lt V_b8.lt
  have ne_b17_b42 : b17 ≠ b42 := by rw [ha]; exact Nat.ne_of_lt V_b17.lt
  have ne_b26_b42 : b26 ≠ b42 := by rw [ha]; exact Nat.ne_of_lt V_b26.lt
  have z_b42 : h0.size ≤ b42 := by rw [ha]; exact K.1
  have g_b42 : n0 ≤ b42 := Nat.le_trans Z0 z_b42
  have K := K.ext E
  have E_a := E_a.ext E
  have F_m_documents_a := F_m_documents_a.ext E
  have F_m_frequencies_a := F_m_frequencies_a.ext E
  have F_m_lengths_a := F_m_lengths_a.ext E
  have F_m_count_a := F_m_count_a.ext E
  have F_m_blocked_a := F_m_blocked_a.ext E
  have F_m_last_a := F_m_last_a.ext E
  have F_m_base_a := F_m_base_a.ext E
  have F_m_keepsEntry_a := F_m_keepsEntry_a.ext E
  have F_m_entry_a := F_m_entry_a.ext E
  have F_m_entryBefore_a := F_m_entryBefore_a.ext E
  have F_m_pairLengths_a := F_m_pairLengths_a.ext E
  have F_m_bounds_a := F_m_bounds_a.ext E
  have V_b8 := V_b8.ext E
  have V_b17 := V_b17.ext E
  have V_b26 := V_b26.ext E
  have V_b42 : AV Z h b42 .int 8 (fun _ => .int 0) := V_b42
  show Go p e below s _ _ T (mkF m 44 #[.val (.ref a)] [(.ref b42), (.ref a)])
  refine Go.putF X hx hZ hown (hw _ (List.mem_of_getElem? (i := 18) rfl)) Via.refl eT F_m_pairLengths_a E_a (Or.inr ⟨(hw _ (List.mem_of_getElem? (i := 19) rfl)), rfl, hnm⟩) (hw _ (List.mem_of_getElem? (i := 1) rfl)) (ty := (.array .int)) (by decide) rfl rfl (hb hby d1_44) ?_
  intro T h X eT wr
  have N := Fr.snoc X N g_a
  have K := K.wr wr (Or.inl (List.mem_of_getElem? (i := 0) rfl))
  have E_a := E_a.wr wr
  have F_m_documents_a := F_m_documents_a.other wr (Or.inr (slot_ne (Or.inr (hw _ (List.mem_of_getElem? (i := 11) rfl))) (Or.inr (hw _ (List.mem_of_getElem? (i := 19) rfl))) (by decide) (t := (.array .int)) (t' := (.array .int)) (by decide) (by decide)))
  have F_m_frequencies_a := F_m_frequencies_a.other wr (Or.inr (slot_ne (Or.inr (hw _ (List.mem_of_getElem? (i := 13) rfl))) (Or.inr (hw _ (List.mem_of_getElem? (i := 19) rfl))) (by decide) (t := (.array .int)) (t' := (.array .int)) (by decide) (by decide)))
  have F_m_lengths_a := F_m_lengths_a.other wr (Or.inr (slot_ne (Or.inr (hw _ (List.mem_of_getElem? (i := 15) rfl))) (Or.inr (hw _ (List.mem_of_getElem? (i := 19) rfl))) (by decide) (t := (.array .int)) (t' := (.array .int)) (by decide) (by decide)))
  have F_m_count_a := F_m_count_a.other wr (Or.inr (slot_ne (Or.inl (hw _ (List.mem_of_getElem? (i := 44) rfl))) (Or.inr (hw _ (List.mem_of_getElem? (i := 19) rfl))) (by decide) (t := .int) (t' := (.array .int)) (by decide) (by decide)))
  have F_m_blocked_a := F_m_blocked_a.other wr (Or.inr (slot_ne (Or.inl (hw _ (List.mem_of_getElem? (i := 46) rfl))) (Or.inr (hw _ (List.mem_of_getElem? (i := 19) rfl))) (by decide) (t := .boolean) (t' := (.array .int)) (by decide) (by decide)))
  have F_m_last_a := F_m_last_a.other wr (Or.inr (slot_ne (Or.inl (hw _ (List.mem_of_getElem? (i := 48) rfl))) (Or.inr (hw _ (List.mem_of_getElem? (i := 19) rfl))) (by decide) (t := .int) (t' := (.array .int)) (by decide) (by decide)))
  have F_m_base_a := F_m_base_a.other wr (Or.inr (slot_ne (Or.inl (hw _ (List.mem_of_getElem? (i := 50) rfl))) (Or.inr (hw _ (List.mem_of_getElem? (i := 19) rfl))) (by decide) (t := .int) (t' := (.array .int)) (by decide) (by decide)))
  have F_m_keepsEntry_a := F_m_keepsEntry_a.other wr (Or.inr (slot_ne (Or.inl (hw _ (List.mem_of_getElem? (i := 52) rfl))) (Or.inr (hw _ (List.mem_of_getElem? (i := 19) rfl))) (by decide) (t := .boolean) (t' := (.array .int)) (by decide) (by decide)))
  have F_m_entry_a := F_m_entry_a.other wr (Or.inr (slot_ne (Or.inl (hw _ (List.mem_of_getElem? (i := 55) rfl))) (Or.inr (hw _ (List.mem_of_getElem? (i := 19) rfl))) (by decide) (t := .long) (t' := (.array .int)) (by decide) (by decide)))
  have F_m_entryBefore_a := F_m_entryBefore_a.other wr (Or.inr (slot_ne (Or.inl (hw _ (List.mem_of_getElem? (i := 57) rfl))) (Or.inr (hw _ (List.mem_of_getElem? (i := 19) rfl))) (by decide) (t := .long) (t' := (.array .int)) (by decide) (by decide)))
  have F_m_pairLengths_a := F_m_pairLengths_a.same wr
  have F_m_bounds_a := F_m_bounds_a.other wr (Or.inr (slot_ne (Or.inr (hw _ (List.mem_of_getElem? (i := 37) rfl))) (Or.inr (hw _ (List.mem_of_getElem? (i := 19) rfl))) (by decide) (t := (.object "org/segmentry/segment/BlockBounds")) (t' := (.array .int)) (by decide) (by decide)))
  have V_b8 := V_b8.other wr (Ne.symm ne_a_b8)
  have V_b17 := V_b17.other wr (Ne.symm ne_a_b17)
  have V_b26 := V_b26.other wr (Ne.symm ne_a_b26)
  have V_b42 := V_b42.other wr (Ne.symm ne_a_b42)
  show Go p e below s _ _ T (mkF m 47 #[.val (.ref a)] [])
  refine Go.of (fun _ kq => XS.aloadN X.here hx rfl (hb hby d1_47) rfl rfl kq) ?_
  show Go p e below s _ _ T (mkF m 48 #[.val (.ref a)] [(.ref a)])
  refine Go.newO X hx hZ hown (hw _ (List.mem_of_getElem? (i := 20) rfl)) (hw _ (List.mem_of_getElem? (i := 21) rfl)) (hw _ (List.mem_of_getElem? (i := 22) rfl)) eT (hb hby d1_48) (by decide) (by decide) ?_
  intro T h b48 X eT E ha E_b48 D_b48
  have ne_a_b48 : a ≠ b48 := by rw [ha]; exact Nat.ne_of_lt E_a.lt
  have ne_b8_b48 : b8 ≠ b48 := by rw [ha]; exact Nat.ne_of_lt V_b8.lt
  have ne_b17_b48 : b17 ≠ b48 := by rw [ha]; exact Nat.ne_of_lt V_b17.lt
  have ne_b26_b48 : b26 ≠ b48 := by rw [ha]; exact Nat.ne_of_lt V_b26.lt
  have z_b48 : h0.size ≤ b48 := by rw [ha]; exact K.1
  have g_b48 : n0 ≤ b48 := Nat.le_trans Z0 z_b48
  have K := K.ext E
  have E_a := E_a.ext E
  have F_m_documents_a := F_m_documents_a.ext E
  have F_m_frequencies_a := F_m_frequencies_a.ext E
  have F_m_lengths_a := F_m_lengths_a.ext E
  have F_m_count_a := F_m_count_a.ext E
  have F_m_blocked_a := F_m_blocked_a.ext E
  have F_m_last_a := F_m_last_a.ext E
  have F_m_base_a := F_m_base_a.ext E
  have F_m_keepsEntry_a := F_m_keepsEntry_a.ext E
  have F_m_entry_a := F_m_entry_a.ext E
  have F_m_entryBefore_a := F_m_entryBefore_a.ext E
  have F_m_bounds_a := F_m_bounds_a.ext E
  have V_b8 := V_b8.ext E
  have V_b17 := V_b17.ext E
  have V_b26 := V_b26.ext E
  have F_m_shortest_b48 : Fld Z h b48 "org/segmentry/segment/BlockBounds" "m_shortest" "[I" .null := D_b48 (Or.inr (hw _ (List.mem_of_getElem? (i := 28) rfl))) (ty := (.array .int)) (by decide)
  have F_m_sorted_b48 : Fld Z h b48 "org/segmentry/segment/BlockBounds" "m_sorted" "[J" .null := D_b48 (Or.inr (hw _ (List.mem_of_getElem? (i := 31) rfl))) (ty := (.array .long)) (by decide)
  have F_m_frequencies_b48 : Fld Z h b48 "org/segmentry/segment/BlockBounds" "m_frequencies" "[I" .null := D_b48 (Or.inr (hw _ (List.mem_of_getElem? (i := 33) rfl))) (ty := (.array .int)) (by decide)
  have F_m_lengths_b48 : Fld Z h b48 "org/segmentry/segment/BlockBounds" "m_lengths" "[I" .null := D_b48 (Or.inr (hw _ (List.mem_of_getElem? (i := 35) rfl))) (ty := (.array .int)) (by decide)
  show Go p e below s _ _ T (mkF m 51 #[.val (.ref a)] [(.ref b48), (.ref a)])
  refine Go.of (fun _ kq => XS.dup X.here hx rfl (hb hby d1_51) rfl rfl kq) ?_
  show Go p e below s _ _ T (mkF m 52 #[.val (.ref a)] [(.ref b48), (.ref b48), (.ref a)])
  refine Go.special (a := b48) X hx hZ hown rfl (hw _ (List.mem_of_getElem? (i := 23) rfl)) (hw _ (List.mem_of_getElem? (i := 24) rfl)) (hw _ (List.mem_of_getElem? (i := 22) rfl)) (hw _ (List.mem_of_getElem? (i := 25) rfl)) (by decide) (rmBB hw b48 _ n0 (Nat.le_trans Z0 K.1) g_b48 E_b48 F_m_shortest_b48 F_m_sorted_b48 F_m_frequencies_b48 F_m_lengths_b48) eT 2 (by decide) (by decide) (by decide) (by decide) (by rw [hml]; rfl) (argsL := []) [(.ref b48), (.ref a)] (lenOf pd5 rfl) rfl rfl (Nat.le_of_eq rfl) (hb hby d1_52) ?_
  intro v T L' X hQ
  obtain ⟨h, eT⟩ : ∃ z, T.heap = z := ⟨_, rfl⟩
  rw [eT] at hQ
  obtain ⟨rfl, N', K'⟩ := hQ
  have N := Fr.app N N'
  have K := K.trans K' (own_all1 (Or.inr z_b48))
  have E_a := E_a.keep K'
  have F_m_documents_a := F_m_documents_a.keep K' (own_ni1 ne_a_b48)
  have F_m_frequencies_a := F_m_frequencies_a.keep K' (own_ni1 ne_a_b48)
  have F_m_lengths_a := F_m_lengths_a.keep K' (own_ni1 ne_a_b48)
  have F_m_count_a := F_m_count_a.keep K' (own_ni1 ne_a_b48)
  have F_m_blocked_a := F_m_blocked_a.keep K' (own_ni1 ne_a_b48)
  have F_m_last_a := F_m_last_a.keep K' (own_ni1 ne_a_b48)
  have F_m_base_a := F_m_base_a.keep K' (own_ni1 ne_a_b48)
  have F_m_keepsEntry_a := F_m_keepsEntry_a.keep K' (own_ni1 ne_a_b48)
  have F_m_entry_a := F_m_entry_a.keep K' (own_ni1 ne_a_b48)
  have F_m_entryBefore_a := F_m_entryBefore_a.keep K' (own_ni1 ne_a_b48)
  have F_m_bounds_a := F_m_bounds_a.keep K' (own_ni1 ne_a_b48)
  have V_b8 := V_b8.keep K' (own_ni1 ne_b8_b48)
  have V_b17 := V_b17.keep K' (own_ni1 ne_b17_b48)
  have V_b26 := V_b26.keep K' (own_ni1 ne_b26_b48)
  have E_b48 := E_b48.keep K'
  show Go p e below s _ _ T (mkF m 55 #[.val (.ref a)] [(.ref b48), (.ref a)])
  refine Go.putF X hx hZ hown (hw _ (List.mem_of_getElem? (i := 36) rfl)) Via.refl eT F_m_bounds_a E_a (Or.inr ⟨(hw _ (List.mem_of_getElem? (i := 37) rfl)), rfl, hnm⟩) (hw _ (List.mem_of_getElem? (i := 1) rfl)) (ty := (.object "org/segmentry/segment/BlockBounds")) (by decide) rfl rfl (hb hby d1_55) ?_
  intro T h X eT wr
  have N := Fr.snoc X N g_a
  have K := K.wr wr (Or.inl (List.mem_of_getElem? (i := 0) rfl))
  have E_a := E_a.wr wr
  have F_m_documents_a := F_m_documents_a.other wr (Or.inr (slot_ne (Or.inr (hw _ (List.mem_of_getElem? (i := 11) rfl))) (Or.inr (hw _ (List.mem_of_getElem? (i := 37) rfl))) (by decide) (t := (.array .int)) (t' := (.object "org/segmentry/segment/BlockBounds")) (by decide) (by decide)))
  have F_m_frequencies_a := F_m_frequencies_a.other wr (Or.inr (slot_ne (Or.inr (hw _ (List.mem_of_getElem? (i := 13) rfl))) (Or.inr (hw _ (List.mem_of_getElem? (i := 37) rfl))) (by decide) (t := (.array .int)) (t' := (.object "org/segmentry/segment/BlockBounds")) (by decide) (by decide)))
  have F_m_lengths_a := F_m_lengths_a.other wr (Or.inr (slot_ne (Or.inr (hw _ (List.mem_of_getElem? (i := 15) rfl))) (Or.inr (hw _ (List.mem_of_getElem? (i := 37) rfl))) (by decide) (t := (.array .int)) (t' := (.object "org/segmentry/segment/BlockBounds")) (by decide) (by decide)))
  have F_m_count_a := F_m_count_a.other wr (Or.inr (slot_ne (Or.inl (hw _ (List.mem_of_getElem? (i := 44) rfl))) (Or.inr (hw _ (List.mem_of_getElem? (i := 37) rfl))) (by decide) (t := .int) (t' := (.object "org/segmentry/segment/BlockBounds")) (by decide) (by decide)))
  have F_m_blocked_a := F_m_blocked_a.other wr (Or.inr (slot_ne (Or.inl (hw _ (List.mem_of_getElem? (i := 46) rfl))) (Or.inr (hw _ (List.mem_of_getElem? (i := 37) rfl))) (by decide) (t := .boolean) (t' := (.object "org/segmentry/segment/BlockBounds")) (by decide) (by decide)))
  have F_m_last_a := F_m_last_a.other wr (Or.inr (slot_ne (Or.inl (hw _ (List.mem_of_getElem? (i := 48) rfl))) (Or.inr (hw _ (List.mem_of_getElem? (i := 37) rfl))) (by decide) (t := .int) (t' := (.object "org/segmentry/segment/BlockBounds")) (by decide) (by decide)))
  have F_m_base_a := F_m_base_a.other wr (Or.inr (slot_ne (Or.inl (hw _ (List.mem_of_getElem? (i := 50) rfl))) (Or.inr (hw _ (List.mem_of_getElem? (i := 37) rfl))) (by decide) (t := .int) (t' := (.object "org/segmentry/segment/BlockBounds")) (by decide) (by decide)))
  have F_m_keepsEntry_a := F_m_keepsEntry_a.other wr (Or.inr (slot_ne (Or.inl (hw _ (List.mem_of_getElem? (i := 52) rfl))) (Or.inr (hw _ (List.mem_of_getElem? (i := 37) rfl))) (by decide) (t := .boolean) (t' := (.object "org/segmentry/segment/BlockBounds")) (by decide) (by decide)))
  have F_m_entry_a := F_m_entry_a.other wr (Or.inr (slot_ne (Or.inl (hw _ (List.mem_of_getElem? (i := 55) rfl))) (Or.inr (hw _ (List.mem_of_getElem? (i := 37) rfl))) (by decide) (t := .long) (t' := (.object "org/segmentry/segment/BlockBounds")) (by decide) (by decide)))
  have F_m_entryBefore_a := F_m_entryBefore_a.other wr (Or.inr (slot_ne (Or.inl (hw _ (List.mem_of_getElem? (i := 57) rfl))) (Or.inr (hw _ (List.mem_of_getElem? (i := 37) rfl))) (by decide) (t := .long) (t' := (.object "org/segmentry/segment/BlockBounds")) (by decide) (by decide)))
  have F_m_bounds_a := F_m_bounds_a.same wr
  have V_b8 := V_b8.other wr (Ne.symm ne_a_b8)
  have V_b17 := V_b17.other wr (Ne.symm ne_a_b17)
  have V_b26 := V_b26.other wr (Ne.symm ne_a_b26)
  have E_b48 := E_b48.wr wr
  show Go p e below s _ _ T (mkF m 58 #[.val (.ref a)] [])
  refine Go.retV X hx hret hlk (hb hby d1_58) (by decide) (by decide) ?_
  try rw [eT]
  exact ⟨rfl, N, K, b8, b17, b26, z_b8, z_b17, z_b26, ne_a_b8, ne_a_b17, ne_a_b26, ne_b8_b17, ne_b8_b26, ne_b17_b26, 0, 0, 0, 0, 0, 0, 0, fun _ => 0, fun _ => 0, fun _ => 0, F_m_documents_a, F_m_frequencies_a, F_m_lengths_a, F_m_count_a, F_m_blocked_a, F_m_last_a, F_m_base_a, F_m_keepsEntry_a, F_m_entry_a, F_m_entryBefore_a, V_b8, V_b17, V_b26⟩
theorem d4_0 : decode prog_162_method_2_code 0 = .ok (.aload_n 0, 1) := by decide +kernel
theorem d4_1 : decode prog_162_method_2_code 1 = .ok (.iconst 0, 1) := by decide +kernel
theorem d4_2 : decode prog_162_method_2_code 2 = .ok (.putfield 36, 3) := by decide +kernel
theorem d4_5 : decode prog_162_method_2_code 5 = .ok (.aload_n 0, 1) := by decide +kernel
theorem d4_6 : decode prog_162_method_2_code 6 = .ok (.iconst 0, 1) := by decide +kernel
theorem d4_7 : decode prog_162_method_2_code 7 = .ok (.putfield 40, 3) := by decide +kernel
theorem d4_10 : decode prog_162_method_2_code 10 = .ok (.aload_n 0, 1) := by decide +kernel
theorem d4_11 : decode prog_162_method_2_code 11 = .ok (.iconst (-1), 1) := by decide +kernel
theorem d4_12 : decode prog_162_method_2_code 12 = .ok (.putfield 44, 3) := by decide +kernel
theorem d4_15 : decode prog_162_method_2_code 15 = .ok (.aload_n 0, 1) := by decide +kernel
theorem d4_16 : decode prog_162_method_2_code 16 = .ok (.iconst (-1), 1) := by decide +kernel
theorem d4_17 : decode prog_162_method_2_code 17 = .ok (.putfield 47, 3) := by decide +kernel
theorem d4_20 : decode prog_162_method_2_code 20 = .ok (.aload_n 0, 1) := by decide +kernel
theorem d4_21 : decode prog_162_method_2_code 21 = .ok (.iload_n 1, 1) := by decide +kernel
theorem d4_22 : decode prog_162_method_2_code 22 = .ok (.putfield 50, 3) := by decide +kernel
theorem d4_25 : decode prog_162_method_2_code 25 = .ok (.aload_n 0, 1) := by decide +kernel
theorem d4_26 : decode prog_162_method_2_code 26 = .ok (.ldc2_w 53, 3) := by decide +kernel
theorem d4_29 : decode prog_162_method_2_code 29 = .ok (.putfield 55, 3) := by decide +kernel
theorem d4_32 : decode prog_162_method_2_code 32 = .ok (.aload_n 0, 1) := by decide +kernel
theorem d4_33 : decode prog_162_method_2_code 33 = .ok (.lconst 0, 1) := by decide +kernel
theorem d4_34 : decode prog_162_method_2_code 34 = .ok (.putfield 59, 3) := by decide +kernel
theorem d4_37 : decode prog_162_method_2_code 37 = .ok (.return_, 1) := by decide +kernel
theorem pn4 : plainFor (⟨"org/segmentry/segment/TermBlocks", "start", "(Z)V"⟩ : MethodName) = true := plainFor_of_name (by first | (simp [plainName, overriddenIn]; done) | decide +kernel)
theorem ef_rmStart (m : MethodId) (x0 : Addr) (x1 : Int32) : entryFrame m #[(.ref x0), (.int x1)] 2 = mkF m 0 #[.val (.ref x0), .val (.int x1)] [] := by first | (simp [entryFrame, mkF, argsToLocals, Value.category]; done) | rfl
set_option maxRecDepth 65536 in
set_option maxHeartbeats 40000000 in
theorem rmStart {l : Launch} {Z : State} {a0 : Array Value} (hw : ∀ d ∈ tables_1, d.before a0 Z = true) (a : Addr) (kz : Int32) (d f g : Addr) (h0 : Heap) (n0 : Nat) (g_a : n0 ≤ a) (ne_a_d : a ≠ d) (ne_a_f : a ≠ f) (ne_a_g : a ≠ g) (E_a : Exa Z h0 a "org/segmentry/segment/TermBlocks")  (TT : TB Z h0 a d f g) :
    Met l Z (⟨"org/segmentry/segment/TermBlocks", "start", "(Z)V"⟩ : MethodName) prog_162_method_2_code 2 none [] ({ frames := 0, cells := 0, slots := 0, locals := 0 } : Room) #[(.ref a), (.int kz)] h0 (fun v h L => v = none ∧ Fr n0 L ∧ Keep h0 h [a] ∧ ∃ (ke : Int32) (D Fq G : Nat → Int32), TBv Z h a d f g 0 0 (-1) (-1) ke (-1) 0 D Fq G) := by
  refine Met.mk pn4 ?_
  intro p e s m below meth c T hx hby hml hown hnm hret hlk hZ X eT
  refine Go.cast (ef_rmStart m a kz) ?_
  have N := Fr.nil n0
  have K := Keep.refl h0 [a]
  obtain ⟨c0, bl, la, ba, ke, en, eb, D, Fq, G, F_m_documents_a, F_m_frequencies_a, F_m_lengths_a, F_m_count_a, F_m_blocked_a, F_m_last_a, F_m_base_a, F_m_keepsEntry_a, F_m_entry_a, F_m_entryBefore_a, V_d, V_f, V_g⟩ := TT
  show Go p e below s _ _ T (mkF m 0 #[.val (.ref a), .val (.int kz)] [])
  refine Go.of (fun _ kq => XS.aloadN X.here hx rfl (hb hby d4_0) rfl rfl kq) ?_
  show Go p e below s _ _ T (mkF m 1 #[.val (.ref a), .val (.int kz)] [(.ref a)])
  refine Go.of (fun _ kq => XS.iconst X.here hx rfl (hb hby d4_1) kq) ?_
  show Go p e below s _ _ T (mkF m 2 #[.val (.ref a), .val (.int kz)] [(.int (0 : Int32)), (.ref a)])
  refine Go.putF X hx hZ hown (hw _ (List.mem_of_getElem? (i := 43) rfl)) Via.refl eT F_m_count_a E_a (Or.inl (hw _ (List.mem_of_getElem? (i := 44) rfl))) (hw _ (List.mem_of_getElem? (i := 1) rfl)) (ty := .int) (by decide) rfl rfl (hb hby d4_2) ?_
  intro T h X eT wr
  have N := Fr.snoc X N g_a
  have K := K.wr wr (Or.inl (List.mem_of_getElem? (i := 0) rfl))
  have E_a := E_a.wr wr
  have F_m_documents_a := F_m_documents_a.other wr (Or.inr (slot_ne (Or.inr (hw _ (List.mem_of_getElem? (i := 11) rfl))) (Or.inl (hw _ (List.mem_of_getElem? (i := 44) rfl))) (by decide) (t := (.array .int)) (t' := .int) (by decide) (by decide)))
  have F_m_frequencies_a := F_m_frequencies_a.other wr (Or.inr (slot_ne (Or.inr (hw _ (List.mem_of_getElem? (i := 13) rfl))) (Or.inl (hw _ (List.mem_of_getElem? (i := 44) rfl))) (by decide) (t := (.array .int)) (t' := .int) (by decide) (by decide)))
  have F_m_lengths_a := F_m_lengths_a.other wr (Or.inr (slot_ne (Or.inr (hw _ (List.mem_of_getElem? (i := 15) rfl))) (Or.inl (hw _ (List.mem_of_getElem? (i := 44) rfl))) (by decide) (t := (.array .int)) (t' := .int) (by decide) (by decide)))
  have F_m_count_a := F_m_count_a.same wr
  have F_m_blocked_a := F_m_blocked_a.other wr (Or.inr (slot_ne (Or.inl (hw _ (List.mem_of_getElem? (i := 46) rfl))) (Or.inl (hw _ (List.mem_of_getElem? (i := 44) rfl))) (by decide) (t := .boolean) (t' := .int) (by decide) (by decide)))
  have F_m_last_a := F_m_last_a.other wr (Or.inr (slot_ne (Or.inl (hw _ (List.mem_of_getElem? (i := 48) rfl))) (Or.inl (hw _ (List.mem_of_getElem? (i := 44) rfl))) (by decide) (t := .int) (t' := .int) (by decide) (by decide)))
  have F_m_base_a := F_m_base_a.other wr (Or.inr (slot_ne (Or.inl (hw _ (List.mem_of_getElem? (i := 50) rfl))) (Or.inl (hw _ (List.mem_of_getElem? (i := 44) rfl))) (by decide) (t := .int) (t' := .int) (by decide) (by decide)))
  have F_m_keepsEntry_a := F_m_keepsEntry_a.other wr (Or.inr (slot_ne (Or.inl (hw _ (List.mem_of_getElem? (i := 52) rfl))) (Or.inl (hw _ (List.mem_of_getElem? (i := 44) rfl))) (by decide) (t := .boolean) (t' := .int) (by decide) (by decide)))
  have F_m_entry_a := F_m_entry_a.other wr (Or.inr (slot_ne (Or.inl (hw _ (List.mem_of_getElem? (i := 55) rfl))) (Or.inl (hw _ (List.mem_of_getElem? (i := 44) rfl))) (by decide) (t := .long) (t' := .int) (by decide) (by decide)))
  have F_m_entryBefore_a := F_m_entryBefore_a.other wr (Or.inr (slot_ne (Or.inl (hw _ (List.mem_of_getElem? (i := 57) rfl))) (Or.inl (hw _ (List.mem_of_getElem? (i := 44) rfl))) (by decide) (t := .long) (t' := .int) (by decide) (by decide)))
  have V_d := V_d.other wr (Ne.symm ne_a_d)
  have V_f := V_f.other wr (Ne.symm ne_a_f)
  have V_g := V_g.other wr (Ne.symm ne_a_g)
  show Go p e below s _ _ T (mkF m 5 #[.val (.ref a), .val (.int kz)] [])
  refine Go.of (fun _ kq => XS.aloadN X.here hx rfl (hb hby d4_5) rfl rfl kq) ?_
  show Go p e below s _ _ T (mkF m 6 #[.val (.ref a), .val (.int kz)] [(.ref a)])
  refine Go.of (fun _ kq => XS.iconst X.here hx rfl (hb hby d4_6) kq) ?_
  show Go p e below s _ _ T (mkF m 7 #[.val (.ref a), .val (.int kz)] [(.int (0 : Int32)), (.ref a)])
  refine Go.putFN X hx hZ hown (hw _ (List.mem_of_getElem? (i := 45) rfl)) Via.refl eT F_m_blocked_a E_a (Or.inl (hw _ (List.mem_of_getElem? (i := 46) rfl))) (hw _ (List.mem_of_getElem? (i := 1) rfl)) (ty := .boolean) (by decide) rfl (fits_nar_bool _) (hb hby d4_7) ?_
  intro T h X eT wr
  have N := Fr.snoc X N g_a
  have K := K.wr wr (Or.inl (List.mem_of_getElem? (i := 0) rfl))
  have E_a := E_a.wr wr
  have F_m_documents_a := F_m_documents_a.other wr (Or.inr (slot_ne (Or.inr (hw _ (List.mem_of_getElem? (i := 11) rfl))) (Or.inl (hw _ (List.mem_of_getElem? (i := 46) rfl))) (by decide) (t := (.array .int)) (t' := .boolean) (by decide) (by decide)))
  have F_m_frequencies_a := F_m_frequencies_a.other wr (Or.inr (slot_ne (Or.inr (hw _ (List.mem_of_getElem? (i := 13) rfl))) (Or.inl (hw _ (List.mem_of_getElem? (i := 46) rfl))) (by decide) (t := (.array .int)) (t' := .boolean) (by decide) (by decide)))
  have F_m_lengths_a := F_m_lengths_a.other wr (Or.inr (slot_ne (Or.inr (hw _ (List.mem_of_getElem? (i := 15) rfl))) (Or.inl (hw _ (List.mem_of_getElem? (i := 46) rfl))) (by decide) (t := (.array .int)) (t' := .boolean) (by decide) (by decide)))
  have F_m_count_a := F_m_count_a.other wr (Or.inr (slot_ne (Or.inl (hw _ (List.mem_of_getElem? (i := 44) rfl))) (Or.inl (hw _ (List.mem_of_getElem? (i := 46) rfl))) (by decide) (t := .int) (t' := .boolean) (by decide) (by decide)))
  have F_m_blocked_a := F_m_blocked_a.same wr
  have F_m_last_a := F_m_last_a.other wr (Or.inr (slot_ne (Or.inl (hw _ (List.mem_of_getElem? (i := 48) rfl))) (Or.inl (hw _ (List.mem_of_getElem? (i := 46) rfl))) (by decide) (t := .int) (t' := .boolean) (by decide) (by decide)))
  have F_m_base_a := F_m_base_a.other wr (Or.inr (slot_ne (Or.inl (hw _ (List.mem_of_getElem? (i := 50) rfl))) (Or.inl (hw _ (List.mem_of_getElem? (i := 46) rfl))) (by decide) (t := .int) (t' := .boolean) (by decide) (by decide)))
  have F_m_keepsEntry_a := F_m_keepsEntry_a.other wr (Or.inr (slot_ne (Or.inl (hw _ (List.mem_of_getElem? (i := 52) rfl))) (Or.inl (hw _ (List.mem_of_getElem? (i := 46) rfl))) (by decide) (t := .boolean) (t' := .boolean) (by decide) (by decide)))
  have F_m_entry_a := F_m_entry_a.other wr (Or.inr (slot_ne (Or.inl (hw _ (List.mem_of_getElem? (i := 55) rfl))) (Or.inl (hw _ (List.mem_of_getElem? (i := 46) rfl))) (by decide) (t := .long) (t' := .boolean) (by decide) (by decide)))
  have F_m_entryBefore_a := F_m_entryBefore_a.other wr (Or.inr (slot_ne (Or.inl (hw _ (List.mem_of_getElem? (i := 57) rfl))) (Or.inl (hw _ (List.mem_of_getElem? (i := 46) rfl))) (by decide) (t := .long) (t' := .boolean) (by decide) (by decide)))
  have V_d := V_d.other wr (Ne.symm ne_a_d)
  have V_f := V_f.other wr (Ne.symm ne_a_f)
  have V_g := V_g.other wr (Ne.symm ne_a_g)
  show Go p e below s _ _ T (mkF m 10 #[.val (.ref a), .val (.int kz)] [])
  refine Go.of (fun _ kq => XS.aloadN X.here hx rfl (hb hby d4_10) rfl rfl kq) ?_
  show Go p e below s _ _ T (mkF m 11 #[.val (.ref a), .val (.int kz)] [(.ref a)])
  refine Go.of (fun _ kq => XS.iconst X.here hx rfl (hb hby d4_11) kq) ?_
  show Go p e below s _ _ T (mkF m 12 #[.val (.ref a), .val (.int kz)] [(.int (-1 : Int32)), (.ref a)])
  refine Go.putF X hx hZ hown (hw _ (List.mem_of_getElem? (i := 47) rfl)) Via.refl eT F_m_last_a E_a (Or.inl (hw _ (List.mem_of_getElem? (i := 48) rfl))) (hw _ (List.mem_of_getElem? (i := 1) rfl)) (ty := .int) (by decide) rfl rfl (hb hby d4_12) ?_
  intro T h X eT wr
  have N := Fr.snoc X N g_a
  have K := K.wr wr (Or.inl (List.mem_of_getElem? (i := 0) rfl))
  have E_a := E_a.wr wr
  have F_m_documents_a := F_m_documents_a.other wr (Or.inr (slot_ne (Or.inr (hw _ (List.mem_of_getElem? (i := 11) rfl))) (Or.inl (hw _ (List.mem_of_getElem? (i := 48) rfl))) (by decide) (t := (.array .int)) (t' := .int) (by decide) (by decide)))
  have F_m_frequencies_a := F_m_frequencies_a.other wr (Or.inr (slot_ne (Or.inr (hw _ (List.mem_of_getElem? (i := 13) rfl))) (Or.inl (hw _ (List.mem_of_getElem? (i := 48) rfl))) (by decide) (t := (.array .int)) (t' := .int) (by decide) (by decide)))
  have F_m_lengths_a := F_m_lengths_a.other wr (Or.inr (slot_ne (Or.inr (hw _ (List.mem_of_getElem? (i := 15) rfl))) (Or.inl (hw _ (List.mem_of_getElem? (i := 48) rfl))) (by decide) (t := (.array .int)) (t' := .int) (by decide) (by decide)))
  have F_m_count_a := F_m_count_a.other wr (Or.inr (slot_ne (Or.inl (hw _ (List.mem_of_getElem? (i := 44) rfl))) (Or.inl (hw _ (List.mem_of_getElem? (i := 48) rfl))) (by decide) (t := .int) (t' := .int) (by decide) (by decide)))
  have F_m_blocked_a := F_m_blocked_a.other wr (Or.inr (slot_ne (Or.inl (hw _ (List.mem_of_getElem? (i := 46) rfl))) (Or.inl (hw _ (List.mem_of_getElem? (i := 48) rfl))) (by decide) (t := .boolean) (t' := .int) (by decide) (by decide)))
  have F_m_last_a := F_m_last_a.same wr
  have F_m_base_a := F_m_base_a.other wr (Or.inr (slot_ne (Or.inl (hw _ (List.mem_of_getElem? (i := 50) rfl))) (Or.inl (hw _ (List.mem_of_getElem? (i := 48) rfl))) (by decide) (t := .int) (t' := .int) (by decide) (by decide)))
  have F_m_keepsEntry_a := F_m_keepsEntry_a.other wr (Or.inr (slot_ne (Or.inl (hw _ (List.mem_of_getElem? (i := 52) rfl))) (Or.inl (hw _ (List.mem_of_getElem? (i := 48) rfl))) (by decide) (t := .boolean) (t' := .int) (by decide) (by decide)))
  have F_m_entry_a := F_m_entry_a.other wr (Or.inr (slot_ne (Or.inl (hw _ (List.mem_of_getElem? (i := 55) rfl))) (Or.inl (hw _ (List.mem_of_getElem? (i := 48) rfl))) (by decide) (t := .long) (t' := .int) (by decide) (by decide)))
  have F_m_entryBefore_a := F_m_entryBefore_a.other wr (Or.inr (slot_ne (Or.inl (hw _ (List.mem_of_getElem? (i := 57) rfl))) (Or.inl (hw _ (List.mem_of_getElem? (i := 48) rfl))) (by decide) (t := .long) (t' := .int) (by decide) (by decide)))
  have V_d := V_d.other wr (Ne.symm ne_a_d)
  have V_f := V_f.other wr (Ne.symm ne_a_f)
  have V_g := V_g.other wr (Ne.symm ne_a_g)
  show Go p e below s _ _ T (mkF m 15 #[.val (.ref a), .val (.int kz)] [])
  refine Go.of (fun _ kq => XS.aloadN X.here hx rfl (hb hby d4_15) rfl rfl kq) ?_
  show Go p e below s _ _ T (mkF m 16 #[.val (.ref a), .val (.int kz)] [(.ref a)])
  refine Go.of (fun _ kq => XS.iconst X.here hx rfl (hb hby d4_16) kq) ?_
  show Go p e below s _ _ T (mkF m 17 #[.val (.ref a), .val (.int kz)] [(.int (-1 : Int32)), (.ref a)])
  refine Go.putF X hx hZ hown (hw _ (List.mem_of_getElem? (i := 49) rfl)) Via.refl eT F_m_base_a E_a (Or.inl (hw _ (List.mem_of_getElem? (i := 50) rfl))) (hw _ (List.mem_of_getElem? (i := 1) rfl)) (ty := .int) (by decide) rfl rfl (hb hby d4_17) ?_
  intro T h X eT wr
  have N := Fr.snoc X N g_a
  have K := K.wr wr (Or.inl (List.mem_of_getElem? (i := 0) rfl))
  have E_a := E_a.wr wr
  have F_m_documents_a := F_m_documents_a.other wr (Or.inr (slot_ne (Or.inr (hw _ (List.mem_of_getElem? (i := 11) rfl))) (Or.inl (hw _ (List.mem_of_getElem? (i := 50) rfl))) (by decide) (t := (.array .int)) (t' := .int) (by decide) (by decide)))
  have F_m_frequencies_a := F_m_frequencies_a.other wr (Or.inr (slot_ne (Or.inr (hw _ (List.mem_of_getElem? (i := 13) rfl))) (Or.inl (hw _ (List.mem_of_getElem? (i := 50) rfl))) (by decide) (t := (.array .int)) (t' := .int) (by decide) (by decide)))
  have F_m_lengths_a := F_m_lengths_a.other wr (Or.inr (slot_ne (Or.inr (hw _ (List.mem_of_getElem? (i := 15) rfl))) (Or.inl (hw _ (List.mem_of_getElem? (i := 50) rfl))) (by decide) (t := (.array .int)) (t' := .int) (by decide) (by decide)))
  have F_m_count_a := F_m_count_a.other wr (Or.inr (slot_ne (Or.inl (hw _ (List.mem_of_getElem? (i := 44) rfl))) (Or.inl (hw _ (List.mem_of_getElem? (i := 50) rfl))) (by decide) (t := .int) (t' := .int) (by decide) (by decide)))
  have F_m_blocked_a := F_m_blocked_a.other wr (Or.inr (slot_ne (Or.inl (hw _ (List.mem_of_getElem? (i := 46) rfl))) (Or.inl (hw _ (List.mem_of_getElem? (i := 50) rfl))) (by decide) (t := .boolean) (t' := .int) (by decide) (by decide)))
  have F_m_last_a := F_m_last_a.other wr (Or.inr (slot_ne (Or.inl (hw _ (List.mem_of_getElem? (i := 48) rfl))) (Or.inl (hw _ (List.mem_of_getElem? (i := 50) rfl))) (by decide) (t := .int) (t' := .int) (by decide) (by decide)))
  have F_m_base_a := F_m_base_a.same wr
  have F_m_keepsEntry_a := F_m_keepsEntry_a.other wr (Or.inr (slot_ne (Or.inl (hw _ (List.mem_of_getElem? (i := 52) rfl))) (Or.inl (hw _ (List.mem_of_getElem? (i := 50) rfl))) (by decide) (t := .boolean) (t' := .int) (by decide) (by decide)))
  have F_m_entry_a := F_m_entry_a.other wr (Or.inr (slot_ne (Or.inl (hw _ (List.mem_of_getElem? (i := 55) rfl))) (Or.inl (hw _ (List.mem_of_getElem? (i := 50) rfl))) (by decide) (t := .long) (t' := .int) (by decide) (by decide)))
  have F_m_entryBefore_a := F_m_entryBefore_a.other wr (Or.inr (slot_ne (Or.inl (hw _ (List.mem_of_getElem? (i := 57) rfl))) (Or.inl (hw _ (List.mem_of_getElem? (i := 50) rfl))) (by decide) (t := .long) (t' := .int) (by decide) (by decide)))
  have V_d := V_d.other wr (Ne.symm ne_a_d)
  have V_f := V_f.other wr (Ne.symm ne_a_f)
  have V_g := V_g.other wr (Ne.symm ne_a_g)
  show Go p e below s _ _ T (mkF m 20 #[.val (.ref a), .val (.int kz)] [])
  refine Go.of (fun _ kq => XS.aloadN X.here hx rfl (hb hby d4_20) rfl rfl kq) ?_
  show Go p e below s _ _ T (mkF m 21 #[.val (.ref a), .val (.int kz)] [(.ref a)])
  refine Go.of (fun _ kq => XS.iloadN X.here hx rfl (hb hby d4_21) rfl kq) ?_
  show Go p e below s _ _ T (mkF m 22 #[.val (.ref a), .val (.int kz)] [(.int kz), (.ref a)])
  refine Go.putFN X hx hZ hown (hw _ (List.mem_of_getElem? (i := 51) rfl)) Via.refl eT F_m_keepsEntry_a E_a (Or.inl (hw _ (List.mem_of_getElem? (i := 52) rfl))) (hw _ (List.mem_of_getElem? (i := 1) rfl)) (ty := .boolean) (by decide) rfl (fits_nar_bool _) (hb hby d4_22) ?_
  intro T h X eT wr
  have N := Fr.snoc X N g_a
  have K := K.wr wr (Or.inl (List.mem_of_getElem? (i := 0) rfl))
  have E_a := E_a.wr wr
  have F_m_documents_a := F_m_documents_a.other wr (Or.inr (slot_ne (Or.inr (hw _ (List.mem_of_getElem? (i := 11) rfl))) (Or.inl (hw _ (List.mem_of_getElem? (i := 52) rfl))) (by decide) (t := (.array .int)) (t' := .boolean) (by decide) (by decide)))
  have F_m_frequencies_a := F_m_frequencies_a.other wr (Or.inr (slot_ne (Or.inr (hw _ (List.mem_of_getElem? (i := 13) rfl))) (Or.inl (hw _ (List.mem_of_getElem? (i := 52) rfl))) (by decide) (t := (.array .int)) (t' := .boolean) (by decide) (by decide)))
  have F_m_lengths_a := F_m_lengths_a.other wr (Or.inr (slot_ne (Or.inr (hw _ (List.mem_of_getElem? (i := 15) rfl))) (Or.inl (hw _ (List.mem_of_getElem? (i := 52) rfl))) (by decide) (t := (.array .int)) (t' := .boolean) (by decide) (by decide)))
  have F_m_count_a := F_m_count_a.other wr (Or.inr (slot_ne (Or.inl (hw _ (List.mem_of_getElem? (i := 44) rfl))) (Or.inl (hw _ (List.mem_of_getElem? (i := 52) rfl))) (by decide) (t := .int) (t' := .boolean) (by decide) (by decide)))
  have F_m_blocked_a := F_m_blocked_a.other wr (Or.inr (slot_ne (Or.inl (hw _ (List.mem_of_getElem? (i := 46) rfl))) (Or.inl (hw _ (List.mem_of_getElem? (i := 52) rfl))) (by decide) (t := .boolean) (t' := .boolean) (by decide) (by decide)))
  have F_m_last_a := F_m_last_a.other wr (Or.inr (slot_ne (Or.inl (hw _ (List.mem_of_getElem? (i := 48) rfl))) (Or.inl (hw _ (List.mem_of_getElem? (i := 52) rfl))) (by decide) (t := .int) (t' := .boolean) (by decide) (by decide)))
  have F_m_base_a := F_m_base_a.other wr (Or.inr (slot_ne (Or.inl (hw _ (List.mem_of_getElem? (i := 50) rfl))) (Or.inl (hw _ (List.mem_of_getElem? (i := 52) rfl))) (by decide) (t := .int) (t' := .boolean) (by decide) (by decide)))
  have F_m_keepsEntry_a := F_m_keepsEntry_a.same wr
  have F_m_entry_a := F_m_entry_a.other wr (Or.inr (slot_ne (Or.inl (hw _ (List.mem_of_getElem? (i := 55) rfl))) (Or.inl (hw _ (List.mem_of_getElem? (i := 52) rfl))) (by decide) (t := .long) (t' := .boolean) (by decide) (by decide)))
  have F_m_entryBefore_a := F_m_entryBefore_a.other wr (Or.inr (slot_ne (Or.inl (hw _ (List.mem_of_getElem? (i := 57) rfl))) (Or.inl (hw _ (List.mem_of_getElem? (i := 52) rfl))) (by decide) (t := .long) (t' := .boolean) (by decide) (by decide)))
  have V_d := V_d.other wr (Ne.symm ne_a_d)
  have V_f := V_f.other wr (Ne.symm ne_a_f)
  have V_g := V_g.other wr (Ne.symm ne_a_g)
  show Go p e below s _ _ T (mkF m 25 #[.val (.ref a), .val (.int kz)] [])
  refine Go.of (fun _ kq => XS.aloadN X.here hx rfl (hb hby d4_25) rfl rfl kq) ?_
  show Go p e below s _ _ T (mkF m 26 #[.val (.ref a), .val (.int kz)] [(.ref a)])
  refine Go.of (X.ldc2Long hx hown (mvT hZ (hw _ (List.mem_of_getElem? (i := 53) rfl))) (g := (mkF m 26 #[.val (.ref a), .val (.int kz)] [(.ref a)])) rfl (hb hby d4_26)) ?_
  show Go p e below s _ _ T (mkF m 29 #[.val (.ref a), .val (.int kz)] [(.long (-1 : Int64)), (.ref a)])
  refine Go.putF X hx hZ hown (hw _ (List.mem_of_getElem? (i := 54) rfl)) Via.refl eT F_m_entry_a E_a (Or.inl (hw _ (List.mem_of_getElem? (i := 55) rfl))) (hw _ (List.mem_of_getElem? (i := 1) rfl)) (ty := .long) (by decide) rfl rfl (hb hby d4_29) ?_
  intro T h X eT wr
  have N := Fr.snoc X N g_a
  have K := K.wr wr (Or.inl (List.mem_of_getElem? (i := 0) rfl))
  have E_a := E_a.wr wr
  have F_m_documents_a := F_m_documents_a.other wr (Or.inr (slot_ne (Or.inr (hw _ (List.mem_of_getElem? (i := 11) rfl))) (Or.inl (hw _ (List.mem_of_getElem? (i := 55) rfl))) (by decide) (t := (.array .int)) (t' := .long) (by decide) (by decide)))
  have F_m_frequencies_a := F_m_frequencies_a.other wr (Or.inr (slot_ne (Or.inr (hw _ (List.mem_of_getElem? (i := 13) rfl))) (Or.inl (hw _ (List.mem_of_getElem? (i := 55) rfl))) (by decide) (t := (.array .int)) (t' := .long) (by decide) (by decide)))
  have F_m_lengths_a := F_m_lengths_a.other wr (Or.inr (slot_ne (Or.inr (hw _ (List.mem_of_getElem? (i := 15) rfl))) (Or.inl (hw _ (List.mem_of_getElem? (i := 55) rfl))) (by decide) (t := (.array .int)) (t' := .long) (by decide) (by decide)))
  have F_m_count_a := F_m_count_a.other wr (Or.inr (slot_ne (Or.inl (hw _ (List.mem_of_getElem? (i := 44) rfl))) (Or.inl (hw _ (List.mem_of_getElem? (i := 55) rfl))) (by decide) (t := .int) (t' := .long) (by decide) (by decide)))
  have F_m_blocked_a := F_m_blocked_a.other wr (Or.inr (slot_ne (Or.inl (hw _ (List.mem_of_getElem? (i := 46) rfl))) (Or.inl (hw _ (List.mem_of_getElem? (i := 55) rfl))) (by decide) (t := .boolean) (t' := .long) (by decide) (by decide)))
  have F_m_last_a := F_m_last_a.other wr (Or.inr (slot_ne (Or.inl (hw _ (List.mem_of_getElem? (i := 48) rfl))) (Or.inl (hw _ (List.mem_of_getElem? (i := 55) rfl))) (by decide) (t := .int) (t' := .long) (by decide) (by decide)))
  have F_m_base_a := F_m_base_a.other wr (Or.inr (slot_ne (Or.inl (hw _ (List.mem_of_getElem? (i := 50) rfl))) (Or.inl (hw _ (List.mem_of_getElem? (i := 55) rfl))) (by decide) (t := .int) (t' := .long) (by decide) (by decide)))
  have F_m_keepsEntry_a := F_m_keepsEntry_a.other wr (Or.inr (slot_ne (Or.inl (hw _ (List.mem_of_getElem? (i := 52) rfl))) (Or.inl (hw _ (List.mem_of_getElem? (i := 55) rfl))) (by decide) (t := .boolean) (t' := .long) (by decide) (by decide)))
  have F_m_entry_a := F_m_entry_a.same wr
  have F_m_entryBefore_a := F_m_entryBefore_a.other wr (Or.inr (slot_ne (Or.inl (hw _ (List.mem_of_getElem? (i := 57) rfl))) (Or.inl (hw _ (List.mem_of_getElem? (i := 55) rfl))) (by decide) (t := .long) (t' := .long) (by decide) (by decide)))
  have V_d := V_d.other wr (Ne.symm ne_a_d)
  have V_f := V_f.other wr (Ne.symm ne_a_f)
  have V_g := V_g.other wr (Ne.symm ne_a_g)
  show Go p e below s _ _ T (mkF m 32 #[.val (.ref a), .val (.int kz)] [])
  refine Go.of (fun _ kq => XS.aloadN X.here hx rfl (hb hby d4_32) rfl rfl kq) ?_
  show Go p e below s _ _ T (mkF m 33 #[.val (.ref a), .val (.int kz)] [(.ref a)])
  refine Go.of (fun _ kq => XS.lconst X.here hx rfl (hb hby d4_33) kq) ?_
  show Go p e below s _ _ T (mkF m 34 #[.val (.ref a), .val (.int kz)] [(.long (0 : Int64)), (.ref a)])
  refine Go.putF X hx hZ hown (hw _ (List.mem_of_getElem? (i := 56) rfl)) Via.refl eT F_m_entryBefore_a E_a (Or.inl (hw _ (List.mem_of_getElem? (i := 57) rfl))) (hw _ (List.mem_of_getElem? (i := 1) rfl)) (ty := .long) (by decide) rfl rfl (hb hby d4_34) ?_
  intro T h X eT wr
  have N := Fr.snoc X N g_a
  have K := K.wr wr (Or.inl (List.mem_of_getElem? (i := 0) rfl))
  have E_a := E_a.wr wr
  have F_m_documents_a := F_m_documents_a.other wr (Or.inr (slot_ne (Or.inr (hw _ (List.mem_of_getElem? (i := 11) rfl))) (Or.inl (hw _ (List.mem_of_getElem? (i := 57) rfl))) (by decide) (t := (.array .int)) (t' := .long) (by decide) (by decide)))
  have F_m_frequencies_a := F_m_frequencies_a.other wr (Or.inr (slot_ne (Or.inr (hw _ (List.mem_of_getElem? (i := 13) rfl))) (Or.inl (hw _ (List.mem_of_getElem? (i := 57) rfl))) (by decide) (t := (.array .int)) (t' := .long) (by decide) (by decide)))
  have F_m_lengths_a := F_m_lengths_a.other wr (Or.inr (slot_ne (Or.inr (hw _ (List.mem_of_getElem? (i := 15) rfl))) (Or.inl (hw _ (List.mem_of_getElem? (i := 57) rfl))) (by decide) (t := (.array .int)) (t' := .long) (by decide) (by decide)))
  have F_m_count_a := F_m_count_a.other wr (Or.inr (slot_ne (Or.inl (hw _ (List.mem_of_getElem? (i := 44) rfl))) (Or.inl (hw _ (List.mem_of_getElem? (i := 57) rfl))) (by decide) (t := .int) (t' := .long) (by decide) (by decide)))
  have F_m_blocked_a := F_m_blocked_a.other wr (Or.inr (slot_ne (Or.inl (hw _ (List.mem_of_getElem? (i := 46) rfl))) (Or.inl (hw _ (List.mem_of_getElem? (i := 57) rfl))) (by decide) (t := .boolean) (t' := .long) (by decide) (by decide)))
  have F_m_last_a := F_m_last_a.other wr (Or.inr (slot_ne (Or.inl (hw _ (List.mem_of_getElem? (i := 48) rfl))) (Or.inl (hw _ (List.mem_of_getElem? (i := 57) rfl))) (by decide) (t := .int) (t' := .long) (by decide) (by decide)))
  have F_m_base_a := F_m_base_a.other wr (Or.inr (slot_ne (Or.inl (hw _ (List.mem_of_getElem? (i := 50) rfl))) (Or.inl (hw _ (List.mem_of_getElem? (i := 57) rfl))) (by decide) (t := .int) (t' := .long) (by decide) (by decide)))
  have F_m_keepsEntry_a := F_m_keepsEntry_a.other wr (Or.inr (slot_ne (Or.inl (hw _ (List.mem_of_getElem? (i := 52) rfl))) (Or.inl (hw _ (List.mem_of_getElem? (i := 57) rfl))) (by decide) (t := .boolean) (t' := .long) (by decide) (by decide)))
  have F_m_entry_a := F_m_entry_a.other wr (Or.inr (slot_ne (Or.inl (hw _ (List.mem_of_getElem? (i := 55) rfl))) (Or.inl (hw _ (List.mem_of_getElem? (i := 57) rfl))) (by decide) (t := .long) (t' := .long) (by decide) (by decide)))
  have F_m_entryBefore_a := F_m_entryBefore_a.same wr
  have V_d := V_d.other wr (Ne.symm ne_a_d)
  have V_f := V_f.other wr (Ne.symm ne_a_f)
  have V_g := V_g.other wr (Ne.symm ne_a_g)
  show Go p e below s _ _ T (mkF m 37 #[.val (.ref a), .val (.int kz)] [])
  refine Go.retV X hx hret hlk (hb hby d4_37) (by decide) (by decide) ?_
  try rw [eT]
  exact ⟨rfl, N, K, _, _, _, _, F_m_documents_a, F_m_frequencies_a, F_m_lengths_a, F_m_count_a, F_m_blocked_a, F_m_last_a, F_m_base_a, F_m_keepsEntry_a, F_m_entry_a, F_m_entryBefore_a, V_d, V_f, V_g⟩
theorem d6_0 : decode prog_162_method_5_code 0 = .ok (.aload_n 0, 1) := by decide +kernel
theorem d6_1 : decode prog_162_method_5_code 1 = .ok (.getfield 36, 3) := by decide +kernel
theorem d6_4 : decode prog_162_method_5_code 4 = .ok (.sipush 128, 3) := by decide +kernel
theorem d6_7 : decode prog_162_method_5_code 7 = .ok (.if_icmp .ne 7, 3) := by decide +kernel
theorem d6_10 : decode prog_162_method_5_code 10 = .ok (.iconst 1, 1) := by decide +kernel
theorem d6_11 : decode prog_162_method_5_code 11 = .ok (.goto 4, 3) := by decide +kernel
theorem d6_14 : decode prog_162_method_5_code 14 = .ok (.iconst 0, 1) := by decide +kernel
theorem d6_15 : decode prog_162_method_5_code 15 = .ok (.ireturn, 1) := by decide +kernel
theorem pn6 : plainFor (⟨"org/segmentry/segment/TermBlocks", "isFull", "()Z"⟩ : MethodName) = true := plainFor_of_name (by first | (simp [plainName, overriddenIn]; done) | decide +kernel)
theorem ef_rmFull (m : MethodId) (x0 : Addr) : entryFrame m #[(.ref x0)] 1 = mkF m 0 #[.val (.ref x0)] [] := by first | (simp [entryFrame, mkF, argsToLocals, Value.category]; done) | rfl
set_option maxRecDepth 65536 in
set_option maxHeartbeats 40000000 in
theorem rmFull {l : Launch} {Z : State} {a0 : Array Value} (hw : ∀ d ∈ tables_1, d.before a0 Z = true) (a : Addr) (c0 : Int32) (h0 : Heap) (n0 : Nat) (F_m_count_a : Fld Z h0 a "org/segmentry/segment/TermBlocks" "m_count" "I" (.int c0)) :
    Met l Z (⟨"org/segmentry/segment/TermBlocks", "isFull", "()Z"⟩ : MethodName) prog_162_method_5_code 1 (some .boolean) [] ({ frames := 0, cells := 0, slots := 0, locals := 0 } : Room) #[(.ref a)] h0 (fun v h L => v = some (.int (own_full c0)) ∧ Fr n0 L ∧ h = h0) := by
  refine Met.mk pn6 ?_
  intro p e s m below meth c T hx hby hml hown hnm hret hlk hZ X eT
  refine Go.cast (ef_rmFull m a) ?_
  have N := Fr.nil n0
  show Go p e below s _ _ T (mkF m 0 #[.val (.ref a)] [])
  refine Go.of (fun _ kq => XS.aloadN X.here hx rfl (hb hby d6_0) rfl rfl kq) ?_
  show Go p e below s _ _ T (mkF m 1 #[.val (.ref a)] [(.ref a)])
  refine Go.getF X hx hZ hown (hw _ (List.mem_of_getElem? (i := 43) rfl)) Via.refl eT F_m_count_a (hb hby d6_1) ?_
  intro T X eT
  show Go p e below s _ _ T (mkF m 4 #[.val (.ref a)] [(.int c0)])
  refine Go.of (fun _ kq => XS.sipush X.here hx rfl (hb hby d6_4) kq) ?_
  show Go p e below s _ _ T (mkF m 7 #[.val (.ref a)] [(.int (128 : Int32)), (.int c0)])
  by_cases hc7 : c0 = (128 : Int32)
  · refine Go.of (fun _ kq => XS.icmpNo X.here hx rfl (hb hby d6_7) rfl (teq hc7).2 kq) ?_
    show Go p e below s _ _ T (mkF m 10 #[.val (.ref a)] [])
    refine Go.of (fun _ kq => XS.iconst X.here hx rfl (hb hby d6_10) kq) ?_
    show Go p e below s _ _ T (mkF m 11 #[.val (.ref a)] [(.int (1 : Int32))])
    refine Go.of (fun _ kq => XS.goto X.here hx rfl (pc0 := 11) (pc' := 15) rfl (hb hby d6_11) (by decide) (by decide) kq) ?_
    show Go p e below s _ _ T (mkF m 15 #[.val (.ref a)] [(.int (1 : Int32))])
    refine Go.retN X hx hret (by simp) hlk (hb hby d6_15) (by decide) (by decide) ?_
    try rw [eT]
    exact ⟨by rw [show own_full c0 = (1 : Int32) by simp [own_full, hc7]]; rfl, N, rfl⟩
  · refine Go.of (fun _ kq => XS.icmpYes X.here hx rfl (pc0 := 7) (pc' := 14) rfl (hb hby d6_7) rfl (feq hc7).2 (by decide) (by decide) kq) ?_
    show Go p e below s _ _ T (mkF m 14 #[.val (.ref a)] [])
    refine Go.of (fun _ kq => XS.iconst X.here hx rfl (hb hby d6_14) kq) ?_
    show Go p e below s _ _ T (mkF m 15 #[.val (.ref a)] [(.int (0 : Int32))])
    refine Go.retN X hx hret (by simp) hlk (hb hby d6_15) (by decide) (by decide) ?_
    try rw [eT]
    exact ⟨by rw [show own_full c0 = (0 : Int32) by simp [own_full, hc7]]; rfl, N, rfl⟩
theorem d7_0 : decode prog_162_method_6_code 0 = .ok (.aload_n 0, 1) := by decide +kernel
theorem d7_1 : decode prog_162_method_6_code 1 = .ok (.getfield 36, 3) := by decide +kernel
theorem d7_4 : decode prog_162_method_6_code 4 = .ok (.ifCond .le 7, 3) := by decide +kernel
theorem d7_7 : decode prog_162_method_6_code 7 = .ok (.iconst 1, 1) := by decide +kernel
theorem d7_8 : decode prog_162_method_6_code 8 = .ok (.goto 4, 3) := by decide +kernel
theorem d7_11 : decode prog_162_method_6_code 11 = .ok (.iconst 0, 1) := by decide +kernel
theorem d7_12 : decode prog_162_method_6_code 12 = .ok (.ireturn, 1) := by decide +kernel
theorem pn7 : plainFor (⟨"org/segmentry/segment/TermBlocks", "holdsPostings", "()Z"⟩ : MethodName) = true := plainFor_of_name (by first | (simp [plainName, overriddenIn]; done) | decide +kernel)
theorem ef_rmHolds (m : MethodId) (x0 : Addr) : entryFrame m #[(.ref x0)] 1 = mkF m 0 #[.val (.ref x0)] [] := by first | (simp [entryFrame, mkF, argsToLocals, Value.category]; done) | rfl
set_option maxRecDepth 65536 in
set_option maxHeartbeats 40000000 in
theorem rmHolds {l : Launch} {Z : State} {a0 : Array Value} (hw : ∀ d ∈ tables_1, d.before a0 Z = true) (a : Addr) (c0 : Int32) (h0 : Heap) (n0 : Nat) (F_m_count_a : Fld Z h0 a "org/segmentry/segment/TermBlocks" "m_count" "I" (.int c0)) :
    Met l Z (⟨"org/segmentry/segment/TermBlocks", "holdsPostings", "()Z"⟩ : MethodName) prog_162_method_6_code 1 (some .boolean) [] ({ frames := 0, cells := 0, slots := 0, locals := 0 } : Room) #[(.ref a)] h0 (fun v h L => v = some (.int (own_holds c0)) ∧ Fr n0 L ∧ h = h0) := by
  refine Met.mk pn7 ?_
  intro p e s m below meth c T hx hby hml hown hnm hret hlk hZ X eT
  refine Go.cast (ef_rmHolds m a) ?_
  have N := Fr.nil n0
  show Go p e below s _ _ T (mkF m 0 #[.val (.ref a)] [])
  refine Go.of (fun _ kq => XS.aloadN X.here hx rfl (hb hby d7_0) rfl rfl kq) ?_
  show Go p e below s _ _ T (mkF m 1 #[.val (.ref a)] [(.ref a)])
  refine Go.getF X hx hZ hown (hw _ (List.mem_of_getElem? (i := 43) rfl)) Via.refl eT F_m_count_a (hb hby d7_1) ?_
  intro T X eT
  show Go p e below s _ _ T (mkF m 4 #[.val (.ref a)] [(.int c0)])
  by_cases hc4 : (0 : Int32) < c0
  · refine Go.of (fun _ kq => XS.ifNo X.here hx rfl (hb hby d7_4) rfl ((if0 _ _).trans (tlt hc4).2.2.2) kq) ?_
    show Go p e below s _ _ T (mkF m 7 #[.val (.ref a)] [])
    refine Go.of (fun _ kq => XS.iconst X.here hx rfl (hb hby d7_7) kq) ?_
    show Go p e below s _ _ T (mkF m 8 #[.val (.ref a)] [(.int (1 : Int32))])
    refine Go.of (fun _ kq => XS.goto X.here hx rfl (pc0 := 8) (pc' := 12) rfl (hb hby d7_8) (by decide) (by decide) kq) ?_
    show Go p e below s _ _ T (mkF m 12 #[.val (.ref a)] [(.int (1 : Int32))])
    refine Go.retN X hx hret (by simp) hlk (hb hby d7_12) (by decide) (by decide) ?_
    try rw [eT]
    exact ⟨by rw [show own_holds c0 = (1 : Int32) by simp [own_holds, hc4]]; rfl, N, rfl⟩
  · refine Go.of (fun _ kq => XS.ifYes X.here hx rfl (pc0 := 4) (pc' := 11) rfl (hb hby d7_4) rfl ((if0 _ _).trans (flt hc4).2.2.2) (by decide) (by decide) kq) ?_
    show Go p e below s _ _ T (mkF m 11 #[.val (.ref a)] [])
    refine Go.of (fun _ kq => XS.iconst X.here hx rfl (hb hby d7_11) kq) ?_
    show Go p e below s _ _ T (mkF m 12 #[.val (.ref a)] [(.int (0 : Int32))])
    refine Go.retN X hx hret (by simp) hlk (hb hby d7_12) (by decide) (by decide) ?_
    try rw [eT]
    exact ⟨by rw [show own_holds c0 = (0 : Int32) by simp [own_holds, hc4]]; rfl, N, rfl⟩
theorem d5_0 : decode prog_162_method_3_code 0 = .ok (.iload_n 1, 1) := by decide +kernel
theorem d5_1 : decode prog_162_method_3_code 1 = .ok (.aload_n 0, 1) := by decide +kernel
theorem d5_2 : decode prog_162_method_3_code 2 = .ok (.getfield 44, 3) := by decide +kernel
theorem d5_5 : decode prog_162_method_3_code 5 = .ok (.if_icmp .gt 17, 3) := by decide +kernel
theorem d5_22 : decode prog_162_method_3_code 22 = .ok (.aload_n 0, 1) := by decide +kernel
theorem d5_23 : decode prog_162_method_3_code 23 = .ok (.invokevirtual 71, 3) := by decide +kernel
theorem d5_26 : decode prog_162_method_3_code 26 = .ok (.ifCond .eq 13, 3) := by decide +kernel
theorem d5_39 : decode prog_162_method_3_code 39 = .ok (.aload_n 0, 1) := by decide +kernel
theorem d5_40 : decode prog_162_method_3_code 40 = .ok (.getfield 11, 3) := by decide +kernel
theorem d5_43 : decode prog_162_method_3_code 43 = .ok (.aload_n 0, 1) := by decide +kernel
theorem d5_44 : decode prog_162_method_3_code 44 = .ok (.getfield 36, 3) := by decide +kernel
theorem d5_47 : decode prog_162_method_3_code 47 = .ok (.iload_n 1, 1) := by decide +kernel
theorem d5_48 : decode prog_162_method_3_code 48 = .ok (.iastore, 1) := by decide +kernel
theorem d5_49 : decode prog_162_method_3_code 49 = .ok (.aload_n 0, 1) := by decide +kernel
theorem d5_50 : decode prog_162_method_3_code 50 = .ok (.getfield 17, 3) := by decide +kernel
theorem d5_53 : decode prog_162_method_3_code 53 = .ok (.aload_n 0, 1) := by decide +kernel
theorem d5_54 : decode prog_162_method_3_code 54 = .ok (.getfield 36, 3) := by decide +kernel
theorem d5_57 : decode prog_162_method_3_code 57 = .ok (.iload_n 2, 1) := by decide +kernel
theorem d5_58 : decode prog_162_method_3_code 58 = .ok (.iastore, 1) := by decide +kernel
theorem d5_59 : decode prog_162_method_3_code 59 = .ok (.aload_n 0, 1) := by decide +kernel
theorem d5_60 : decode prog_162_method_3_code 60 = .ok (.getfield 20, 3) := by decide +kernel
theorem d5_63 : decode prog_162_method_3_code 63 = .ok (.aload_n 0, 1) := by decide +kernel
theorem d5_64 : decode prog_162_method_3_code 64 = .ok (.getfield 36, 3) := by decide +kernel
theorem d5_67 : decode prog_162_method_3_code 67 = .ok (.iload_n 3, 1) := by decide +kernel
theorem d5_68 : decode prog_162_method_3_code 68 = .ok (.iastore, 1) := by decide +kernel
theorem d5_69 : decode prog_162_method_3_code 69 = .ok (.aload_n 0, 1) := by decide +kernel
theorem d5_70 : decode prog_162_method_3_code 70 = .ok (.dup, 1) := by decide +kernel
theorem d5_71 : decode prog_162_method_3_code 71 = .ok (.getfield 36, 3) := by decide +kernel
theorem d5_74 : decode prog_162_method_3_code 74 = .ok (.iconst 1, 1) := by decide +kernel
theorem d5_75 : decode prog_162_method_3_code 75 = .ok (.iadd, 1) := by decide +kernel
theorem d5_76 : decode prog_162_method_3_code 76 = .ok (.putfield 36, 3) := by decide +kernel
theorem d5_79 : decode prog_162_method_3_code 79 = .ok (.aload_n 0, 1) := by decide +kernel
theorem d5_80 : decode prog_162_method_3_code 80 = .ok (.iload_n 1, 1) := by decide +kernel
theorem d5_81 : decode prog_162_method_3_code 81 = .ok (.putfield 44, 3) := by decide +kernel
theorem d5_84 : decode prog_162_method_3_code 84 = .ok (.aload_n 0, 1) := by decide +kernel
theorem d5_85 : decode prog_162_method_3_code 85 = .ok (.getfield 36, 3) := by decide +kernel
theorem d5_88 : decode prog_162_method_3_code 88 = .ok (.sipush 128, 3) := by decide +kernel
theorem d5_91 : decode prog_162_method_3_code 91 = .ok (.if_icmp .ne 8, 3) := by decide +kernel
theorem d5_99 : decode prog_162_method_3_code 99 = .ok (.return_, 1) := by decide +kernel
theorem pn5 : plainFor (⟨"org/segmentry/segment/TermBlocks", "add", "(III)V"⟩ : MethodName) = true := plainFor_of_name (by first | (simp [plainName, overriddenIn]; done) | decide +kernel)
theorem ef_rmAdd (m : MethodId) (x0 : Addr) (x1 : Int32) (x2 : Int32) (x3 : Int32) : entryFrame m #[(.ref x0), (.int x1), (.int x2), (.int x3)] 4 = mkF m 0 #[.val (.ref x0), .val (.int x1), .val (.int x2), .val (.int x3)] [] := by first | (simp [entryFrame, mkF, argsToLocals, Value.category]; done) | rfl
set_option maxRecDepth 65536 in
set_option maxHeartbeats 40000000 in
theorem rmAdd {l : Launch} {Z : State} {a0 : Array Value} (hw : ∀ d ∈ tables_1, d.before a0 Z = true) (p1 p2 p3 : Int32) (a d f g : Addr) (c0 bl la ba ke : Int32) (en eb : Int64) (D Fq G : Nat → Int32) (h0 : Heap) (n0 : Nat) (g_a : n0 ≤ a) (g_d : n0 ≤ d) (g_f : n0 ≤ f) (g_g : n0 ≤ g) (ne_a_d : a ≠ d) (ne_a_f : a ≠ f) (ne_a_g : a ≠ g) (ne_d_f : d ≠ f) (ne_d_g : d ≠ g) (ne_f_g : f ≠ g) (hla : la < p1) (hcI : Inb c0 100) (E_a : Exa Z h0 a "org/segmentry/segment/TermBlocks")  (TT : TBv Z h0 a d f g c0 bl la ba ke en eb D Fq G) :
    Met l Z (⟨"org/segmentry/segment/TermBlocks", "add", "(III)V"⟩ : MethodName) prog_162_method_3_code 4 none [] ({ frames := 1, cells := 0, slots := 0, locals := 12 } : Room) #[(.ref a), (.int p1), (.int p2), (.int p3)] h0 (fun v h L => v = none ∧ Fr n0 L ∧ Keep h0 h [a, d, f, g] ∧ TBv Z h a d f g (c0 + 1) bl p1 ba ke en eb (updI D c0.toNatClampNeg p1) (updI Fq c0.toNatClampNeg p2) (updI G c0.toNatClampNeg p3)) := by
  refine Met.mk pn5 ?_
  intro p e s m below meth c T hx hby hml hown hnm hret hlk hZ X eT
  refine Go.cast (ef_rmAdd m a p1 p2 p3) ?_
  have N := Fr.nil n0
  have K := Keep.refl h0 [a, d, f, g]
  obtain ⟨F_m_documents_a, F_m_frequencies_a, F_m_lengths_a, F_m_count_a, F_m_blocked_a, F_m_last_a, F_m_base_a, F_m_keepsEntry_a, F_m_entry_a, F_m_entryBefore_a, V_d, V_f, V_g⟩ := TT
  show Go p e below s _ _ T (mkF m 0 #[.val (.ref a), .val (.int p1), .val (.int p2), .val (.int p3)] [])
  refine Go.of (fun _ kq => XS.iloadN X.here hx rfl (hb hby d5_0) rfl kq) ?_
  show Go p e below s _ _ T (mkF m 1 #[.val (.ref a), .val (.int p1), .val (.int p2), .val (.int p3)] [(.int p1)])
  refine Go.of (fun _ kq => XS.aloadN X.here hx rfl (hb hby d5_1) rfl rfl kq) ?_
  show Go p e below s _ _ T (mkF m 2 #[.val (.ref a), .val (.int p1), .val (.int p2), .val (.int p3)] [(.ref a), (.int p1)])
  refine Go.getF X hx hZ hown (hw _ (List.mem_of_getElem? (i := 47) rfl)) Via.refl eT F_m_last_a (hb hby d5_2) ?_
  intro T X eT
  show Go p e below s _ _ T (mkF m 5 #[.val (.ref a), .val (.int p1), .val (.int p2), .val (.int p3)] [(.int la), (.int p1)])
  refine Go.of (fun _ kq => XS.icmpYes X.here hx rfl (pc0 := 5) (pc' := 22) rfl (hb hby d5_5) rfl (tlt (hla)).2.2.1 (by decide) (by decide) kq) ?_
  show Go p e below s _ _ T (mkF m 22 #[.val (.ref a), .val (.int p1), .val (.int p2), .val (.int p3)] [])
  refine Go.of (fun _ kq => XS.aloadN X.here hx rfl (hb hby d5_22) rfl rfl kq) ?_
  show Go p e below s _ _ T (mkF m 23 #[.val (.ref a), .val (.int p1), .val (.int p2), .val (.int p3)] [(.ref a)])
  refine Go.virtual (a := a) X hx hZ hown (hw _ (List.mem_of_getElem? (i := 64) rfl)) (hw _ (List.mem_of_getElem? (i := 65) rfl)) (notFace_of_selects (args := #[]) (mvT hZ (hw _ (List.mem_of_getElem? (i := 67) rfl)))) (hw _ (List.mem_of_getElem? (i := 67) rfl)) (hw _ (List.mem_of_getElem? (i := 66) rfl)) (hw _ (List.mem_of_getElem? (i := 2) rfl)) (hw _ (List.mem_of_getElem? (i := 68) rfl)) (by decide) (rmFull hw a c0 _ n0 F_m_count_a) eT E_a 0 (by decide) (by decide) (by decide) (by decide) (by rw [hml]; rfl) (argsL := []) [] (lenOf pd6 rfl) rfl rfl (Nat.le_of_eq rfl) (hb hby d5_23) ?_
  intro v T L' X hQ
  obtain ⟨rfl, N', eT⟩ := hQ
  have N := Fr.app N N'
  show Go p e below s _ _ T (mkF m 26 #[.val (.ref a), .val (.int p1), .val (.int p2), .val (.int p3)] [(.int (own_full c0))])
  refine Go.of (fun _ kq => XS.ifYes X.here hx rfl (pc0 := 26) (pc' := 39) rfl (hb hby d5_26) rfl ((if0 _ _).trans (teq (by simp [own_full, own_n128 hcI])).1) (by decide) (by decide) kq) ?_
  show Go p e below s _ _ T (mkF m 39 #[.val (.ref a), .val (.int p1), .val (.int p2), .val (.int p3)] [])
  refine Go.of (fun _ kq => XS.aloadN X.here hx rfl (hb hby d5_39) rfl rfl kq) ?_
  show Go p e below s _ _ T (mkF m 40 #[.val (.ref a), .val (.int p1), .val (.int p2), .val (.int p3)] [(.ref a)])
  refine Go.getF X hx hZ hown (hw _ (List.mem_of_getElem? (i := 10) rfl)) Via.refl eT F_m_documents_a (hb hby d5_40) ?_
  intro T X eT
  show Go p e below s _ _ T (mkF m 43 #[.val (.ref a), .val (.int p1), .val (.int p2), .val (.int p3)] [(.ref d)])
  refine Go.of (fun _ kq => XS.aloadN X.here hx rfl (hb hby d5_43) rfl rfl kq) ?_
  show Go p e below s _ _ T (mkF m 44 #[.val (.ref a), .val (.int p1), .val (.int p2), .val (.int p3)] [(.ref a), (.ref d)])
  refine Go.getF X hx hZ hown (hw _ (List.mem_of_getElem? (i := 43) rfl)) Via.refl eT F_m_count_a (hb hby d5_44) ?_
  intro T X eT
  show Go p e below s _ _ T (mkF m 47 #[.val (.ref a), .val (.int p1), .val (.int p2), .val (.int p3)] [(.int c0), (.ref d)])
  refine Go.of (fun _ kq => XS.iloadN X.here hx rfl (hb hby d5_47) rfl kq) ?_
  show Go p e below s _ _ T (mkF m 48 #[.val (.ref a), .val (.int p1), .val (.int p2), .val (.int p3)] [(.int p1), (.int c0), (.ref d)])
  have hin : Inb c0 128 := own_inb hcI
  refine Go.stI X hx hZ eT V_d hin (hb hby d5_48) ?_
  intro T h X eT wr
  have N := Fr.snoc X N g_d
  have K := K.wr wr (Or.inl (List.mem_of_getElem? (i := 1) rfl))
  have E_a := E_a.wr wr
  have F_m_documents_a := F_m_documents_a.other wr (Or.inl ne_a_d)
  have F_m_frequencies_a := F_m_frequencies_a.other wr (Or.inl ne_a_d)
  have F_m_lengths_a := F_m_lengths_a.other wr (Or.inl ne_a_d)
  have F_m_count_a := F_m_count_a.other wr (Or.inl ne_a_d)
  have F_m_blocked_a := F_m_blocked_a.other wr (Or.inl ne_a_d)
  have F_m_last_a := F_m_last_a.other wr (Or.inl ne_a_d)
  have F_m_base_a := F_m_base_a.other wr (Or.inl ne_a_d)
  have F_m_keepsEntry_a := F_m_keepsEntry_a.other wr (Or.inl ne_a_d)
  have F_m_entry_a := F_m_entry_a.other wr (Or.inl ne_a_d)
  have F_m_entryBefore_a := F_m_entryBefore_a.other wr (Or.inl ne_a_d)
  have V_d : AV Z h d .int 128 (fun j => .int ((updI D c0.toNatClampNeg p1) j)) := V_d.setI wr hin.2
  have V_f := V_f.other wr (Ne.symm ne_d_f)
  have V_g := V_g.other wr (Ne.symm ne_d_g)
  show Go p e below s _ _ T (mkF m 49 #[.val (.ref a), .val (.int p1), .val (.int p2), .val (.int p3)] [])
  refine Go.of (fun _ kq => XS.aloadN X.here hx rfl (hb hby d5_49) rfl rfl kq) ?_
  show Go p e below s _ _ T (mkF m 50 #[.val (.ref a), .val (.int p1), .val (.int p2), .val (.int p3)] [(.ref a)])
  refine Go.getF X hx hZ hown (hw _ (List.mem_of_getElem? (i := 12) rfl)) Via.refl eT F_m_frequencies_a (hb hby d5_50) ?_
  intro T X eT
  show Go p e below s _ _ T (mkF m 53 #[.val (.ref a), .val (.int p1), .val (.int p2), .val (.int p3)] [(.ref f)])
  refine Go.of (fun _ kq => XS.aloadN X.here hx rfl (hb hby d5_53) rfl rfl kq) ?_
  show Go p e below s _ _ T (mkF m 54 #[.val (.ref a), .val (.int p1), .val (.int p2), .val (.int p3)] [(.ref a), (.ref f)])
  refine Go.getF X hx hZ hown (hw _ (List.mem_of_getElem? (i := 43) rfl)) Via.refl eT F_m_count_a (hb hby d5_54) ?_
  intro T X eT
  show Go p e below s _ _ T (mkF m 57 #[.val (.ref a), .val (.int p1), .val (.int p2), .val (.int p3)] [(.int c0), (.ref f)])
  refine Go.of (fun _ kq => XS.iloadN X.here hx rfl (hb hby d5_57) rfl kq) ?_
  show Go p e below s _ _ T (mkF m 58 #[.val (.ref a), .val (.int p1), .val (.int p2), .val (.int p3)] [(.int p2), (.int c0), (.ref f)])
  have hin : Inb c0 128 := own_inb hcI
  refine Go.stI X hx hZ eT V_f hin (hb hby d5_58) ?_
  intro T h X eT wr
  have N := Fr.snoc X N g_f
  have K := K.wr wr (Or.inl (List.mem_of_getElem? (i := 2) rfl))
  have E_a := E_a.wr wr
  have F_m_documents_a := F_m_documents_a.other wr (Or.inl ne_a_f)
  have F_m_frequencies_a := F_m_frequencies_a.other wr (Or.inl ne_a_f)
  have F_m_lengths_a := F_m_lengths_a.other wr (Or.inl ne_a_f)
  have F_m_count_a := F_m_count_a.other wr (Or.inl ne_a_f)
  have F_m_blocked_a := F_m_blocked_a.other wr (Or.inl ne_a_f)
  have F_m_last_a := F_m_last_a.other wr (Or.inl ne_a_f)
  have F_m_base_a := F_m_base_a.other wr (Or.inl ne_a_f)
  have F_m_keepsEntry_a := F_m_keepsEntry_a.other wr (Or.inl ne_a_f)
  have F_m_entry_a := F_m_entry_a.other wr (Or.inl ne_a_f)
  have F_m_entryBefore_a := F_m_entryBefore_a.other wr (Or.inl ne_a_f)
  have V_d := V_d.other wr ne_d_f
  have V_f : AV Z h f .int 128 (fun j => .int ((updI Fq c0.toNatClampNeg p2) j)) := V_f.setI wr hin.2
  have V_g := V_g.other wr (Ne.symm ne_f_g)
  show Go p e below s _ _ T (mkF m 59 #[.val (.ref a), .val (.int p1), .val (.int p2), .val (.int p3)] [])
  refine Go.of (fun _ kq => XS.aloadN X.here hx rfl (hb hby d5_59) rfl rfl kq) ?_
  show Go p e below s _ _ T (mkF m 60 #[.val (.ref a), .val (.int p1), .val (.int p2), .val (.int p3)] [(.ref a)])
  refine Go.getF X hx hZ hown (hw _ (List.mem_of_getElem? (i := 14) rfl)) Via.refl eT F_m_lengths_a (hb hby d5_60) ?_
  intro T X eT
  show Go p e below s _ _ T (mkF m 63 #[.val (.ref a), .val (.int p1), .val (.int p2), .val (.int p3)] [(.ref g)])
  refine Go.of (fun _ kq => XS.aloadN X.here hx rfl (hb hby d5_63) rfl rfl kq) ?_
  show Go p e below s _ _ T (mkF m 64 #[.val (.ref a), .val (.int p1), .val (.int p2), .val (.int p3)] [(.ref a), (.ref g)])
  refine Go.getF X hx hZ hown (hw _ (List.mem_of_getElem? (i := 43) rfl)) Via.refl eT F_m_count_a (hb hby d5_64) ?_
  intro T X eT
  show Go p e below s _ _ T (mkF m 67 #[.val (.ref a), .val (.int p1), .val (.int p2), .val (.int p3)] [(.int c0), (.ref g)])
  refine Go.of (fun _ kq => XS.iloadN X.here hx rfl (hb hby d5_67) rfl kq) ?_
  show Go p e below s _ _ T (mkF m 68 #[.val (.ref a), .val (.int p1), .val (.int p2), .val (.int p3)] [(.int p3), (.int c0), (.ref g)])
  have hin : Inb c0 128 := own_inb hcI
  refine Go.stI X hx hZ eT V_g hin (hb hby d5_68) ?_
  intro T h X eT wr
  have N := Fr.snoc X N g_g
  have K := K.wr wr (Or.inl (List.mem_of_getElem? (i := 3) rfl))
  have E_a := E_a.wr wr
  have F_m_documents_a := F_m_documents_a.other wr (Or.inl ne_a_g)
  have F_m_frequencies_a := F_m_frequencies_a.other wr (Or.inl ne_a_g)
  have F_m_lengths_a := F_m_lengths_a.other wr (Or.inl ne_a_g)
  have F_m_count_a := F_m_count_a.other wr (Or.inl ne_a_g)
  have F_m_blocked_a := F_m_blocked_a.other wr (Or.inl ne_a_g)
  have F_m_last_a := F_m_last_a.other wr (Or.inl ne_a_g)
  have F_m_base_a := F_m_base_a.other wr (Or.inl ne_a_g)
  have F_m_keepsEntry_a := F_m_keepsEntry_a.other wr (Or.inl ne_a_g)
  have F_m_entry_a := F_m_entry_a.other wr (Or.inl ne_a_g)
  have F_m_entryBefore_a := F_m_entryBefore_a.other wr (Or.inl ne_a_g)
  have V_d := V_d.other wr ne_d_g
  have V_f := V_f.other wr ne_f_g
  have V_g : AV Z h g .int 128 (fun j => .int ((updI G c0.toNatClampNeg p3) j)) := V_g.setI wr hin.2
  show Go p e below s _ _ T (mkF m 69 #[.val (.ref a), .val (.int p1), .val (.int p2), .val (.int p3)] [])
  refine Go.of (fun _ kq => XS.aloadN X.here hx rfl (hb hby d5_69) rfl rfl kq) ?_
  show Go p e below s _ _ T (mkF m 70 #[.val (.ref a), .val (.int p1), .val (.int p2), .val (.int p3)] [(.ref a)])
  refine Go.of (fun _ kq => XS.dup X.here hx rfl (hb hby d5_70) rfl rfl kq) ?_
  show Go p e below s _ _ T (mkF m 71 #[.val (.ref a), .val (.int p1), .val (.int p2), .val (.int p3)] [(.ref a), (.ref a)])
  refine Go.getF X hx hZ hown (hw _ (List.mem_of_getElem? (i := 43) rfl)) Via.refl eT F_m_count_a (hb hby d5_71) ?_
  intro T X eT
  show Go p e below s _ _ T (mkF m 74 #[.val (.ref a), .val (.int p1), .val (.int p2), .val (.int p3)] [(.int c0), (.ref a)])
  refine Go.of (fun _ kq => XS.iconst X.here hx rfl (hb hby d5_74) kq) ?_
  show Go p e below s _ _ T (mkF m 75 #[.val (.ref a), .val (.int p1), .val (.int p2), .val (.int p3)] [(.int (1 : Int32)), (.int c0), (.ref a)])
  refine Go.of (fun _ kq => XS.iadd X.here hx rfl (hb hby d5_75) rfl kq) ?_
  show Go p e below s _ _ T (mkF m 76 #[.val (.ref a), .val (.int p1), .val (.int p2), .val (.int p3)] [(.int (c0 + (1 : Int32))), (.ref a)])
  refine Go.putF X hx hZ hown (hw _ (List.mem_of_getElem? (i := 43) rfl)) Via.refl eT F_m_count_a E_a (Or.inl (hw _ (List.mem_of_getElem? (i := 44) rfl))) (hw _ (List.mem_of_getElem? (i := 1) rfl)) (ty := .int) (by decide) rfl rfl (hb hby d5_76) ?_
  intro T h X eT wr
  have N := Fr.snoc X N g_a
  have K := K.wr wr (Or.inl (List.mem_of_getElem? (i := 0) rfl))
  have E_a := E_a.wr wr
  have F_m_documents_a := F_m_documents_a.other wr (Or.inr (slot_ne (Or.inr (hw _ (List.mem_of_getElem? (i := 11) rfl))) (Or.inl (hw _ (List.mem_of_getElem? (i := 44) rfl))) (by decide) (t := (.array .int)) (t' := .int) (by decide) (by decide)))
  have F_m_frequencies_a := F_m_frequencies_a.other wr (Or.inr (slot_ne (Or.inr (hw _ (List.mem_of_getElem? (i := 13) rfl))) (Or.inl (hw _ (List.mem_of_getElem? (i := 44) rfl))) (by decide) (t := (.array .int)) (t' := .int) (by decide) (by decide)))
  have F_m_lengths_a := F_m_lengths_a.other wr (Or.inr (slot_ne (Or.inr (hw _ (List.mem_of_getElem? (i := 15) rfl))) (Or.inl (hw _ (List.mem_of_getElem? (i := 44) rfl))) (by decide) (t := (.array .int)) (t' := .int) (by decide) (by decide)))
  have F_m_count_a := F_m_count_a.same wr
  have F_m_blocked_a := F_m_blocked_a.other wr (Or.inr (slot_ne (Or.inl (hw _ (List.mem_of_getElem? (i := 46) rfl))) (Or.inl (hw _ (List.mem_of_getElem? (i := 44) rfl))) (by decide) (t := .boolean) (t' := .int) (by decide) (by decide)))
  have F_m_last_a := F_m_last_a.other wr (Or.inr (slot_ne (Or.inl (hw _ (List.mem_of_getElem? (i := 48) rfl))) (Or.inl (hw _ (List.mem_of_getElem? (i := 44) rfl))) (by decide) (t := .int) (t' := .int) (by decide) (by decide)))
  have F_m_base_a := F_m_base_a.other wr (Or.inr (slot_ne (Or.inl (hw _ (List.mem_of_getElem? (i := 50) rfl))) (Or.inl (hw _ (List.mem_of_getElem? (i := 44) rfl))) (by decide) (t := .int) (t' := .int) (by decide) (by decide)))
  have F_m_keepsEntry_a := F_m_keepsEntry_a.other wr (Or.inr (slot_ne (Or.inl (hw _ (List.mem_of_getElem? (i := 52) rfl))) (Or.inl (hw _ (List.mem_of_getElem? (i := 44) rfl))) (by decide) (t := .boolean) (t' := .int) (by decide) (by decide)))
  have F_m_entry_a := F_m_entry_a.other wr (Or.inr (slot_ne (Or.inl (hw _ (List.mem_of_getElem? (i := 55) rfl))) (Or.inl (hw _ (List.mem_of_getElem? (i := 44) rfl))) (by decide) (t := .long) (t' := .int) (by decide) (by decide)))
  have F_m_entryBefore_a := F_m_entryBefore_a.other wr (Or.inr (slot_ne (Or.inl (hw _ (List.mem_of_getElem? (i := 57) rfl))) (Or.inl (hw _ (List.mem_of_getElem? (i := 44) rfl))) (by decide) (t := .long) (t' := .int) (by decide) (by decide)))
  have V_d := V_d.other wr (Ne.symm ne_a_d)
  have V_f := V_f.other wr (Ne.symm ne_a_f)
  have V_g := V_g.other wr (Ne.symm ne_a_g)
  show Go p e below s _ _ T (mkF m 79 #[.val (.ref a), .val (.int p1), .val (.int p2), .val (.int p3)] [])
  refine Go.of (fun _ kq => XS.aloadN X.here hx rfl (hb hby d5_79) rfl rfl kq) ?_
  show Go p e below s _ _ T (mkF m 80 #[.val (.ref a), .val (.int p1), .val (.int p2), .val (.int p3)] [(.ref a)])
  refine Go.of (fun _ kq => XS.iloadN X.here hx rfl (hb hby d5_80) rfl kq) ?_
  show Go p e below s _ _ T (mkF m 81 #[.val (.ref a), .val (.int p1), .val (.int p2), .val (.int p3)] [(.int p1), (.ref a)])
  refine Go.putF X hx hZ hown (hw _ (List.mem_of_getElem? (i := 47) rfl)) Via.refl eT F_m_last_a E_a (Or.inl (hw _ (List.mem_of_getElem? (i := 48) rfl))) (hw _ (List.mem_of_getElem? (i := 1) rfl)) (ty := .int) (by decide) rfl rfl (hb hby d5_81) ?_
  intro T h X eT wr
  have N := Fr.snoc X N g_a
  have K := K.wr wr (Or.inl (List.mem_of_getElem? (i := 0) rfl))
  have E_a := E_a.wr wr
  have F_m_documents_a := F_m_documents_a.other wr (Or.inr (slot_ne (Or.inr (hw _ (List.mem_of_getElem? (i := 11) rfl))) (Or.inl (hw _ (List.mem_of_getElem? (i := 48) rfl))) (by decide) (t := (.array .int)) (t' := .int) (by decide) (by decide)))
  have F_m_frequencies_a := F_m_frequencies_a.other wr (Or.inr (slot_ne (Or.inr (hw _ (List.mem_of_getElem? (i := 13) rfl))) (Or.inl (hw _ (List.mem_of_getElem? (i := 48) rfl))) (by decide) (t := (.array .int)) (t' := .int) (by decide) (by decide)))
  have F_m_lengths_a := F_m_lengths_a.other wr (Or.inr (slot_ne (Or.inr (hw _ (List.mem_of_getElem? (i := 15) rfl))) (Or.inl (hw _ (List.mem_of_getElem? (i := 48) rfl))) (by decide) (t := (.array .int)) (t' := .int) (by decide) (by decide)))
  have F_m_count_a := F_m_count_a.other wr (Or.inr (slot_ne (Or.inl (hw _ (List.mem_of_getElem? (i := 44) rfl))) (Or.inl (hw _ (List.mem_of_getElem? (i := 48) rfl))) (by decide) (t := .int) (t' := .int) (by decide) (by decide)))
  have F_m_blocked_a := F_m_blocked_a.other wr (Or.inr (slot_ne (Or.inl (hw _ (List.mem_of_getElem? (i := 46) rfl))) (Or.inl (hw _ (List.mem_of_getElem? (i := 48) rfl))) (by decide) (t := .boolean) (t' := .int) (by decide) (by decide)))
  have F_m_last_a := F_m_last_a.same wr
  have F_m_base_a := F_m_base_a.other wr (Or.inr (slot_ne (Or.inl (hw _ (List.mem_of_getElem? (i := 50) rfl))) (Or.inl (hw _ (List.mem_of_getElem? (i := 48) rfl))) (by decide) (t := .int) (t' := .int) (by decide) (by decide)))
  have F_m_keepsEntry_a := F_m_keepsEntry_a.other wr (Or.inr (slot_ne (Or.inl (hw _ (List.mem_of_getElem? (i := 52) rfl))) (Or.inl (hw _ (List.mem_of_getElem? (i := 48) rfl))) (by decide) (t := .boolean) (t' := .int) (by decide) (by decide)))
  have F_m_entry_a := F_m_entry_a.other wr (Or.inr (slot_ne (Or.inl (hw _ (List.mem_of_getElem? (i := 55) rfl))) (Or.inl (hw _ (List.mem_of_getElem? (i := 48) rfl))) (by decide) (t := .long) (t' := .int) (by decide) (by decide)))
  have F_m_entryBefore_a := F_m_entryBefore_a.other wr (Or.inr (slot_ne (Or.inl (hw _ (List.mem_of_getElem? (i := 57) rfl))) (Or.inl (hw _ (List.mem_of_getElem? (i := 48) rfl))) (by decide) (t := .long) (t' := .int) (by decide) (by decide)))
  have V_d := V_d.other wr (Ne.symm ne_a_d)
  have V_f := V_f.other wr (Ne.symm ne_a_f)
  have V_g := V_g.other wr (Ne.symm ne_a_g)
  show Go p e below s _ _ T (mkF m 84 #[.val (.ref a), .val (.int p1), .val (.int p2), .val (.int p3)] [])
  refine Go.of (fun _ kq => XS.aloadN X.here hx rfl (hb hby d5_84) rfl rfl kq) ?_
  show Go p e below s _ _ T (mkF m 85 #[.val (.ref a), .val (.int p1), .val (.int p2), .val (.int p3)] [(.ref a)])
  refine Go.getF X hx hZ hown (hw _ (List.mem_of_getElem? (i := 43) rfl)) Via.refl eT F_m_count_a (hb hby d5_85) ?_
  intro T X eT
  show Go p e below s _ _ T (mkF m 88 #[.val (.ref a), .val (.int p1), .val (.int p2), .val (.int p3)] [(.int (c0 + (1 : Int32)))])
  refine Go.of (fun _ kq => XS.sipush X.here hx rfl (hb hby d5_88) kq) ?_
  show Go p e below s _ _ T (mkF m 91 #[.val (.ref a), .val (.int p1), .val (.int p2), .val (.int p3)] [(.int (128 : Int32)), (.int (c0 + (1 : Int32)))])
  refine Go.of (fun _ kq => XS.icmpYes X.here hx rfl (pc0 := 91) (pc' := 99) rfl (hb hby d5_91) rfl (feq (own_n127 hcI)).2 (by decide) (by decide) kq) ?_
  show Go p e below s _ _ T (mkF m 99 #[.val (.ref a), .val (.int p1), .val (.int p2), .val (.int p3)] [])
  refine Go.retV X hx hret hlk (hb hby d5_99) (by decide) (by decide) ?_
  try rw [eT]
  exact ⟨rfl, N, K, F_m_documents_a, F_m_frequencies_a, F_m_lengths_a, F_m_count_a, F_m_blocked_a, F_m_last_a, F_m_base_a, F_m_keepsEntry_a, F_m_entry_a, F_m_entryBefore_a, V_d, V_f, V_g⟩
theorem d18_0 : decode prog_162_method_4_code 0 = .ok (.aload_n 0, 1) := by decide +kernel
theorem d18_1 : decode prog_162_method_4_code 1 = .ok (.lload_n 1, 1) := by decide +kernel
theorem d18_2 : decode prog_162_method_4_code 2 = .ok (.putfield 55, 3) := by decide +kernel
theorem d18_5 : decode prog_162_method_4_code 5 = .ok (.return_, 1) := by decide +kernel
theorem pn18 : plainFor (⟨"org/segmentry/segment/TermBlocks", "runStarts", "(J)V"⟩ : MethodName) = true := plainFor_of_name (by first | (simp [plainName, overriddenIn]; done) | decide +kernel)
theorem ef_rmRun (m : MethodId) (x0 : Addr) (x1 : Int64) : entryFrame m #[(.ref x0), (.long x1)] 3 = mkF m 0 #[.val (.ref x0), .val (.long x1), .second] [] := by first | (simp [entryFrame, mkF, argsToLocals, Value.category]; done) | rfl
set_option maxRecDepth 65536 in
set_option maxHeartbeats 40000000 in
theorem rmRun {l : Launch} {Z : State} {a0 : Array Value} (hw : ∀ d ∈ tables_1, d.before a0 Z = true) (q : Int64) (a d f g : Addr) (c0 bl la ba ke : Int32) (en eb : Int64) (D Fq G : Nat → Int32) (h0 : Heap) (n0 : Nat) (g_a : n0 ≤ a) (ne_a_d : a ≠ d) (ne_a_f : a ≠ f) (ne_a_g : a ≠ g) (ne_d_f : d ≠ f) (ne_d_g : d ≠ g) (ne_f_g : f ≠ g) (E_a : Exa Z h0 a "org/segmentry/segment/TermBlocks")  (TT : TBv Z h0 a d f g c0 bl la ba ke en eb D Fq G) :
    Met l Z (⟨"org/segmentry/segment/TermBlocks", "runStarts", "(J)V"⟩ : MethodName) prog_162_method_4_code 3 none [] ({ frames := 0, cells := 0, slots := 0, locals := 0 } : Room) #[(.ref a), (.long q)] h0 (fun v h L => v = none ∧ Fr n0 L ∧ Keep h0 h [a] ∧ TBv Z h a d f g c0 bl la ba ke q eb D Fq G) := by
  refine Met.mk pn18 ?_
  intro p e s m below meth c T hx hby hml hown hnm hret hlk hZ X eT
  refine Go.cast (ef_rmRun m a q) ?_
  have N := Fr.nil n0
  have K := Keep.refl h0 [a]
  obtain ⟨F_m_documents_a, F_m_frequencies_a, F_m_lengths_a, F_m_count_a, F_m_blocked_a, F_m_last_a, F_m_base_a, F_m_keepsEntry_a, F_m_entry_a, F_m_entryBefore_a, V_d, V_f, V_g⟩ := TT
  show Go p e below s _ _ T (mkF m 0 #[.val (.ref a), .val (.long q), .second] [])
  refine Go.of (fun _ kq => XS.aloadN X.here hx rfl (hb hby d18_0) rfl rfl kq) ?_
  show Go p e below s _ _ T (mkF m 1 #[.val (.ref a), .val (.long q), .second] [(.ref a)])
  refine Go.of (fun _ kq => XS.lloadN X.here hx rfl (hb hby d18_1) rfl kq) ?_
  show Go p e below s _ _ T (mkF m 2 #[.val (.ref a), .val (.long q), .second] [(.long q), (.ref a)])
  refine Go.putF X hx hZ hown (hw _ (List.mem_of_getElem? (i := 54) rfl)) Via.refl eT F_m_entry_a E_a (Or.inl (hw _ (List.mem_of_getElem? (i := 55) rfl))) (hw _ (List.mem_of_getElem? (i := 1) rfl)) (ty := .long) (by decide) rfl rfl (hb hby d18_2) ?_
  intro T h X eT wr
  have N := Fr.snoc X N g_a
  have K := K.wr wr (Or.inl (List.mem_of_getElem? (i := 0) rfl))
  have E_a := E_a.wr wr
  have F_m_documents_a := F_m_documents_a.other wr (Or.inr (slot_ne (Or.inr (hw _ (List.mem_of_getElem? (i := 11) rfl))) (Or.inl (hw _ (List.mem_of_getElem? (i := 55) rfl))) (by decide) (t := (.array .int)) (t' := .long) (by decide) (by decide)))
  have F_m_frequencies_a := F_m_frequencies_a.other wr (Or.inr (slot_ne (Or.inr (hw _ (List.mem_of_getElem? (i := 13) rfl))) (Or.inl (hw _ (List.mem_of_getElem? (i := 55) rfl))) (by decide) (t := (.array .int)) (t' := .long) (by decide) (by decide)))
  have F_m_lengths_a := F_m_lengths_a.other wr (Or.inr (slot_ne (Or.inr (hw _ (List.mem_of_getElem? (i := 15) rfl))) (Or.inl (hw _ (List.mem_of_getElem? (i := 55) rfl))) (by decide) (t := (.array .int)) (t' := .long) (by decide) (by decide)))
  have F_m_count_a := F_m_count_a.other wr (Or.inr (slot_ne (Or.inl (hw _ (List.mem_of_getElem? (i := 44) rfl))) (Or.inl (hw _ (List.mem_of_getElem? (i := 55) rfl))) (by decide) (t := .int) (t' := .long) (by decide) (by decide)))
  have F_m_blocked_a := F_m_blocked_a.other wr (Or.inr (slot_ne (Or.inl (hw _ (List.mem_of_getElem? (i := 46) rfl))) (Or.inl (hw _ (List.mem_of_getElem? (i := 55) rfl))) (by decide) (t := .boolean) (t' := .long) (by decide) (by decide)))
  have F_m_last_a := F_m_last_a.other wr (Or.inr (slot_ne (Or.inl (hw _ (List.mem_of_getElem? (i := 48) rfl))) (Or.inl (hw _ (List.mem_of_getElem? (i := 55) rfl))) (by decide) (t := .int) (t' := .long) (by decide) (by decide)))
  have F_m_base_a := F_m_base_a.other wr (Or.inr (slot_ne (Or.inl (hw _ (List.mem_of_getElem? (i := 50) rfl))) (Or.inl (hw _ (List.mem_of_getElem? (i := 55) rfl))) (by decide) (t := .int) (t' := .long) (by decide) (by decide)))
  have F_m_keepsEntry_a := F_m_keepsEntry_a.other wr (Or.inr (slot_ne (Or.inl (hw _ (List.mem_of_getElem? (i := 52) rfl))) (Or.inl (hw _ (List.mem_of_getElem? (i := 55) rfl))) (by decide) (t := .boolean) (t' := .long) (by decide) (by decide)))
  have F_m_entry_a := F_m_entry_a.same wr
  have F_m_entryBefore_a := F_m_entryBefore_a.other wr (Or.inr (slot_ne (Or.inl (hw _ (List.mem_of_getElem? (i := 57) rfl))) (Or.inl (hw _ (List.mem_of_getElem? (i := 55) rfl))) (by decide) (t := .long) (t' := .long) (by decide) (by decide)))
  have V_d := V_d.other wr (Ne.symm ne_a_d)
  have V_f := V_f.other wr (Ne.symm ne_a_f)
  have V_g := V_g.other wr (Ne.symm ne_a_g)
  show Go p e below s _ _ T (mkF m 5 #[.val (.ref a), .val (.long q), .second] [])
  refine Go.retV X hx hret hlk (hb hby d18_5) (by decide) (by decide) ?_
  try rw [eT]
  exact ⟨rfl, N, K, F_m_documents_a, F_m_frequencies_a, F_m_lengths_a, F_m_count_a, F_m_blocked_a, F_m_last_a, F_m_base_a, F_m_keepsEntry_a, F_m_entry_a, F_m_entryBefore_a, V_d, V_f, V_g⟩
theorem d10_0 : decode prog_162_method_7_code 0 = .ok (.aload_n 0, 1) := by decide +kernel
theorem d10_1 : decode prog_162_method_7_code 1 = .ok (.getfield 40, 3) := by decide +kernel
theorem d10_4 : decode prog_162_method_7_code 4 = .ok (.ifCond .ne 58, 3) := by decide +kernel
theorem d10_7 : decode prog_162_method_7_code 7 = .ok (.lconst 0, 1) := by decide +kernel
theorem d10_8 : decode prog_162_method_7_code 8 = .ok (.lstore_n 1, 1) := by decide +kernel
theorem d10_9 : decode prog_162_method_7_code 9 = .ok (.iconst 0, 1) := by decide +kernel
theorem d10_10 : decode prog_162_method_7_code 10 = .ok (.istore_n 3, 1) := by decide +kernel
theorem d10_11 : decode prog_162_method_7_code 11 = .ok (.iconst 0, 1) := by decide +kernel
theorem d10_12 : decode prog_162_method_7_code 12 = .ok (.istore 4, 2) := by decide +kernel
theorem d10_14 : decode prog_162_method_7_code 14 = .ok (.iload 4, 2) := by decide +kernel
theorem d10_16 : decode prog_162_method_7_code 16 = .ok (.aload_n 0, 1) := by decide +kernel
theorem d10_17 : decode prog_162_method_7_code 17 = .ok (.getfield 36, 3) := by decide +kernel
theorem d10_20 : decode prog_162_method_7_code 20 = .ok (.if_icmp .ge 40, 3) := by decide +kernel
theorem d10_60 : decode prog_162_method_7_code 60 = .ok (.lload_n 1, 1) := by decide +kernel
theorem d10_61 : decode prog_162_method_7_code 61 = .ok (.lreturn, 1) := by decide +kernel
theorem pn10 : plainFor (⟨"org/segmentry/segment/TermBlocks", "length", "()J"⟩ : MethodName) = true := plainFor_of_name (by first | (simp [plainName, overriddenIn]; done) | decide +kernel)
theorem ef_rmLen0 (m : MethodId) (x0 : Addr) : entryFrame m #[(.ref x0)] 5 = mkF m 0 #[.val (.ref x0), .unset, .unset, .unset, .unset] [] := by first | (simp [entryFrame, mkF, argsToLocals, Value.category]; done) | rfl
set_option maxRecDepth 65536 in
set_option maxHeartbeats 40000000 in
theorem rmLen0 {l : Launch} {Z : State} {a0 : Array Value} (hw : ∀ d ∈ tables_1, d.before a0 Z = true) (a d f : Addr) (h0 : Heap) (n0 : Nat) (F_m_documents_a : Fld Z h0 a "org/segmentry/segment/TermBlocks" "m_documents" "[I" (.ref d)) (F_m_frequencies_a : Fld Z h0 a "org/segmentry/segment/TermBlocks" "m_frequencies" "[I" (.ref f)) (F_m_count_a : Fld Z h0 a "org/segmentry/segment/TermBlocks" "m_count" "I" (.int (0 : Int32))) (F_m_blocked_a : Fld Z h0 a "org/segmentry/segment/TermBlocks" "m_blocked" "Z" (.int (0 : Int32))) :
    Met l Z (⟨"org/segmentry/segment/TermBlocks", "length", "()J"⟩ : MethodName) prog_162_method_7_code 5 (some .long) [] ({ frames := 4, cells := 0, slots := 0, locals := 60 } : Room) #[(.ref a)] h0 (fun v h L => v = some (.long 0) ∧ Fr n0 L ∧ h = h0) := by
  refine Met.mk pn10 ?_
  intro p e s m below meth c T hx hby hml hown hnm hret hlk hZ X eT
  refine Go.cast (ef_rmLen0 m a) ?_
  have N := Fr.nil n0
  show Go p e below s _ _ T (mkF m 0 #[.val (.ref a), .unset, .unset, .unset, .unset] [])
  refine Go.of (fun _ kq => XS.aloadN X.here hx rfl (hb hby d10_0) rfl rfl kq) ?_
  show Go p e below s _ _ T (mkF m 1 #[.val (.ref a), .unset, .unset, .unset, .unset] [(.ref a)])
  refine Go.getF X hx hZ hown (hw _ (List.mem_of_getElem? (i := 45) rfl)) Via.refl eT F_m_blocked_a (hb hby d10_1) ?_
  intro T X eT
  show Go p e below s _ _ T (mkF m 4 #[.val (.ref a), .unset, .unset, .unset, .unset] [(.int (0 : Int32))])
  refine Go.of (fun _ kq => XS.ifNo X.here hx rfl (hb hby d10_4) rfl ((if0 _ _).trans (teq (by decide)).2) kq) ?_
  show Go p e below s _ _ T (mkF m 7 #[.val (.ref a), .unset, .unset, .unset, .unset] [])
  refine Go.of (fun _ kq => XS.lconst X.here hx rfl (hb hby d10_7) kq) ?_
  show Go p e below s _ _ T (mkF m 8 #[.val (.ref a), .unset, .unset, .unset, .unset] [(.long (0 : Int64))])
  refine Go.of (fun _ kq => XS.lstoreN X.here hx rfl (hb hby d10_8) rfl (l' := #[.val (.ref a), .val (.long (0 : Int64)), .second, .unset, .unset]) rfl kq) ?_
  show Go p e below s _ _ T (mkF m 9 #[.val (.ref a), .val (.long (0 : Int64)), .second, .unset, .unset] [])
  refine Go.of (fun _ kq => XS.iconst X.here hx rfl (hb hby d10_9) kq) ?_
  show Go p e below s _ _ T (mkF m 10 #[.val (.ref a), .val (.long (0 : Int64)), .second, .unset, .unset] [(.int (0 : Int32))])
  refine Go.of (fun _ kq => XS.istoreN X.here hx rfl (hb hby d10_10) rfl (l' := #[.val (.ref a), .val (.long (0 : Int64)), .second, .val (.int (0 : Int32)), .unset]) rfl kq) ?_
  show Go p e below s _ _ T (mkF m 11 #[.val (.ref a), .val (.long (0 : Int64)), .second, .val (.int (0 : Int32)), .unset] [])
  refine Go.of (fun _ kq => XS.iconst X.here hx rfl (hb hby d10_11) kq) ?_
  show Go p e below s _ _ T (mkF m 12 #[.val (.ref a), .val (.long (0 : Int64)), .second, .val (.int (0 : Int32)), .unset] [(.int (0 : Int32))])
  refine Go.of (fun _ kq => XS.istore X.here hx rfl (hb hby d10_12) rfl (l' := #[.val (.ref a), .val (.long (0 : Int64)), .second, .val (.int (0 : Int32)), .val (.int (0 : Int32))]) rfl kq) ?_
  show Go p e below s _ _ T (mkF m 14 #[.val (.ref a), .val (.long (0 : Int64)), .second, .val (.int (0 : Int32)), .val (.int (0 : Int32))] [])
  refine Go.of (fun _ kq => XS.iload X.here hx rfl (hb hby d10_14) rfl kq) ?_
  show Go p e below s _ _ T (mkF m 16 #[.val (.ref a), .val (.long (0 : Int64)), .second, .val (.int (0 : Int32)), .val (.int (0 : Int32))] [(.int (0 : Int32))])
  refine Go.of (fun _ kq => XS.aloadN X.here hx rfl (hb hby d10_16) rfl rfl kq) ?_
  show Go p e below s _ _ T (mkF m 17 #[.val (.ref a), .val (.long (0 : Int64)), .second, .val (.int (0 : Int32)), .val (.int (0 : Int32))] [(.ref a), (.int (0 : Int32))])
  refine Go.getF X hx hZ hown (hw _ (List.mem_of_getElem? (i := 43) rfl)) Via.refl eT F_m_count_a (hb hby d10_17) ?_
  intro T X eT
  show Go p e below s _ _ T (mkF m 20 #[.val (.ref a), .val (.long (0 : Int64)), .second, .val (.int (0 : Int32)), .val (.int (0 : Int32))] [(.int (0 : Int32)), (.int (0 : Int32))])
  refine Go.of (fun _ kq => XS.icmpYes X.here hx rfl (pc0 := 20) (pc' := 60) rfl (hb hby d10_20) rfl (flt (by decide)).2.1 (by decide) (by decide) kq) ?_
  show Go p e below s _ _ T (mkF m 60 #[.val (.ref a), .val (.long (0 : Int64)), .second, .val (.int (0 : Int32)), .val (.int (0 : Int32))] [])
  refine Go.of (fun _ kq => XS.lloadN X.here hx rfl (hb hby d10_60) rfl kq) ?_
  show Go p e below s _ _ T (mkF m 61 #[.val (.ref a), .val (.long (0 : Int64)), .second, .val (.int (0 : Int32)), .val (.int (0 : Int32))] [(.long (0 : Int64))])
  refine Go.retJ X hx hret hlk (hb hby d10_61) (by decide) (by decide) ?_
  try rw [eT]
  exact ⟨rfl, N, rfl⟩
theorem d10_23 : decode prog_162_method_7_code 23 = .ok (.lload_n 1, 1) := by decide +kernel
theorem d10_24 : decode prog_162_method_7_code 24 = .ok (.aload_n 0, 1) := by decide +kernel
theorem d10_25 : decode prog_162_method_7_code 25 = .ok (.getfield 11, 3) := by decide +kernel
theorem d10_28 : decode prog_162_method_7_code 28 = .ok (.iload 4, 2) := by decide +kernel
theorem d10_30 : decode prog_162_method_7_code 30 = .ok (.iaload, 1) := by decide +kernel
theorem d10_31 : decode prog_162_method_7_code 31 = .ok (.iload_n 3, 1) := by decide +kernel
theorem d10_32 : decode prog_162_method_7_code 32 = .ok (.isub, 1) := by decide +kernel
theorem d10_33 : decode prog_162_method_7_code 33 = .ok (.aload_n 0, 1) := by decide +kernel
theorem d10_34 : decode prog_162_method_7_code 34 = .ok (.getfield 17, 3) := by decide +kernel
theorem d10_37 : decode prog_162_method_7_code 37 = .ok (.iload 4, 2) := by decide +kernel
theorem d10_39 : decode prog_162_method_7_code 39 = .ok (.iaload, 1) := by decide +kernel
theorem d10_40 : decode prog_162_method_7_code 40 = .ok (.invokestatic 77, 3) := by decide +kernel
theorem d10_43 : decode prog_162_method_7_code 43 = .ok (.i2l, 1) := by decide +kernel
theorem d10_44 : decode prog_162_method_7_code 44 = .ok (.ladd, 1) := by decide +kernel
theorem d10_45 : decode prog_162_method_7_code 45 = .ok (.lstore_n 1, 1) := by decide +kernel
theorem d10_46 : decode prog_162_method_7_code 46 = .ok (.aload_n 0, 1) := by decide +kernel
theorem d10_47 : decode prog_162_method_7_code 47 = .ok (.getfield 11, 3) := by decide +kernel
theorem d10_50 : decode prog_162_method_7_code 50 = .ok (.iload 4, 2) := by decide +kernel
theorem d10_52 : decode prog_162_method_7_code 52 = .ok (.iaload, 1) := by decide +kernel
theorem d10_53 : decode prog_162_method_7_code 53 = .ok (.istore_n 3, 1) := by decide +kernel
theorem d10_54 : decode prog_162_method_7_code 54 = .ok (.iinc 4 1, 3) := by decide +kernel
theorem d10_57 : decode prog_162_method_7_code 57 = .ok (.goto (-43), 3) := by decide +kernel
theorem ef_rmLen1 (m : MethodId) (x0 : Addr) : entryFrame m #[(.ref x0)] 5 = mkF m 0 #[.val (.ref x0), .unset, .unset, .unset, .unset] [] := by first | (simp [entryFrame, mkF, argsToLocals, Value.category]; done) | rfl
set_option maxRecDepth 65536 in
set_option maxHeartbeats 40000000 in
theorem rmLen1 {l : Launch} {Z : State} {a0 : Array Value} (hw : ∀ d ∈ tables_1, d.before a0 Z = true) (a d f : Addr) (D Fq : Nat → Int32) (p1 p2 : Int32) (h0 : Heap) (n0 : Nat) (F_m_documents_a : Fld Z h0 a "org/segmentry/segment/TermBlocks" "m_documents" "[I" (.ref d)) (F_m_frequencies_a : Fld Z h0 a "org/segmentry/segment/TermBlocks" "m_frequencies" "[I" (.ref f)) (F_m_count_a : Fld Z h0 a "org/segmentry/segment/TermBlocks" "m_count" "I" (.int (1 : Int32))) (F_m_blocked_a : Fld Z h0 a "org/segmentry/segment/TermBlocks" "m_blocked" "Z" (.int (0 : Int32))) (V_d : AV Z h0 d .int 128 (fun j => .int (D j))) (V_f : AV Z h0 f .int 128 (fun j => .int (Fq j))) (hD : D 0 = p1) (hF : Fq 0 = p2) (hp1 : 0 ≤ p1.toInt) (hp2 : ¬ p2 < 1) :
    Met l Z (⟨"org/segmentry/segment/TermBlocks", "length", "()J"⟩ : MethodName) prog_162_method_7_code 5 (some .long) [] ({ frames := 4, cells := 0, slots := 0, locals := 60 } : Room) #[(.ref a)] h0 (fun v h L => v = some (.long (own_gap p1 p2).toInt64) ∧ Fr n0 L ∧ h = h0) := by
  refine Met.mk pn10 ?_
  intro p e s m below meth c T hx hby hml hown hnm hret hlk hZ X eT
  refine Go.cast (ef_rmLen1 m a) ?_
  have N := Fr.nil n0
  show Go p e below s _ _ T (mkF m 0 #[.val (.ref a), .unset, .unset, .unset, .unset] [])
  refine Go.of (fun _ kq => XS.aloadN X.here hx rfl (hb hby d10_0) rfl rfl kq) ?_
  show Go p e below s _ _ T (mkF m 1 #[.val (.ref a), .unset, .unset, .unset, .unset] [(.ref a)])
  refine Go.getF X hx hZ hown (hw _ (List.mem_of_getElem? (i := 45) rfl)) Via.refl eT F_m_blocked_a (hb hby d10_1) ?_
  intro T X eT
  show Go p e below s _ _ T (mkF m 4 #[.val (.ref a), .unset, .unset, .unset, .unset] [(.int (0 : Int32))])
  refine Go.of (fun _ kq => XS.ifNo X.here hx rfl (hb hby d10_4) rfl ((if0 _ _).trans (teq (by decide)).2) kq) ?_
  show Go p e below s _ _ T (mkF m 7 #[.val (.ref a), .unset, .unset, .unset, .unset] [])
  refine Go.of (fun _ kq => XS.lconst X.here hx rfl (hb hby d10_7) kq) ?_
  show Go p e below s _ _ T (mkF m 8 #[.val (.ref a), .unset, .unset, .unset, .unset] [(.long (0 : Int64))])
  refine Go.of (fun _ kq => XS.lstoreN X.here hx rfl (hb hby d10_8) rfl (l' := #[.val (.ref a), .val (.long (0 : Int64)), .second, .unset, .unset]) rfl kq) ?_
  show Go p e below s _ _ T (mkF m 9 #[.val (.ref a), .val (.long (0 : Int64)), .second, .unset, .unset] [])
  refine Go.of (fun _ kq => XS.iconst X.here hx rfl (hb hby d10_9) kq) ?_
  show Go p e below s _ _ T (mkF m 10 #[.val (.ref a), .val (.long (0 : Int64)), .second, .unset, .unset] [(.int (0 : Int32))])
  refine Go.of (fun _ kq => XS.istoreN X.here hx rfl (hb hby d10_10) rfl (l' := #[.val (.ref a), .val (.long (0 : Int64)), .second, .val (.int (0 : Int32)), .unset]) rfl kq) ?_
  show Go p e below s _ _ T (mkF m 11 #[.val (.ref a), .val (.long (0 : Int64)), .second, .val (.int (0 : Int32)), .unset] [])
  refine Go.of (fun _ kq => XS.iconst X.here hx rfl (hb hby d10_11) kq) ?_
  show Go p e below s _ _ T (mkF m 12 #[.val (.ref a), .val (.long (0 : Int64)), .second, .val (.int (0 : Int32)), .unset] [(.int (0 : Int32))])
  refine Go.of (fun _ kq => XS.istore X.here hx rfl (hb hby d10_12) rfl (l' := #[.val (.ref a), .val (.long (0 : Int64)), .second, .val (.int (0 : Int32)), .val (.int (0 : Int32))]) rfl kq) ?_
  show Go p e below s _ _ T (mkF m 14 #[.val (.ref a), .val (.long (0 : Int64)), .second, .val (.int (0 : Int32)), .val (.int (0 : Int32))] [])
  refine Go.of (fun _ kq => XS.iload X.here hx rfl (hb hby d10_14) rfl kq) ?_
  show Go p e below s _ _ T (mkF m 16 #[.val (.ref a), .val (.long (0 : Int64)), .second, .val (.int (0 : Int32)), .val (.int (0 : Int32))] [(.int (0 : Int32))])
  refine Go.of (fun _ kq => XS.aloadN X.here hx rfl (hb hby d10_16) rfl rfl kq) ?_
  show Go p e below s _ _ T (mkF m 17 #[.val (.ref a), .val (.long (0 : Int64)), .second, .val (.int (0 : Int32)), .val (.int (0 : Int32))] [(.ref a), (.int (0 : Int32))])
  refine Go.getF X hx hZ hown (hw _ (List.mem_of_getElem? (i := 43) rfl)) Via.refl eT F_m_count_a (hb hby d10_17) ?_
  intro T X eT
  show Go p e below s _ _ T (mkF m 20 #[.val (.ref a), .val (.long (0 : Int64)), .second, .val (.int (0 : Int32)), .val (.int (0 : Int32))] [(.int (1 : Int32)), (.int (0 : Int32))])
  refine Go.of (fun _ kq => XS.icmpNo X.here hx rfl (hb hby d10_20) rfl (tlt (by decide)).2.1 kq) ?_
  show Go p e below s _ _ T (mkF m 23 #[.val (.ref a), .val (.long (0 : Int64)), .second, .val (.int (0 : Int32)), .val (.int (0 : Int32))] [])
  refine Go.of (fun _ kq => XS.lloadN X.here hx rfl (hb hby d10_23) rfl kq) ?_
  show Go p e below s _ _ T (mkF m 24 #[.val (.ref a), .val (.long (0 : Int64)), .second, .val (.int (0 : Int32)), .val (.int (0 : Int32))] [(.long (0 : Int64))])
  refine Go.of (fun _ kq => XS.aloadN X.here hx rfl (hb hby d10_24) rfl rfl kq) ?_
  show Go p e below s _ _ T (mkF m 25 #[.val (.ref a), .val (.long (0 : Int64)), .second, .val (.int (0 : Int32)), .val (.int (0 : Int32))] [(.ref a), (.long (0 : Int64))])
  refine Go.getF X hx hZ hown (hw _ (List.mem_of_getElem? (i := 10) rfl)) Via.refl eT F_m_documents_a (hb hby d10_25) ?_
  intro T X eT
  show Go p e below s _ _ T (mkF m 28 #[.val (.ref a), .val (.long (0 : Int64)), .second, .val (.int (0 : Int32)), .val (.int (0 : Int32))] [(.ref d), (.long (0 : Int64))])
  refine Go.of (fun _ kq => XS.iload X.here hx rfl (hb hby d10_28) rfl kq) ?_
  show Go p e below s _ _ T (mkF m 30 #[.val (.ref a), .val (.long (0 : Int64)), .second, .val (.int (0 : Int32)), .val (.int (0 : Int32))] [(.int (0 : Int32)), (.ref d), (.long (0 : Int64))])
  refine Go.ldI (.int p1) X hx hZ eT V_d (show Inb (0 : Int32) 128 from ⟨by decide, by decide⟩) (by rw [← hD]; rfl) (hb hby d10_30) ?_
  show Go p e below s _ _ T (mkF m 31 #[.val (.ref a), .val (.long (0 : Int64)), .second, .val (.int (0 : Int32)), .val (.int (0 : Int32))] [(.int p1), (.long (0 : Int64))])
  refine Go.of (fun _ kq => XS.iloadN X.here hx rfl (hb hby d10_31) rfl kq) ?_
  show Go p e below s _ _ T (mkF m 32 #[.val (.ref a), .val (.long (0 : Int64)), .second, .val (.int (0 : Int32)), .val (.int (0 : Int32))] [(.int (0 : Int32)), (.int p1), (.long (0 : Int64))])
  refine Go.of (fun _ kq => XS.isub X.here hx rfl (hb hby d10_32) rfl kq) ?_
  show Go p e below s _ _ T (mkF m 33 #[.val (.ref a), .val (.long (0 : Int64)), .second, .val (.int (0 : Int32)), .val (.int (0 : Int32))] [(.int (p1 - (0 : Int32))), (.long (0 : Int64))])
  rw [own_sub0]
  refine Go.of (fun _ kq => XS.aloadN X.here hx rfl (hb hby d10_33) rfl rfl kq) ?_
  show Go p e below s _ _ T (mkF m 34 #[.val (.ref a), .val (.long (0 : Int64)), .second, .val (.int (0 : Int32)), .val (.int (0 : Int32))] [(.ref a), (.int p1), (.long (0 : Int64))])
  refine Go.getF X hx hZ hown (hw _ (List.mem_of_getElem? (i := 12) rfl)) Via.refl eT F_m_frequencies_a (hb hby d10_34) ?_
  intro T X eT
  show Go p e below s _ _ T (mkF m 37 #[.val (.ref a), .val (.long (0 : Int64)), .second, .val (.int (0 : Int32)), .val (.int (0 : Int32))] [(.ref f), (.int p1), (.long (0 : Int64))])
  refine Go.of (fun _ kq => XS.iload X.here hx rfl (hb hby d10_37) rfl kq) ?_
  show Go p e below s _ _ T (mkF m 39 #[.val (.ref a), .val (.long (0 : Int64)), .second, .val (.int (0 : Int32)), .val (.int (0 : Int32))] [(.int (0 : Int32)), (.ref f), (.int p1), (.long (0 : Int64))])
  refine Go.ldI (.int p2) X hx hZ eT V_f (show Inb (0 : Int32) 128 from ⟨by decide, by decide⟩) (by rw [← hF]; rfl) (hb hby d10_39) ?_
  show Go p e below s _ _ T (mkF m 40 #[.val (.ref a), .val (.long (0 : Int64)), .second, .val (.int (0 : Int32)), .val (.int (0 : Int32))] [(.int p2), (.int p1), (.long (0 : Int64))])
  refine Go.static X hx hZ hown (hw _ (List.mem_of_getElem? (i := 91) rfl)) (hw _ (List.mem_of_getElem? (i := 92) rfl)) (hw _ (List.mem_of_getElem? (i := 93) rfl)) (hw _ (List.mem_of_getElem? (i := 94) rfl)) (by decide) (rmGap hw p1 p2 _ n0 hp1 hp2) eT 2 (by decide) (by decide) (by decide) (by decide) (by rw [hml]; rfl) (argsL := [(.int p1), (.int p2)]) [(.long (0 : Int64))] (lenOf pd7 rfl) rfl rfl (Nat.le_of_eq rfl) (hb hby d10_40) ?_
  intro v T L' X hQ
  obtain ⟨rfl, N', eT⟩ := hQ
  have N := Fr.app N N'
  show Go p e below s _ _ T (mkF m 43 #[.val (.ref a), .val (.long (0 : Int64)), .second, .val (.int (0 : Int32)), .val (.int (0 : Int32))] [(.int (own_gap p1 p2)), (.long (0 : Int64))])
  refine Go.of (fun _ kq => XS.i2l X.here hx rfl (hb hby d10_43) rfl kq) ?_
  show Go p e below s _ _ T (mkF m 44 #[.val (.ref a), .val (.long (0 : Int64)), .second, .val (.int (0 : Int32)), .val (.int (0 : Int32))] [(.long ((own_gap p1 p2).toInt64)), (.long (0 : Int64))])
  refine Go.of (fun _ kq => XS.ladd X.here hx rfl (hb hby d10_44) rfl kq) ?_
  show Go p e below s _ _ T (mkF m 45 #[.val (.ref a), .val (.long (0 : Int64)), .second, .val (.int (0 : Int32)), .val (.int (0 : Int32))] [(.long ((0 : Int64) + ((own_gap p1 p2).toInt64)))])
  refine Go.of (fun _ kq => XS.lstoreN X.here hx rfl (hb hby d10_45) rfl (l' := #[.val (.ref a), .val (.long ((0 : Int64) + ((own_gap p1 p2).toInt64))), .second, .val (.int (0 : Int32)), .val (.int (0 : Int32))]) rfl kq) ?_
  show Go p e below s _ _ T (mkF m 46 #[.val (.ref a), .val (.long ((0 : Int64) + ((own_gap p1 p2).toInt64))), .second, .val (.int (0 : Int32)), .val (.int (0 : Int32))] [])
  refine Go.of (fun _ kq => XS.aloadN X.here hx rfl (hb hby d10_46) rfl rfl kq) ?_
  show Go p e below s _ _ T (mkF m 47 #[.val (.ref a), .val (.long ((0 : Int64) + ((own_gap p1 p2).toInt64))), .second, .val (.int (0 : Int32)), .val (.int (0 : Int32))] [(.ref a)])
  refine Go.getF X hx hZ hown (hw _ (List.mem_of_getElem? (i := 10) rfl)) Via.refl eT F_m_documents_a (hb hby d10_47) ?_
  intro T X eT
  show Go p e below s _ _ T (mkF m 50 #[.val (.ref a), .val (.long ((0 : Int64) + ((own_gap p1 p2).toInt64))), .second, .val (.int (0 : Int32)), .val (.int (0 : Int32))] [(.ref d)])
  refine Go.of (fun _ kq => XS.iload X.here hx rfl (hb hby d10_50) rfl kq) ?_
  show Go p e below s _ _ T (mkF m 52 #[.val (.ref a), .val (.long ((0 : Int64) + ((own_gap p1 p2).toInt64))), .second, .val (.int (0 : Int32)), .val (.int (0 : Int32))] [(.int (0 : Int32)), (.ref d)])
  refine Go.ldI (.int p1) X hx hZ eT V_d (show Inb (0 : Int32) 128 from ⟨by decide, by decide⟩) (by rw [← hD]; rfl) (hb hby d10_52) ?_
  show Go p e below s _ _ T (mkF m 53 #[.val (.ref a), .val (.long ((0 : Int64) + ((own_gap p1 p2).toInt64))), .second, .val (.int (0 : Int32)), .val (.int (0 : Int32))] [(.int p1)])
  refine Go.of (fun _ kq => XS.istoreN X.here hx rfl (hb hby d10_53) rfl (l' := #[.val (.ref a), .val (.long ((0 : Int64) + ((own_gap p1 p2).toInt64))), .second, .val (.int p1), .val (.int (0 : Int32))]) rfl kq) ?_
  show Go p e below s _ _ T (mkF m 54 #[.val (.ref a), .val (.long ((0 : Int64) + ((own_gap p1 p2).toInt64))), .second, .val (.int p1), .val (.int (0 : Int32))] [])
  refine Go.of (fun _ kq => XS.iinc X.here hx rfl (hb hby d10_54) rfl (l' := #[.val (.ref a), .val (.long ((0 : Int64) + ((own_gap p1 p2).toInt64))), .second, .val (.int p1), .val (.int (1 : Int32))]) rfl kq) ?_
  show Go p e below s _ _ T (mkF m 57 #[.val (.ref a), .val (.long ((0 : Int64) + ((own_gap p1 p2).toInt64))), .second, .val (.int p1), .val (.int (1 : Int32))] [])
  refine Go.of (fun _ kq => XS.goto X.here hx rfl (pc0 := 57) (pc' := 14) rfl (hb hby d10_57) (by decide) (by decide) kq) ?_
  show Go p e below s _ _ T (mkF m 14 #[.val (.ref a), .val (.long ((0 : Int64) + ((own_gap p1 p2).toInt64))), .second, .val (.int p1), .val (.int (1 : Int32))] [])
  refine Go.of (fun _ kq => XS.iload X.here hx rfl (hb hby d10_14) rfl kq) ?_
  show Go p e below s _ _ T (mkF m 16 #[.val (.ref a), .val (.long ((0 : Int64) + ((own_gap p1 p2).toInt64))), .second, .val (.int p1), .val (.int (1 : Int32))] [(.int (1 : Int32))])
  refine Go.of (fun _ kq => XS.aloadN X.here hx rfl (hb hby d10_16) rfl rfl kq) ?_
  show Go p e below s _ _ T (mkF m 17 #[.val (.ref a), .val (.long ((0 : Int64) + ((own_gap p1 p2).toInt64))), .second, .val (.int p1), .val (.int (1 : Int32))] [(.ref a), (.int (1 : Int32))])
  refine Go.getF X hx hZ hown (hw _ (List.mem_of_getElem? (i := 43) rfl)) Via.refl eT F_m_count_a (hb hby d10_17) ?_
  intro T X eT
  show Go p e below s _ _ T (mkF m 20 #[.val (.ref a), .val (.long ((0 : Int64) + ((own_gap p1 p2).toInt64))), .second, .val (.int p1), .val (.int (1 : Int32))] [(.int (1 : Int32)), (.int (1 : Int32))])
  refine Go.of (fun _ kq => XS.icmpYes X.here hx rfl (pc0 := 20) (pc' := 60) rfl (hb hby d10_20) rfl (flt (by decide)).2.1 (by decide) (by decide) kq) ?_
  show Go p e below s _ _ T (mkF m 60 #[.val (.ref a), .val (.long ((0 : Int64) + ((own_gap p1 p2).toInt64))), .second, .val (.int p1), .val (.int (1 : Int32))] [])
  refine Go.of (fun _ kq => XS.lloadN X.here hx rfl (hb hby d10_60) rfl kq) ?_
  show Go p e below s _ _ T (mkF m 61 #[.val (.ref a), .val (.long ((0 : Int64) + ((own_gap p1 p2).toInt64))), .second, .val (.int p1), .val (.int (1 : Int32))] [(.long ((0 : Int64) + ((own_gap p1 p2).toInt64)))])
  refine Go.retJ X hx hret hlk (hb hby d10_61) (by decide) (by decide) ?_
  try rw [eT]
  exact ⟨by simp, N, rfl⟩
theorem d8_0 : decode jdk_29_method_65_code 0 = .ok (.iload_n 0, 1) := by decide +kernel
theorem d8_1 : decode jdk_29_method_65_code 1 = .ok (.iload_n 1, 1) := by decide +kernel
theorem d8_2 : decode jdk_29_method_65_code 2 = .ok (.if_icmp .lt 7, 3) := by decide +kernel
theorem d8_5 : decode jdk_29_method_65_code 5 = .ok (.iload_n 0, 1) := by decide +kernel
theorem d8_6 : decode jdk_29_method_65_code 6 = .ok (.goto 4, 3) := by decide +kernel
theorem d8_9 : decode jdk_29_method_65_code 9 = .ok (.iload_n 1, 1) := by decide +kernel
theorem d8_10 : decode jdk_29_method_65_code 10 = .ok (.ireturn, 1) := by decide +kernel
theorem pn8 : plainFor (⟨"java/lang/Math", "max", "(II)I"⟩ : MethodName) = true := Jvm.Free.JP.mathPlain rfl (by decide +kernel)
theorem ef_rmMax (m : MethodId) (x0 : Int32) (x1 : Int32) : entryFrame m #[(.int x0), (.int x1)] 2 = mkF m 0 #[.val (.int x0), .val (.int x1)] [] := by first | (simp [entryFrame, mkF, argsToLocals, Value.category]; done) | rfl
set_option maxRecDepth 65536 in
set_option maxHeartbeats 40000000 in
theorem rmMax {l : Launch} {Z : State} {a0 : Array Value} (hw : ∀ d ∈ tables_1, d.before a0 Z = true) (p1 p2 : Int32) (h0 : Heap) (n0 : Nat)  :
    Met l Z (⟨"java/lang/Math", "max", "(II)I"⟩ : MethodName) jdk_29_method_65_code 2 (some .int) [] ({ frames := 0, cells := 0, slots := 0, locals := 0 } : Room) #[(.int p1), (.int p2)] h0 (fun v h L => ∃ r : Int32, v = some (.int r) ∧ Fr n0 L ∧ h = h0 ∧ ¬ r < p1) := by
  refine Met.mk pn8 ?_
  intro p e s m below meth c T hx hby hml hown hnm hret hlk hZ X eT
  refine Go.cast (ef_rmMax m p1 p2) ?_
  have N := Fr.nil n0
  show Go p e below s _ _ T (mkF m 0 #[.val (.int p1), .val (.int p2)] [])
  refine Go.of (fun _ kq => XS.iloadN X.here hx rfl (hb hby d8_0) rfl kq) ?_
  show Go p e below s _ _ T (mkF m 1 #[.val (.int p1), .val (.int p2)] [(.int p1)])
  refine Go.of (fun _ kq => XS.iloadN X.here hx rfl (hb hby d8_1) rfl kq) ?_
  show Go p e below s _ _ T (mkF m 2 #[.val (.int p1), .val (.int p2)] [(.int p2), (.int p1)])
  by_cases hc2 : p1 < p2
  · refine Go.of (fun _ kq => XS.icmpYes X.here hx rfl (pc0 := 2) (pc' := 9) rfl (hb hby d8_2) rfl (tlt hc2).1 (by decide) (by decide) kq) ?_
    show Go p e below s _ _ T (mkF m 9 #[.val (.int p1), .val (.int p2)] [])
    refine Go.of (fun _ kq => XS.iloadN X.here hx rfl (hb hby d8_9) rfl kq) ?_
    show Go p e below s _ _ T (mkF m 10 #[.val (.int p1), .val (.int p2)] [(.int p2)])
    refine Go.retI X hx hret hlk (hb hby d8_10) (by decide) (by decide) ?_
    try rw [eT]
    exact ⟨_, rfl, N, rfl, Int32.lt_asymm hc2⟩
  · refine Go.of (fun _ kq => XS.icmpNo X.here hx rfl (hb hby d8_2) rfl (flt hc2).1 kq) ?_
    show Go p e below s _ _ T (mkF m 5 #[.val (.int p1), .val (.int p2)] [])
    refine Go.of (fun _ kq => XS.iloadN X.here hx rfl (hb hby d8_5) rfl kq) ?_
    show Go p e below s _ _ T (mkF m 6 #[.val (.int p1), .val (.int p2)] [(.int p1)])
    refine Go.of (fun _ kq => XS.goto X.here hx rfl (pc0 := 6) (pc' := 10) rfl (hb hby d8_6) (by decide) (by decide) kq) ?_
    show Go p e below s _ _ T (mkF m 10 #[.val (.int p1), .val (.int p2)] [(.int p1)])
    refine Go.retI X hx hret hlk (hb hby d8_10) (by decide) (by decide) ?_
    try rw [eT]
    exact ⟨_, rfl, N, rfl, Int32.lt_irrefl⟩
theorem d9_0 : decode method_2_code 0 = .ok (.lload_n 0, 1) := by decide +kernel
theorem d9_1 : decode method_2_code 1 = .ok (.ldc2_w 7, 3) := by decide +kernel
theorem d9_4 : decode method_2_code 4 = .ok (.lcmp, 1) := by decide +kernel
theorem d9_5 : decode method_2_code 5 = .ok (.ifCond .ge 5, 3) := by decide +kernel
theorem d9_8 : decode method_2_code 8 = .ok (.iconst 1, 1) := by decide +kernel
theorem d9_9 : decode method_2_code 9 = .ok (.ireturn, 1) := by decide +kernel
theorem d9_10 : decode method_2_code 10 = .ok (.lload_n 0, 1) := by decide +kernel
theorem d9_11 : decode method_2_code 11 = .ok (.ldc2_w 9, 3) := by decide +kernel
theorem d9_14 : decode method_2_code 14 = .ok (.lcmp, 1) := by decide +kernel
theorem d9_15 : decode method_2_code 15 = .ok (.ifCond .ge 5, 3) := by decide +kernel
theorem d9_18 : decode method_2_code 18 = .ok (.iconst 2, 1) := by decide +kernel
theorem d9_19 : decode method_2_code 19 = .ok (.ireturn, 1) := by decide +kernel
theorem d9_20 : decode method_2_code 20 = .ok (.lload_n 0, 1) := by decide +kernel
theorem d9_21 : decode method_2_code 21 = .ok (.ldc2_w 11, 3) := by decide +kernel
theorem d9_24 : decode method_2_code 24 = .ok (.lcmp, 1) := by decide +kernel
theorem d9_25 : decode method_2_code 25 = .ok (.ifCond .ge 5, 3) := by decide +kernel
theorem d9_28 : decode method_2_code 28 = .ok (.iconst 3, 1) := by decide +kernel
theorem d9_29 : decode method_2_code 29 = .ok (.ireturn, 1) := by decide +kernel
theorem d9_30 : decode method_2_code 30 = .ok (.lload_n 0, 1) := by decide +kernel
theorem d9_31 : decode method_2_code 31 = .ok (.ldc2_w 13, 3) := by decide +kernel
theorem d9_34 : decode method_2_code 34 = .ok (.lcmp, 1) := by decide +kernel
theorem d9_35 : decode method_2_code 35 = .ok (.ifCond .ge 5, 3) := by decide +kernel
theorem d9_38 : decode method_2_code 38 = .ok (.iconst 4, 1) := by decide +kernel
theorem d9_39 : decode method_2_code 39 = .ok (.ireturn, 1) := by decide +kernel
theorem d9_40 : decode method_2_code 40 = .ok (.lload_n 0, 1) := by decide +kernel
theorem d9_41 : decode method_2_code 41 = .ok (.ldc2_w 15, 3) := by decide +kernel
theorem d9_44 : decode method_2_code 44 = .ok (.lcmp, 1) := by decide +kernel
theorem d9_45 : decode method_2_code 45 = .ok (.ifCond .ge 5, 3) := by decide +kernel
theorem d9_48 : decode method_2_code 48 = .ok (.iconst 5, 1) := by decide +kernel
theorem d9_49 : decode method_2_code 49 = .ok (.ireturn, 1) := by decide +kernel
theorem d9_50 : decode method_2_code 50 = .ok (.bipush 6, 2) := by decide +kernel
theorem d9_52 : decode method_2_code 52 = .ok (.ireturn, 1) := by decide +kernel
theorem pn9 : plainFor (⟨"org/segmentry/segment/TermBlocksStartPinLaw", "vlen", "(J)I"⟩ : MethodName) = true := plainFor_of_name (by first | (simp [plainName, overriddenIn]; done) | decide +kernel)
theorem ef_rmVlen (m : MethodId) (x0 : Int64) : entryFrame m #[(.long x0)] 2 = mkF m 0 #[.val (.long x0), .second] [] := by first | (simp [entryFrame, mkF, argsToLocals, Value.category]; done) | rfl
set_option maxRecDepth 65536 in
set_option maxHeartbeats 40000000 in
theorem rmVlen {l : Launch} {Z : State} {a0 : Array Value} (hw : ∀ d ∈ tables_1, d.before a0 Z = true) (q : Int64) (h0 : Heap) (n0 : Nat)  :
    Met l Z (⟨"org/segmentry/segment/TermBlocksStartPinLaw", "vlen", "(J)I"⟩ : MethodName) method_2_code 2 (some .int) [] ({ frames := 0, cells := 0, slots := 0, locals := 0 } : Room) #[(.long q)] h0 (fun v h L => v = some (.int (own_vlen q)) ∧ Fr n0 L ∧ h = h0) := by
  refine Met.mk pn9 ?_
  intro p e s m below meth c T hx hby hml hown hnm hret hlk hZ X eT
  refine Go.cast (ef_rmVlen m q) ?_
  have N := Fr.nil n0
  show Go p e below s _ _ T (mkF m 0 #[.val (.long q), .second] [])
  refine Go.of (fun _ kq => XS.lloadN X.here hx rfl (hb hby d9_0) rfl kq) ?_
  show Go p e below s _ _ T (mkF m 1 #[.val (.long q), .second] [(.long q)])
  refine Go.of (X.ldc2Long hx hown (mvT hZ (hw _ (List.mem_of_getElem? (i := 85) rfl))) (g := (mkF m 1 #[.val (.long q), .second] [(.long q)])) rfl (hb hby d9_1)) ?_
  show Go p e below s _ _ T (mkF m 4 #[.val (.long q), .second] [(.long (128 : Int64)), (.long q)])
  refine Go.of (fun _ kq => XS.lcmp X.here hx rfl (hb hby d9_4) rfl kq) ?_
  show Go p e below s _ _ T (mkF m 5 #[.val (.long q), .second] [(.int (lcmpW q (128 : Int64)))])
  by_cases hc5 : q < (128 : Int64)
  · refine Go.of (fun _ kq => XS.ifNo X.here hx rfl (hb hby d9_5) rfl (cZlt hc5).2 kq) ?_
    show Go p e below s _ _ T (mkF m 8 #[.val (.long q), .second] [])
    refine Go.of (fun _ kq => XS.iconst X.here hx rfl (hb hby d9_8) kq) ?_
    show Go p e below s _ _ T (mkF m 9 #[.val (.long q), .second] [(.int (1 : Int32))])
    refine Go.retI X hx hret hlk (hb hby d9_9) (by decide) (by decide) ?_
    try rw [eT]
    exact ⟨by rw [show own_vlen q = (1 : Int32) by simp [own_vlen, hc5]], N, rfl⟩
  · refine Go.of (fun _ kq => XS.ifYes X.here hx rfl (pc0 := 5) (pc' := 10) rfl (hb hby d9_5) rfl (cFlt hc5).2 (by decide) (by decide) kq) ?_
    show Go p e below s _ _ T (mkF m 10 #[.val (.long q), .second] [])
    refine Go.of (fun _ kq => XS.lloadN X.here hx rfl (hb hby d9_10) rfl kq) ?_
    show Go p e below s _ _ T (mkF m 11 #[.val (.long q), .second] [(.long q)])
    refine Go.of (X.ldc2Long hx hown (mvT hZ (hw _ (List.mem_of_getElem? (i := 122) rfl))) (g := (mkF m 11 #[.val (.long q), .second] [(.long q)])) rfl (hb hby d9_11)) ?_
    show Go p e below s _ _ T (mkF m 14 #[.val (.long q), .second] [(.long (16384 : Int64)), (.long q)])
    refine Go.of (fun _ kq => XS.lcmp X.here hx rfl (hb hby d9_14) rfl kq) ?_
    show Go p e below s _ _ T (mkF m 15 #[.val (.long q), .second] [(.int (lcmpW q (16384 : Int64)))])
    by_cases hc15 : q < (16384 : Int64)
    · refine Go.of (fun _ kq => XS.ifNo X.here hx rfl (hb hby d9_15) rfl (cZlt hc15).2 kq) ?_
      show Go p e below s _ _ T (mkF m 18 #[.val (.long q), .second] [])
      refine Go.of (fun _ kq => XS.iconst X.here hx rfl (hb hby d9_18) kq) ?_
      show Go p e below s _ _ T (mkF m 19 #[.val (.long q), .second] [(.int (2 : Int32))])
      refine Go.retI X hx hret hlk (hb hby d9_19) (by decide) (by decide) ?_
      try rw [eT]
      exact ⟨by rw [show own_vlen q = (2 : Int32) by simp [own_vlen, hc5, hc15]], N, rfl⟩
    · refine Go.of (fun _ kq => XS.ifYes X.here hx rfl (pc0 := 15) (pc' := 20) rfl (hb hby d9_15) rfl (cFlt hc15).2 (by decide) (by decide) kq) ?_
      show Go p e below s _ _ T (mkF m 20 #[.val (.long q), .second] [])
      refine Go.of (fun _ kq => XS.lloadN X.here hx rfl (hb hby d9_20) rfl kq) ?_
      show Go p e below s _ _ T (mkF m 21 #[.val (.long q), .second] [(.long q)])
      refine Go.of (X.ldc2Long hx hown (mvT hZ (hw _ (List.mem_of_getElem? (i := 123) rfl))) (g := (mkF m 21 #[.val (.long q), .second] [(.long q)])) rfl (hb hby d9_21)) ?_
      show Go p e below s _ _ T (mkF m 24 #[.val (.long q), .second] [(.long (2097152 : Int64)), (.long q)])
      refine Go.of (fun _ kq => XS.lcmp X.here hx rfl (hb hby d9_24) rfl kq) ?_
      show Go p e below s _ _ T (mkF m 25 #[.val (.long q), .second] [(.int (lcmpW q (2097152 : Int64)))])
      by_cases hc25 : q < (2097152 : Int64)
      · refine Go.of (fun _ kq => XS.ifNo X.here hx rfl (hb hby d9_25) rfl (cZlt hc25).2 kq) ?_
        show Go p e below s _ _ T (mkF m 28 #[.val (.long q), .second] [])
        refine Go.of (fun _ kq => XS.iconst X.here hx rfl (hb hby d9_28) kq) ?_
        show Go p e below s _ _ T (mkF m 29 #[.val (.long q), .second] [(.int (3 : Int32))])
        refine Go.retI X hx hret hlk (hb hby d9_29) (by decide) (by decide) ?_
        try rw [eT]
        exact ⟨by rw [show own_vlen q = (3 : Int32) by simp [own_vlen, hc5, hc15, hc25]], N, rfl⟩
      · refine Go.of (fun _ kq => XS.ifYes X.here hx rfl (pc0 := 25) (pc' := 30) rfl (hb hby d9_25) rfl (cFlt hc25).2 (by decide) (by decide) kq) ?_
        show Go p e below s _ _ T (mkF m 30 #[.val (.long q), .second] [])
        refine Go.of (fun _ kq => XS.lloadN X.here hx rfl (hb hby d9_30) rfl kq) ?_
        show Go p e below s _ _ T (mkF m 31 #[.val (.long q), .second] [(.long q)])
        refine Go.of (X.ldc2Long hx hown (mvT hZ (hw _ (List.mem_of_getElem? (i := 124) rfl))) (g := (mkF m 31 #[.val (.long q), .second] [(.long q)])) rfl (hb hby d9_31)) ?_
        show Go p e below s _ _ T (mkF m 34 #[.val (.long q), .second] [(.long (268435456 : Int64)), (.long q)])
        refine Go.of (fun _ kq => XS.lcmp X.here hx rfl (hb hby d9_34) rfl kq) ?_
        show Go p e below s _ _ T (mkF m 35 #[.val (.long q), .second] [(.int (lcmpW q (268435456 : Int64)))])
        by_cases hc35 : q < (268435456 : Int64)
        · refine Go.of (fun _ kq => XS.ifNo X.here hx rfl (hb hby d9_35) rfl (cZlt hc35).2 kq) ?_
          show Go p e below s _ _ T (mkF m 38 #[.val (.long q), .second] [])
          refine Go.of (fun _ kq => XS.iconst X.here hx rfl (hb hby d9_38) kq) ?_
          show Go p e below s _ _ T (mkF m 39 #[.val (.long q), .second] [(.int (4 : Int32))])
          refine Go.retI X hx hret hlk (hb hby d9_39) (by decide) (by decide) ?_
          try rw [eT]
          exact ⟨by rw [show own_vlen q = (4 : Int32) by simp [own_vlen, hc5, hc15, hc25, hc35]], N, rfl⟩
        · refine Go.of (fun _ kq => XS.ifYes X.here hx rfl (pc0 := 35) (pc' := 40) rfl (hb hby d9_35) rfl (cFlt hc35).2 (by decide) (by decide) kq) ?_
          show Go p e below s _ _ T (mkF m 40 #[.val (.long q), .second] [])
          refine Go.of (fun _ kq => XS.lloadN X.here hx rfl (hb hby d9_40) rfl kq) ?_
          show Go p e below s _ _ T (mkF m 41 #[.val (.long q), .second] [(.long q)])
          refine Go.of (X.ldc2Long hx hown (mvT hZ (hw _ (List.mem_of_getElem? (i := 125) rfl))) (g := (mkF m 41 #[.val (.long q), .second] [(.long q)])) rfl (hb hby d9_41)) ?_
          show Go p e below s _ _ T (mkF m 44 #[.val (.long q), .second] [(.long (34359738368 : Int64)), (.long q)])
          refine Go.of (fun _ kq => XS.lcmp X.here hx rfl (hb hby d9_44) rfl kq) ?_
          show Go p e below s _ _ T (mkF m 45 #[.val (.long q), .second] [(.int (lcmpW q (34359738368 : Int64)))])
          by_cases hc45 : q < (34359738368 : Int64)
          · refine Go.of (fun _ kq => XS.ifNo X.here hx rfl (hb hby d9_45) rfl (cZlt hc45).2 kq) ?_
            show Go p e below s _ _ T (mkF m 48 #[.val (.long q), .second] [])
            refine Go.of (fun _ kq => XS.iconst X.here hx rfl (hb hby d9_48) kq) ?_
            show Go p e below s _ _ T (mkF m 49 #[.val (.long q), .second] [(.int (5 : Int32))])
            refine Go.retI X hx hret hlk (hb hby d9_49) (by decide) (by decide) ?_
            try rw [eT]
            exact ⟨by rw [show own_vlen q = (5 : Int32) by simp [own_vlen, hc5, hc15, hc25, hc35, hc45]], N, rfl⟩
          · refine Go.of (fun _ kq => XS.ifYes X.here hx rfl (pc0 := 45) (pc' := 50) rfl (hb hby d9_45) rfl (cFlt hc45).2 (by decide) (by decide) kq) ?_
            show Go p e below s _ _ T (mkF m 50 #[.val (.long q), .second] [])
            refine Go.of (fun _ kq => XS.bipush X.here hx rfl (hb hby d9_50) kq) ?_
            show Go p e below s _ _ T (mkF m 52 #[.val (.long q), .second] [(.int (6 : Int32))])
            refine Go.retI X hx hret hlk (hb hby d9_52) (by decide) (by decide) ?_
            try rw [eT]
            exact ⟨by rw [show own_vlen q = (6 : Int32) by simp [own_vlen, hc5, hc15, hc25, hc35, hc45]], N, rfl⟩
theorem pn0 : plainFor x = true := plainFor_of_name (by first | (simp [plainName, overriddenIn]; done) | decide +kernel)
theorem ef_rm0 (m : MethodId) (x0 : Int32) (x1 : Int32) (x2 : Int32) (x3 : Int32) (x4 : Int32) (x5 : Int32) : entryFrame m #[(.int x0), (.int x1), (.int x2), (.int x3), (.int x4), (.int x5)] maxLocals = mkF m 0 #[.val (.int x0), .val (.int x1), .val (.int x2), .val (.int x3), .val (.int x4), .val (.int x5), .unset, .unset, .unset, .unset, .unset, .unset, .unset, .unset, .unset] [] := by first | (simp [entryFrame, mkF, argsToLocals, Value.category, maxLocals]; done) | rfl
set_option maxRecDepth 65536 in
set_option maxHeartbeats 40000000 in
theorem rm0 {l : Launch} {Z : State} {a0 : Array Value} (hw : ∀ d ∈ tables_1, d.before a0 Z = true) (a1 b1 c1 d1 x1 fl : Int32) (h0 : Heap) (n0 : Nat) (Z0 : n0 ≤ h0.size) :
    Met l Z x code maxLocals ret tables_1 room_1 #[(.int a1), (.int b1), (.int c1), (.int d1), (.int x1), (.int fl)] h0 (fun v h L => v = some (.int 1) ∧ Fr n0 L) := by
  refine Met.mk pn0 ?_
  intro p e s m below meth c T hx hby hml hown hnm hret hlk hZ X eT
  refine Go.cast (ef_rm0 m a1 b1 c1 d1 x1 fl) ?_
  have N := Fr.nil n0
  have K := Keep.refl h0 []
  show Go p e below s _ _ T (mkF m 0 #[.val (.int a1), .val (.int b1), .val (.int c1), .val (.int d1), .val (.int x1), .val (.int fl), .unset, .unset, .unset, .unset, .unset, .unset, .unset, .unset, .unset] [])
  refine Go.newO X hx hZ hown (hw _ (List.mem_of_getElem? (i := 0) rfl)) (hw _ (List.mem_of_getElem? (i := 1) rfl)) (hw _ (List.mem_of_getElem? (i := 2) rfl)) eT (hb hby at_0) (by decide) (by decide) ?_
  intro T h b0 X eT E ha E_b0 D_b0
  have z_b0 : h0.size ≤ b0 := by rw [ha]; exact K.1
  have g_b0 : n0 ≤ b0 := Nat.le_trans Z0 z_b0
  have K := K.ext E
  have F_m_documents_b0 : Fld Z h b0 "org/segmentry/segment/TermBlocks" "m_documents" "[I" .null := D_b0 (Or.inr (hw _ (List.mem_of_getElem? (i := 11) rfl))) (ty := (.array .int)) (by decide)
  have F_m_frequencies_b0 : Fld Z h b0 "org/segmentry/segment/TermBlocks" "m_frequencies" "[I" .null := D_b0 (Or.inr (hw _ (List.mem_of_getElem? (i := 13) rfl))) (ty := (.array .int)) (by decide)
  have F_m_lengths_b0 : Fld Z h b0 "org/segmentry/segment/TermBlocks" "m_lengths" "[I" .null := D_b0 (Or.inr (hw _ (List.mem_of_getElem? (i := 15) rfl))) (ty := (.array .int)) (by decide)
  have F_m_pairFrequencies_b0 : Fld Z h b0 "org/segmentry/segment/TermBlocks" "m_pairFrequencies" "[I" .null := D_b0 (Or.inr (hw _ (List.mem_of_getElem? (i := 17) rfl))) (ty := (.array .int)) (by decide)
  have F_m_pairLengths_b0 : Fld Z h b0 "org/segmentry/segment/TermBlocks" "m_pairLengths" "[I" .null := D_b0 (Or.inr (hw _ (List.mem_of_getElem? (i := 19) rfl))) (ty := (.array .int)) (by decide)
  have F_m_bounds_b0 : Fld Z h b0 "org/segmentry/segment/TermBlocks" "m_bounds" "Lorg/segmentry/segment/BlockBounds;" .null := D_b0 (Or.inr (hw _ (List.mem_of_getElem? (i := 37) rfl))) (ty := (.object "org/segmentry/segment/BlockBounds")) (by decide)
  have F_m_count_b0 : Fld Z h b0 "org/segmentry/segment/TermBlocks" "m_count" "I" (.int (0 : Int32)) := D_b0 (Or.inl (hw _ (List.mem_of_getElem? (i := 44) rfl))) (ty := .int) (by decide)
  have F_m_blocked_b0 : Fld Z h b0 "org/segmentry/segment/TermBlocks" "m_blocked" "Z" (.int (0 : Int32)) := D_b0 (Or.inl (hw _ (List.mem_of_getElem? (i := 46) rfl))) (ty := .boolean) (by decide)
  have F_m_last_b0 : Fld Z h b0 "org/segmentry/segment/TermBlocks" "m_last" "I" (.int (0 : Int32)) := D_b0 (Or.inl (hw _ (List.mem_of_getElem? (i := 48) rfl))) (ty := .int) (by decide)
  have F_m_base_b0 : Fld Z h b0 "org/segmentry/segment/TermBlocks" "m_base" "I" (.int (0 : Int32)) := D_b0 (Or.inl (hw _ (List.mem_of_getElem? (i := 50) rfl))) (ty := .int) (by decide)
  have F_m_keepsEntry_b0 : Fld Z h b0 "org/segmentry/segment/TermBlocks" "m_keepsEntry" "Z" (.int (0 : Int32)) := D_b0 (Or.inl (hw _ (List.mem_of_getElem? (i := 52) rfl))) (ty := .boolean) (by decide)
  have F_m_entry_b0 : Fld Z h b0 "org/segmentry/segment/TermBlocks" "m_entry" "J" (.long (0 : Int64)) := D_b0 (Or.inl (hw _ (List.mem_of_getElem? (i := 55) rfl))) (ty := .long) (by decide)
  have F_m_entryBefore_b0 : Fld Z h b0 "org/segmentry/segment/TermBlocks" "m_entryBefore" "J" (.long (0 : Int64)) := D_b0 (Or.inl (hw _ (List.mem_of_getElem? (i := 57) rfl))) (ty := .long) (by decide)
  show Go p e below s _ _ T (mkF m 3 #[.val (.int a1), .val (.int b1), .val (.int c1), .val (.int d1), .val (.int x1), .val (.int fl), .unset, .unset, .unset, .unset, .unset, .unset, .unset, .unset, .unset] [(.ref b0)])
  refine Go.of (fun _ kq => XS.dup X.here hx rfl (hb hby at_3) rfl rfl kq) ?_
  show Go p e below s _ _ T (mkF m 4 #[.val (.int a1), .val (.int b1), .val (.int c1), .val (.int d1), .val (.int x1), .val (.int fl), .unset, .unset, .unset, .unset, .unset, .unset, .unset, .unset, .unset] [(.ref b0), (.ref b0)])
  refine Go.special (a := b0) X hx hZ hown rfl (hw _ (List.mem_of_getElem? (i := 3) rfl)) (hw _ (List.mem_of_getElem? (i := 4) rfl)) (hw _ (List.mem_of_getElem? (i := 2) rfl)) (hw _ (List.mem_of_getElem? (i := 5) rfl)) (by decide) (rmNew hw b0 _ n0 (Nat.le_trans Z0 K.1) g_b0 E_b0 F_m_documents_b0 F_m_frequencies_b0 F_m_lengths_b0 F_m_count_b0 F_m_blocked_b0 F_m_last_b0 F_m_base_b0 F_m_keepsEntry_b0 F_m_entry_b0 F_m_entryBefore_b0 F_m_pairFrequencies_b0 F_m_pairLengths_b0 F_m_bounds_b0) eT 1 (by decide) (by decide) (by decide) (by decide) (by rw [hml]; rfl) (argsL := []) [(.ref b0)] (lenOf pd5 rfl) rfl rfl (Nat.le_of_eq rfl) (hb hby at_4) ?_
  intro v T L' X hQ
  obtain ⟨h, eT⟩ : ∃ z, T.heap = z := ⟨_, rfl⟩
  rw [eT] at hQ
  obtain ⟨rfl, N', K', d, f, g, zd, zf, zg, ne_o_d, ne_o_f, ne_o_g, ne_d_f, ne_d_g, ne_f_g, TT⟩ := hQ
  have N := Fr.app N N'
  have z_d := Nat.le_trans K.1 zd
  have z_f := Nat.le_trans K.1 zf
  have z_g := Nat.le_trans K.1 zg
  have g_d := Nat.le_trans Z0 z_d
  have g_f := Nat.le_trans Z0 z_f
  have g_g := Nat.le_trans Z0 z_g
  have K := K.trans K' (own_all1 (Or.inr z_b0))
  have E_b0 := E_b0.keep K'
  show Go p e below s _ _ T (mkF m 7 #[.val (.int a1), .val (.int b1), .val (.int c1), .val (.int d1), .val (.int x1), .val (.int fl), .unset, .unset, .unset, .unset, .unset, .unset, .unset, .unset, .unset] [(.ref b0)])
  refine Go.of (fun _ kq => XS.astore X.here hx rfl (hb hby at_7) rfl rfl (l' := #[.val (.int a1), .val (.int b1), .val (.int c1), .val (.int d1), .val (.int x1), .val (.int fl), .val (.ref b0), .unset, .unset, .unset, .unset, .unset, .unset, .unset, .unset]) rfl kq) ?_
  show Go p e below s _ _ T (mkF m 9 #[.val (.int a1), .val (.int b1), .val (.int c1), .val (.int d1), .val (.int x1), .val (.int fl), .val (.ref b0), .unset, .unset, .unset, .unset, .unset, .unset, .unset, .unset] [])
  refine Go.of (fun _ kq => XS.aload X.here hx rfl (hb hby at_9) rfl rfl kq) ?_
  show Go p e below s _ _ T (mkF m 11 #[.val (.int a1), .val (.int b1), .val (.int c1), .val (.int d1), .val (.int x1), .val (.int fl), .val (.ref b0), .unset, .unset, .unset, .unset, .unset, .unset, .unset, .unset] [(.ref b0)])
  refine Go.join (fun kz : Int32 => True) (fun kz => (mkF m 24 #[.val (.int a1), .val (.int b1), .val (.int c1), .val (.int d1), .val (.int x1), .val (.int fl), .val (.ref b0), .unset, .unset, .unset, .unset, .unset, .unset, .unset, .unset] [(.int kz), (.ref b0)])) ?_ ?_
  · intro kz hkz
    show Go p e below s _ _ T (mkF m 24 #[.val (.int a1), .val (.int b1), .val (.int c1), .val (.int d1), .val (.int x1), .val (.int fl), .val (.ref b0), .unset, .unset, .unset, .unset, .unset, .unset, .unset, .unset] [(.int kz), (.ref b0)])
    refine Go.virtual (a := b0) X hx hZ hown (hw _ (List.mem_of_getElem? (i := 38) rfl)) (hw _ (List.mem_of_getElem? (i := 39) rfl)) (notFace_of_selects (args := #[]) (mvT hZ (hw _ (List.mem_of_getElem? (i := 41) rfl)))) (hw _ (List.mem_of_getElem? (i := 41) rfl)) (hw _ (List.mem_of_getElem? (i := 40) rfl)) (hw _ (List.mem_of_getElem? (i := 2) rfl)) (hw _ (List.mem_of_getElem? (i := 42) rfl)) (by decide) (rmStart hw b0 kz d f g _ n0 g_b0 ne_o_d ne_o_f ne_o_g E_b0 TT) eT E_b0 0 (by decide) (by decide) (by decide) (by decide) (by rw [hml]; rfl) (argsL := [(.int kz)]) [] (lenOf pd8 rfl) rfl rfl (Nat.le_of_eq rfl) (hb hby at_24) ?_
    intro v T L' X hQ
    obtain ⟨h, eT⟩ : ∃ z, T.heap = z := ⟨_, rfl⟩
    rw [eT] at hQ
    obtain ⟨rfl, N', K', ke1, D1, Fq1, G1, TV⟩ := hQ
    have N := Fr.app N N'
    have K := K.trans K' (own_all1 (Or.inr z_b0))
    have E_b0 := E_b0.keep K'
    show Go p e below s _ _ T (mkF m 27 #[.val (.int a1), .val (.int b1), .val (.int c1), .val (.int d1), .val (.int x1), .val (.int fl), .val (.ref b0), .unset, .unset, .unset, .unset, .unset, .unset, .unset, .unset] [])
    refine Go.of (fun _ kq => XS.iload X.here hx rfl (hb hby at_27) rfl kq) ?_
    show Go p e below s _ _ T (mkF m 29 #[.val (.int a1), .val (.int b1), .val (.int c1), .val (.int d1), .val (.int x1), .val (.int fl), .val (.ref b0), .unset, .unset, .unset, .unset, .unset, .unset, .unset, .unset] [(.int fl)])
    refine Go.of (fun _ kq => XS.iconst X.here hx rfl (hb hby at_29) kq) ?_
    show Go p e below s _ _ T (mkF m 30 #[.val (.int a1), .val (.int b1), .val (.int c1), .val (.int d1), .val (.int x1), .val (.int fl), .val (.ref b0), .unset, .unset, .unset, .unset, .unset, .unset, .unset, .unset] [(.int (1 : Int32)), (.int fl)])
    refine Go.of (fun _ kq => XS.iushr X.here hx rfl (hb hby at_30) rfl kq) ?_
    show Go p e below s _ _ T (mkF m 31 #[.val (.int a1), .val (.int b1), .val (.int c1), .val (.int d1), .val (.int x1), .val (.int fl), .val (.ref b0), .unset, .unset, .unset, .unset, .unset, .unset, .unset, .unset] [(.int ((fl.toUInt32 >>> ((1 : Int32) &&& 31).toUInt32).toInt32))])
    refine Go.of (fun _ kq => XS.iconst X.here hx rfl (hb hby at_31) kq) ?_
    show Go p e below s _ _ T (mkF m 32 #[.val (.int a1), .val (.int b1), .val (.int c1), .val (.int d1), .val (.int x1), .val (.int fl), .val (.ref b0), .unset, .unset, .unset, .unset, .unset, .unset, .unset, .unset] [(.int (3 : Int32)), (.int ((fl.toUInt32 >>> ((1 : Int32) &&& 31).toUInt32).toInt32))])
    refine Go.of (fun _ kq => XS.iand X.here hx rfl (hb hby at_32) rfl kq) ?_
    show Go p e below s _ _ T (mkF m 33 #[.val (.int a1), .val (.int b1), .val (.int c1), .val (.int d1), .val (.int x1), .val (.int fl), .val (.ref b0), .unset, .unset, .unset, .unset, .unset, .unset, .unset, .unset] [(.int (((fl.toUInt32 >>> ((1 : Int32) &&& 31).toUInt32).toInt32) &&& (3 : Int32)))])
    refine Go.of (fun _ kq => XS.istore X.here hx rfl (hb hby at_33) rfl (l' := #[.val (.int a1), .val (.int b1), .val (.int c1), .val (.int d1), .val (.int x1), .val (.int fl), .val (.ref b0), .val (.int (((fl.toUInt32 >>> ((1 : Int32) &&& 31).toUInt32).toInt32) &&& (3 : Int32))), .unset, .unset, .unset, .unset, .unset, .unset, .unset]) rfl kq) ?_
    show Go p e below s _ _ T (mkF m 35 #[.val (.int a1), .val (.int b1), .val (.int c1), .val (.int d1), .val (.int x1), .val (.int fl), .val (.ref b0), .val (.int (((fl.toUInt32 >>> ((1 : Int32) &&& 31).toUInt32).toInt32) &&& (3 : Int32))), .unset, .unset, .unset, .unset, .unset, .unset, .unset] [])
    refine Go.of (fun _ kq => XS.iloadN X.here hx rfl (hb hby at_35) rfl kq) ?_
    show Go p e below s _ _ T (mkF m 36 #[.val (.int a1), .val (.int b1), .val (.int c1), .val (.int d1), .val (.int x1), .val (.int fl), .val (.ref b0), .val (.int (((fl.toUInt32 >>> ((1 : Int32) &&& 31).toUInt32).toInt32) &&& (3 : Int32))), .unset, .unset, .unset, .unset, .unset, .unset, .unset] [(.int a1)])
    refine Go.of (X.ldcInt hx hown (mvT hZ (hw _ (List.mem_of_getElem? (i := 58) rfl))) (g := (mkF m 36 #[.val (.int a1), .val (.int b1), .val (.int c1), .val (.int d1), .val (.int x1), .val (.int fl), .val (.ref b0), .val (.int (((fl.toUInt32 >>> ((1 : Int32) &&& 31).toUInt32).toInt32) &&& (3 : Int32))), .unset, .unset, .unset, .unset, .unset, .unset, .unset] [(.int a1)])) rfl (hb hby at_36)) ?_
    show Go p e below s _ _ T (mkF m 38 #[.val (.int a1), .val (.int b1), .val (.int c1), .val (.int d1), .val (.int x1), .val (.int fl), .val (.ref b0), .val (.int (((fl.toUInt32 >>> ((1 : Int32) &&& 31).toUInt32).toInt32) &&& (3 : Int32))), .unset, .unset, .unset, .unset, .unset, .unset, .unset] [(.int (1073741823 : Int32)), (.int a1)])
    refine Go.of (fun _ kq => XS.iand X.here hx rfl (hb hby at_38) rfl kq) ?_
    show Go p e below s _ _ T (mkF m 39 #[.val (.int a1), .val (.int b1), .val (.int c1), .val (.int d1), .val (.int x1), .val (.int fl), .val (.ref b0), .val (.int (((fl.toUInt32 >>> ((1 : Int32) &&& 31).toUInt32).toInt32) &&& (3 : Int32))), .unset, .unset, .unset, .unset, .unset, .unset, .unset] [(.int (a1 &&& (1073741823 : Int32)))])
    refine Go.of (fun _ kq => XS.istore X.here hx rfl (hb hby at_39) rfl (l' := #[.val (.int a1), .val (.int b1), .val (.int c1), .val (.int d1), .val (.int x1), .val (.int fl), .val (.ref b0), .val (.int (((fl.toUInt32 >>> ((1 : Int32) &&& 31).toUInt32).toInt32) &&& (3 : Int32))), .val (.int (a1 &&& (1073741823 : Int32))), .unset, .unset, .unset, .unset, .unset, .unset]) rfl kq) ?_
    show Go p e below s _ _ T (mkF m 41 #[.val (.int a1), .val (.int b1), .val (.int c1), .val (.int d1), .val (.int x1), .val (.int fl), .val (.ref b0), .val (.int (((fl.toUInt32 >>> ((1 : Int32) &&& 31).toUInt32).toInt32) &&& (3 : Int32))), .val (.int (a1 &&& (1073741823 : Int32))), .unset, .unset, .unset, .unset, .unset, .unset] [])
    refine Go.of (fun _ kq => XS.iload X.here hx rfl (hb hby at_41) rfl kq) ?_
    show Go p e below s _ _ T (mkF m 43 #[.val (.int a1), .val (.int b1), .val (.int c1), .val (.int d1), .val (.int x1), .val (.int fl), .val (.ref b0), .val (.int (((fl.toUInt32 >>> ((1 : Int32) &&& 31).toUInt32).toInt32) &&& (3 : Int32))), .val (.int (a1 &&& (1073741823 : Int32))), .unset, .unset, .unset, .unset, .unset, .unset] [(.int (a1 &&& (1073741823 : Int32)))])
    refine Go.of (fun _ kq => XS.iconst X.here hx rfl (hb hby at_43) kq) ?_
    show Go p e below s _ _ T (mkF m 44 #[.val (.int a1), .val (.int b1), .val (.int c1), .val (.int d1), .val (.int x1), .val (.int fl), .val (.ref b0), .val (.int (((fl.toUInt32 >>> ((1 : Int32) &&& 31).toUInt32).toInt32) &&& (3 : Int32))), .val (.int (a1 &&& (1073741823 : Int32))), .unset, .unset, .unset, .unset, .unset, .unset] [(.int (1 : Int32)), (.int (a1 &&& (1073741823 : Int32)))])
    refine Go.of (fun _ kq => XS.iadd X.here hx rfl (hb hby at_44) rfl kq) ?_
    show Go p e below s _ _ T (mkF m 45 #[.val (.int a1), .val (.int b1), .val (.int c1), .val (.int d1), .val (.int x1), .val (.int fl), .val (.ref b0), .val (.int (((fl.toUInt32 >>> ((1 : Int32) &&& 31).toUInt32).toInt32) &&& (3 : Int32))), .val (.int (a1 &&& (1073741823 : Int32))), .unset, .unset, .unset, .unset, .unset, .unset] [(.int ((a1 &&& (1073741823 : Int32)) + (1 : Int32)))])
    refine Go.of (fun _ kq => XS.iloadN X.here hx rfl (hb hby at_45) rfl kq) ?_
    show Go p e below s _ _ T (mkF m 46 #[.val (.int a1), .val (.int b1), .val (.int c1), .val (.int d1), .val (.int x1), .val (.int fl), .val (.ref b0), .val (.int (((fl.toUInt32 >>> ((1 : Int32) &&& 31).toUInt32).toInt32) &&& (3 : Int32))), .val (.int (a1 &&& (1073741823 : Int32))), .unset, .unset, .unset, .unset, .unset, .unset] [(.int b1), (.int ((a1 &&& (1073741823 : Int32)) + (1 : Int32)))])
    refine Go.of (X.ldcInt hx hown (mvT hZ (hw _ (List.mem_of_getElem? (i := 58) rfl))) (g := (mkF m 46 #[.val (.int a1), .val (.int b1), .val (.int c1), .val (.int d1), .val (.int x1), .val (.int fl), .val (.ref b0), .val (.int (((fl.toUInt32 >>> ((1 : Int32) &&& 31).toUInt32).toInt32) &&& (3 : Int32))), .val (.int (a1 &&& (1073741823 : Int32))), .unset, .unset, .unset, .unset, .unset, .unset] [(.int b1), (.int ((a1 &&& (1073741823 : Int32)) + (1 : Int32)))])) rfl (hb hby at_46)) ?_
    show Go p e below s _ _ T (mkF m 48 #[.val (.int a1), .val (.int b1), .val (.int c1), .val (.int d1), .val (.int x1), .val (.int fl), .val (.ref b0), .val (.int (((fl.toUInt32 >>> ((1 : Int32) &&& 31).toUInt32).toInt32) &&& (3 : Int32))), .val (.int (a1 &&& (1073741823 : Int32))), .unset, .unset, .unset, .unset, .unset, .unset] [(.int (1073741823 : Int32)), (.int b1), (.int ((a1 &&& (1073741823 : Int32)) + (1 : Int32)))])
    refine Go.of (fun _ kq => XS.iand X.here hx rfl (hb hby at_48) rfl kq) ?_
    show Go p e below s _ _ T (mkF m 49 #[.val (.int a1), .val (.int b1), .val (.int c1), .val (.int d1), .val (.int x1), .val (.int fl), .val (.ref b0), .val (.int (((fl.toUInt32 >>> ((1 : Int32) &&& 31).toUInt32).toInt32) &&& (3 : Int32))), .val (.int (a1 &&& (1073741823 : Int32))), .unset, .unset, .unset, .unset, .unset, .unset] [(.int (b1 &&& (1073741823 : Int32))), (.int ((a1 &&& (1073741823 : Int32)) + (1 : Int32)))])
    refine Go.of (fun _ kq => XS.iadd X.here hx rfl (hb hby at_49) rfl kq) ?_
    show Go p e below s _ _ T (mkF m 50 #[.val (.int a1), .val (.int b1), .val (.int c1), .val (.int d1), .val (.int x1), .val (.int fl), .val (.ref b0), .val (.int (((fl.toUInt32 >>> ((1 : Int32) &&& 31).toUInt32).toInt32) &&& (3 : Int32))), .val (.int (a1 &&& (1073741823 : Int32))), .unset, .unset, .unset, .unset, .unset, .unset] [(.int (((a1 &&& (1073741823 : Int32)) + (1 : Int32)) + (b1 &&& (1073741823 : Int32))))])
    refine Go.of (fun _ kq => XS.istore X.here hx rfl (hb hby at_50) rfl (l' := #[.val (.int a1), .val (.int b1), .val (.int c1), .val (.int d1), .val (.int x1), .val (.int fl), .val (.ref b0), .val (.int (((fl.toUInt32 >>> ((1 : Int32) &&& 31).toUInt32).toInt32) &&& (3 : Int32))), .val (.int (a1 &&& (1073741823 : Int32))), .val (.int (((a1 &&& (1073741823 : Int32)) + (1 : Int32)) + (b1 &&& (1073741823 : Int32)))), .unset, .unset, .unset, .unset, .unset]) rfl kq) ?_
    show Go p e below s _ _ T (mkF m 52 #[.val (.int a1), .val (.int b1), .val (.int c1), .val (.int d1), .val (.int x1), .val (.int fl), .val (.ref b0), .val (.int (((fl.toUInt32 >>> ((1 : Int32) &&& 31).toUInt32).toInt32) &&& (3 : Int32))), .val (.int (a1 &&& (1073741823 : Int32))), .val (.int (((a1 &&& (1073741823 : Int32)) + (1 : Int32)) + (b1 &&& (1073741823 : Int32)))), .unset, .unset, .unset, .unset, .unset] [])
    obtain ⟨nn, h_nn⟩ : ∃ z : Int32, z = (((fl.toUInt32 >>> ((1 : Int32) &&& 31).toUInt32).toInt32) &&& (3 : Int32)) := ⟨_, rfl⟩
    rw [← h_nn]
    have he0 := own_m30 a1
    obtain ⟨e0, h_e0⟩ : ∃ z : Int32, z = (a1 &&& (1073741823 : Int32)) := ⟨_, rfl⟩
    rw [← h_e0]
    rw [← h_e0] at he0
    have he1 := own_m30 b1
    have hu := own_up he0.1 he1.1 (by omega)
    obtain ⟨e1, h_e1⟩ : ∃ z : Int32, z = ((e0 + (1 : Int32)) + (b1 &&& (1073741823 : Int32))) := ⟨_, rfl⟩
    rw [← h_e1]
    rw [← h_e1] at hu
    have hlt : e0 < e1 := by rw [Int32.lt_iff_toInt_lt]; omega
    refine Go.joinT (α := Unit) X (fun u locs h => Fr n0 locs ∧ Keep h0 h [] ∧ Exa Z h b0 "org/segmentry/segment/TermBlocks" ∧ TB Z h b0 d f g) (fun u => (mkF m 82 #[.val (.int a1), .val (.int b1), .val (.int c1), .val (.int d1), .val (.int x1), .val (.int fl), .val (.ref b0), .val (.int nn), .val (.int e0), .val (.int e1), .unset, .unset, .unset, .unset, .unset] [])) ?_ ?_
    · intro u T locs h X eT hI
      obtain ⟨N, K, E_b0, TT⟩ := hI
      show Go p e below s _ _ T (mkF m 82 #[.val (.int a1), .val (.int b1), .val (.int c1), .val (.int d1), .val (.int x1), .val (.int fl), .val (.ref b0), .val (.int nn), .val (.int e0), .val (.int e1), .unset, .unset, .unset, .unset, .unset] [])
      refine Go.joinT (α := Unit) X (fun u locs h => Fr n0 locs ∧ Keep h0 h [] ∧ Exa Z h b0 "org/segmentry/segment/TermBlocks" ∧ TB Z h b0 d f g) (fun u => (mkF m 100 #[.val (.int a1), .val (.int b1), .val (.int c1), .val (.int d1), .val (.int x1), .val (.int fl), .val (.ref b0), .val (.int nn), .val (.int e0), .val (.int e1), .unset, .unset, .unset, .unset, .unset] [])) ?_ ?_
      · intro u T locs h X eT hI
        obtain ⟨N, K, E_b0, TT⟩ := hI
        show Go p e below s _ _ T (mkF m 100 #[.val (.int a1), .val (.int b1), .val (.int c1), .val (.int d1), .val (.int x1), .val (.int fl), .val (.ref b0), .val (.int nn), .val (.int e0), .val (.int e1), .unset, .unset, .unset, .unset, .unset] [])
        refine Go.of (fun _ kq => XS.aload X.here hx rfl (hb hby at_100) rfl rfl kq) ?_
        show Go p e below s _ _ T (mkF m 102 #[.val (.int a1), .val (.int b1), .val (.int c1), .val (.int d1), .val (.int x1), .val (.int fl), .val (.ref b0), .val (.int nn), .val (.int e0), .val (.int e1), .unset, .unset, .unset, .unset, .unset] [(.ref b0)])
        refine Go.join (fun kz2 : Int32 => True) (fun kz2 => (mkF m 114 #[.val (.int a1), .val (.int b1), .val (.int c1), .val (.int d1), .val (.int x1), .val (.int fl), .val (.ref b0), .val (.int nn), .val (.int e0), .val (.int e1), .unset, .unset, .unset, .unset, .unset] [(.int kz2), (.ref b0)])) ?_ ?_
        · intro kz2 hkz2
          show Go p e below s _ _ T (mkF m 114 #[.val (.int a1), .val (.int b1), .val (.int c1), .val (.int d1), .val (.int x1), .val (.int fl), .val (.ref b0), .val (.int nn), .val (.int e0), .val (.int e1), .unset, .unset, .unset, .unset, .unset] [(.int kz2), (.ref b0)])
          refine Go.virtual (a := b0) X hx hZ hown (hw _ (List.mem_of_getElem? (i := 38) rfl)) (hw _ (List.mem_of_getElem? (i := 39) rfl)) (notFace_of_selects (args := #[]) (mvT hZ (hw _ (List.mem_of_getElem? (i := 41) rfl)))) (hw _ (List.mem_of_getElem? (i := 41) rfl)) (hw _ (List.mem_of_getElem? (i := 40) rfl)) (hw _ (List.mem_of_getElem? (i := 2) rfl)) (hw _ (List.mem_of_getElem? (i := 42) rfl)) (by decide) (rmStart hw b0 kz2 d f g _ n0 g_b0 ne_o_d ne_o_f ne_o_g E_b0 TT) eT E_b0 0 (by decide) (by decide) (by decide) (by decide) (by rw [hml]; rfl) (argsL := [(.int kz2)]) [] (lenOf pd8 rfl) rfl rfl (Nat.le_of_eq rfl) (hb hby at_114) ?_
          intro v T L' X hQ
          obtain ⟨h, eT⟩ : ∃ z, T.heap = z := ⟨_, rfl⟩
          rw [eT] at hQ
          obtain ⟨rfl, N', K', ke2, D2, Fq2, G2, TV⟩ := hQ
          have N := Fr.app N N'
          have K := K.trans K' (own_all1 (Or.inr z_b0))
          have E_b0 := E_b0.keep K'
          show Go p e below s _ _ T (mkF m 117 #[.val (.int a1), .val (.int b1), .val (.int c1), .val (.int d1), .val (.int x1), .val (.int fl), .val (.ref b0), .val (.int nn), .val (.int e0), .val (.int e1), .unset, .unset, .unset, .unset, .unset] [])
          refine Go.of (fun _ kq => XS.aload X.here hx rfl (hb hby at_117) rfl rfl kq) ?_
          show Go p e below s _ _ T (mkF m 119 #[.val (.int a1), .val (.int b1), .val (.int c1), .val (.int d1), .val (.int x1), .val (.int fl), .val (.ref b0), .val (.int nn), .val (.int e0), .val (.int e1), .unset, .unset, .unset, .unset, .unset] [(.ref b0)])
          refine Go.virtual (a := b0) X hx hZ hown (hw _ (List.mem_of_getElem? (i := 69) rfl)) (hw _ (List.mem_of_getElem? (i := 70) rfl)) (notFace_of_selects (args := #[]) (mvT hZ (hw _ (List.mem_of_getElem? (i := 72) rfl)))) (hw _ (List.mem_of_getElem? (i := 72) rfl)) (hw _ (List.mem_of_getElem? (i := 71) rfl)) (hw _ (List.mem_of_getElem? (i := 2) rfl)) (hw _ (List.mem_of_getElem? (i := 73) rfl)) (by decide) (rmHolds hw b0 (0 : Int32) _ n0 TV.2.2.2.1) eT E_b0 0 (by decide) (by decide) (by decide) (by decide) (by rw [hml]; rfl) (argsL := []) [] (lenOf pd6 rfl) rfl rfl (Nat.le_of_eq rfl) (hb hby at_119) ?_
          intro v T L' X hQ
          obtain ⟨rfl, N', eT⟩ := hQ
          have N := Fr.app N N'
          rw [show own_holds (0 : Int32) = (0 : Int32) by decide]
          show Go p e below s _ _ T (mkF m 122 #[.val (.int a1), .val (.int b1), .val (.int c1), .val (.int d1), .val (.int x1), .val (.int fl), .val (.ref b0), .val (.int nn), .val (.int e0), .val (.int e1), .unset, .unset, .unset, .unset, .unset] [(.int (0 : Int32))])
          refine Go.of (fun _ kq => XS.ifNo X.here hx rfl (hb hby at_122) rfl ((if0 _ _).trans (teq (by decide)).2) kq) ?_
          show Go p e below s _ _ T (mkF m 125 #[.val (.int a1), .val (.int b1), .val (.int c1), .val (.int d1), .val (.int x1), .val (.int fl), .val (.ref b0), .val (.int nn), .val (.int e0), .val (.int e1), .unset, .unset, .unset, .unset, .unset] [])
          refine Go.of (fun _ kq => XS.aload X.here hx rfl (hb hby at_125) rfl rfl kq) ?_
          show Go p e below s _ _ T (mkF m 127 #[.val (.int a1), .val (.int b1), .val (.int c1), .val (.int d1), .val (.int x1), .val (.int fl), .val (.ref b0), .val (.int nn), .val (.int e0), .val (.int e1), .unset, .unset, .unset, .unset, .unset] [(.ref b0)])
          refine Go.virtual (a := b0) X hx hZ hown (hw _ (List.mem_of_getElem? (i := 74) rfl)) (hw _ (List.mem_of_getElem? (i := 65) rfl)) (notFace_of_selects (args := #[]) (mvT hZ (hw _ (List.mem_of_getElem? (i := 67) rfl)))) (hw _ (List.mem_of_getElem? (i := 67) rfl)) (hw _ (List.mem_of_getElem? (i := 66) rfl)) (hw _ (List.mem_of_getElem? (i := 2) rfl)) (hw _ (List.mem_of_getElem? (i := 68) rfl)) (by decide) (rmFull hw b0 (0 : Int32) _ n0 TV.2.2.2.1) eT E_b0 0 (by decide) (by decide) (by decide) (by decide) (by rw [hml]; rfl) (argsL := []) [] (lenOf pd6 rfl) rfl rfl (Nat.le_of_eq rfl) (hb hby at_127) ?_
          intro v T L' X hQ
          obtain ⟨rfl, N', eT⟩ := hQ
          have N := Fr.app N N'
          rw [show own_full (0 : Int32) = (0 : Int32) by decide]
          show Go p e below s _ _ T (mkF m 130 #[.val (.int a1), .val (.int b1), .val (.int c1), .val (.int d1), .val (.int x1), .val (.int fl), .val (.ref b0), .val (.int nn), .val (.int e0), .val (.int e1), .unset, .unset, .unset, .unset, .unset] [(.int (0 : Int32))])
          refine Go.of (fun _ kq => XS.ifNo X.here hx rfl (hb hby at_130) rfl ((if0 _ _).trans (teq (by decide)).2) kq) ?_
          show Go p e below s _ _ T (mkF m 133 #[.val (.int a1), .val (.int b1), .val (.int c1), .val (.int d1), .val (.int x1), .val (.int fl), .val (.ref b0), .val (.int nn), .val (.int e0), .val (.int e1), .unset, .unset, .unset, .unset, .unset] [])
          refine Go.of (fun _ kq => XS.iconst X.here hx rfl (hb hby at_133) kq) ?_
          show Go p e below s _ _ T (mkF m 134 #[.val (.int a1), .val (.int b1), .val (.int c1), .val (.int d1), .val (.int x1), .val (.int fl), .val (.ref b0), .val (.int nn), .val (.int e0), .val (.int e1), .unset, .unset, .unset, .unset, .unset] [(.int (1 : Int32))])
          refine Go.of (fun _ kq => XS.goto X.here hx rfl (pc0 := 134) (pc' := 138) rfl (hb hby at_134) (by decide) (by decide) kq) ?_
          show Go p e below s _ _ T (mkF m 138 #[.val (.int a1), .val (.int b1), .val (.int c1), .val (.int d1), .val (.int x1), .val (.int fl), .val (.ref b0), .val (.int nn), .val (.int e0), .val (.int e1), .unset, .unset, .unset, .unset, .unset] [(.int (1 : Int32))])
          refine Go.of (fun _ kq => XS.istore X.here hx rfl (hb hby at_138) rfl (l' := #[.val (.int a1), .val (.int b1), .val (.int c1), .val (.int d1), .val (.int x1), .val (.int fl), .val (.ref b0), .val (.int nn), .val (.int e0), .val (.int e1), .val (.int (1 : Int32)), .unset, .unset, .unset, .unset]) rfl kq) ?_
          show Go p e below s _ _ T (mkF m 140 #[.val (.int a1), .val (.int b1), .val (.int c1), .val (.int d1), .val (.int x1), .val (.int fl), .val (.ref b0), .val (.int nn), .val (.int e0), .val (.int e1), .val (.int (1 : Int32)), .unset, .unset, .unset, .unset] [])
          refine Go.join (fun doc : Int32 => 0 ≤ doc.toInt) (fun doc => (mkF m 156 #[.val (.int a1), .val (.int b1), .val (.int c1), .val (.int d1), .val (.int x1), .val (.int fl), .val (.ref b0), .val (.int nn), .val (.int e0), .val (.int e1), .val (.int (1 : Int32)), .unset, .unset, .unset, .unset] [(.int doc)])) ?_ ?_
          · intro doc hdoc
            show Go p e below s _ _ T (mkF m 156 #[.val (.int a1), .val (.int b1), .val (.int c1), .val (.int d1), .val (.int x1), .val (.int fl), .val (.ref b0), .val (.int nn), .val (.int e0), .val (.int e1), .val (.int (1 : Int32)), .unset, .unset, .unset, .unset] [(.int doc)])
            refine Go.of (fun _ kq => XS.istore X.here hx rfl (hb hby at_156) rfl (l' := #[.val (.int a1), .val (.int b1), .val (.int c1), .val (.int d1), .val (.int x1), .val (.int fl), .val (.ref b0), .val (.int nn), .val (.int e0), .val (.int e1), .val (.int (1 : Int32)), .val (.int doc), .unset, .unset, .unset]) rfl kq) ?_
            show Go p e below s _ _ T (mkF m 158 #[.val (.int a1), .val (.int b1), .val (.int c1), .val (.int d1), .val (.int x1), .val (.int fl), .val (.ref b0), .val (.int nn), .val (.int e0), .val (.int e1), .val (.int (1 : Int32)), .val (.int doc), .unset, .unset, .unset] [])
            refine Go.of (fun _ kq => XS.iconst X.here hx rfl (hb hby at_158) kq) ?_
            show Go p e below s _ _ T (mkF m 159 #[.val (.int a1), .val (.int b1), .val (.int c1), .val (.int d1), .val (.int x1), .val (.int fl), .val (.ref b0), .val (.int nn), .val (.int e0), .val (.int e1), .val (.int (1 : Int32)), .val (.int doc), .unset, .unset, .unset] [(.int (1 : Int32))])
            refine Go.of (fun _ kq => XS.iload X.here hx rfl (hb hby at_159) rfl kq) ?_
            show Go p e below s _ _ T (mkF m 161 #[.val (.int a1), .val (.int b1), .val (.int c1), .val (.int d1), .val (.int x1), .val (.int fl), .val (.ref b0), .val (.int nn), .val (.int e0), .val (.int e1), .val (.int (1 : Int32)), .val (.int doc), .unset, .unset, .unset] [(.int x1), (.int (1 : Int32))])
            refine Go.static X hx hZ hown (hw _ (List.mem_of_getElem? (i := 76) rfl)) (hw _ (List.mem_of_getElem? (i := 77) rfl)) (hw _ (List.mem_of_getElem? (i := 78) rfl)) (hw _ (List.mem_of_getElem? (i := 79) rfl)) (by decide) (rmMax hw (1 : Int32) x1 _ n0) eT 0 (by decide) (by decide) (by decide) (by decide) (by rw [hml]; rfl) (argsL := [(.int (1 : Int32)), (.int x1)]) [] (lenOf pd7 rfl) rfl rfl (Nat.le_of_eq rfl) (hb hby at_161) ?_
            intro v T L' X hQ
            obtain ⟨fr, rfl, N', eT, hfr⟩ := hQ
            have N := Fr.app N N'
            show Go p e below s _ _ T (mkF m 164 #[.val (.int a1), .val (.int b1), .val (.int c1), .val (.int d1), .val (.int x1), .val (.int fl), .val (.ref b0), .val (.int nn), .val (.int e0), .val (.int e1), .val (.int (1 : Int32)), .val (.int doc), .unset, .unset, .unset] [(.int fr)])
            refine Go.of (fun _ kq => XS.istore X.here hx rfl (hb hby at_164) rfl (l' := #[.val (.int a1), .val (.int b1), .val (.int c1), .val (.int d1), .val (.int x1), .val (.int fl), .val (.ref b0), .val (.int nn), .val (.int e0), .val (.int e1), .val (.int (1 : Int32)), .val (.int doc), .val (.int fr), .unset, .unset]) rfl kq) ?_
            show Go p e below s _ _ T (mkF m 166 #[.val (.int a1), .val (.int b1), .val (.int c1), .val (.int d1), .val (.int x1), .val (.int fl), .val (.ref b0), .val (.int nn), .val (.int e0), .val (.int e1), .val (.int (1 : Int32)), .val (.int doc), .val (.int fr), .unset, .unset] [])
            refine Go.of (fun _ kq => XS.aload X.here hx rfl (hb hby at_166) rfl rfl kq) ?_
            show Go p e below s _ _ T (mkF m 168 #[.val (.int a1), .val (.int b1), .val (.int c1), .val (.int d1), .val (.int x1), .val (.int fl), .val (.ref b0), .val (.int nn), .val (.int e0), .val (.int e1), .val (.int (1 : Int32)), .val (.int doc), .val (.int fr), .unset, .unset] [(.ref b0)])
            refine Go.of (fun _ kq => XS.iload X.here hx rfl (hb hby at_168) rfl kq) ?_
            show Go p e below s _ _ T (mkF m 170 #[.val (.int a1), .val (.int b1), .val (.int c1), .val (.int d1), .val (.int x1), .val (.int fl), .val (.ref b0), .val (.int nn), .val (.int e0), .val (.int e1), .val (.int (1 : Int32)), .val (.int doc), .val (.int fr), .unset, .unset] [(.int doc), (.ref b0)])
            refine Go.of (fun _ kq => XS.iload X.here hx rfl (hb hby at_170) rfl kq) ?_
            show Go p e below s _ _ T (mkF m 172 #[.val (.int a1), .val (.int b1), .val (.int c1), .val (.int d1), .val (.int x1), .val (.int fl), .val (.ref b0), .val (.int nn), .val (.int e0), .val (.int e1), .val (.int (1 : Int32)), .val (.int doc), .val (.int fr), .unset, .unset] [(.int fr), (.int doc), (.ref b0)])
            refine Go.of (fun _ kq => XS.iloadN X.here hx rfl (hb hby at_172) rfl kq) ?_
            show Go p e below s _ _ T (mkF m 173 #[.val (.int a1), .val (.int b1), .val (.int c1), .val (.int d1), .val (.int x1), .val (.int fl), .val (.ref b0), .val (.int nn), .val (.int e0), .val (.int e1), .val (.int (1 : Int32)), .val (.int doc), .val (.int fr), .unset, .unset] [(.int d1), (.int fr), (.int doc), (.ref b0)])
            refine Go.virtual (a := b0) X hx hZ hown (hw _ (List.mem_of_getElem? (i := 59) rfl)) (hw _ (List.mem_of_getElem? (i := 60) rfl)) (notFace_of_selects (args := #[]) (mvT hZ (hw _ (List.mem_of_getElem? (i := 62) rfl)))) (hw _ (List.mem_of_getElem? (i := 62) rfl)) (hw _ (List.mem_of_getElem? (i := 61) rfl)) (hw _ (List.mem_of_getElem? (i := 2) rfl)) (hw _ (List.mem_of_getElem? (i := 63) rfl)) (by decide) (rmAdd hw doc fr d1 b0 d f g (0 : Int32) (0 : Int32) (-1 : Int32) (-1 : Int32) ke2 (-1 : Int64) (0 : Int64) D2 Fq2 G2 _ n0 g_b0 g_d g_f g_g ne_o_d ne_o_f ne_o_g ne_d_f ne_d_g ne_f_g (own_m1 hdoc) ⟨by decide, by decide⟩ E_b0 TV) eT E_b0 0 (by decide) (by decide) (by decide) (by decide) (by rw [hml]; rfl) (argsL := [(.int doc), (.int fr), (.int d1)]) [] (lenOf pd9 rfl) rfl rfl (Nat.le_of_eq rfl) (hb hby at_173) ?_
            intro v T L' X hQ
            obtain ⟨h, eT⟩ : ∃ z, T.heap = z := ⟨_, rfl⟩
            rw [eT] at hQ
            obtain ⟨rfl, N', K', TV⟩ := hQ
            have N := Fr.app N N'
            have K := K.trans K' (own_all4 (Or.inr z_b0) (Or.inr z_d) (Or.inr z_f) (Or.inr z_g))
            have E_b0 := E_b0.keep K'
            have TV : TBv Z h b0 d f g (1 : Int32) (0 : Int32) doc (-1 : Int32) ke2 (-1 : Int64) (0 : Int64) (updI D2 0 doc) (updI Fq2 0 fr) (updI G2 0 d1) := TV
            show Go p e below s _ _ T (mkF m 176 #[.val (.int a1), .val (.int b1), .val (.int c1), .val (.int d1), .val (.int x1), .val (.int fl), .val (.ref b0), .val (.int nn), .val (.int e0), .val (.int e1), .val (.int (1 : Int32)), .val (.int doc), .val (.int fr), .unset, .unset] [])
            refine Go.of (X.ldc2Long hx hown (mvT hZ (hw _ (List.mem_of_getElem? (i := 80) rfl))) (g := (mkF m 176 #[.val (.int a1), .val (.int b1), .val (.int c1), .val (.int d1), .val (.int x1), .val (.int fl), .val (.ref b0), .val (.int nn), .val (.int e0), .val (.int e1), .val (.int (1 : Int32)), .val (.int doc), .val (.int fr), .unset, .unset] [])) rfl (hb hby at_176)) ?_
            show Go p e below s _ _ T (mkF m 179 #[.val (.int a1), .val (.int b1), .val (.int c1), .val (.int d1), .val (.int x1), .val (.int fl), .val (.ref b0), .val (.int nn), .val (.int e0), .val (.int e1), .val (.int (1 : Int32)), .val (.int doc), .val (.int fr), .unset, .unset] [(.long (2 : Int64))])
            refine Go.of (fun _ kq => XS.iload X.here hx rfl (hb hby at_179) rfl kq) ?_
            show Go p e below s _ _ T (mkF m 181 #[.val (.int a1), .val (.int b1), .val (.int c1), .val (.int d1), .val (.int x1), .val (.int fl), .val (.ref b0), .val (.int nn), .val (.int e0), .val (.int e1), .val (.int (1 : Int32)), .val (.int doc), .val (.int fr), .unset, .unset] [(.int doc), (.long (2 : Int64))])
            refine Go.of (fun _ kq => XS.i2l X.here hx rfl (hb hby at_181) rfl kq) ?_
            show Go p e below s _ _ T (mkF m 182 #[.val (.int a1), .val (.int b1), .val (.int c1), .val (.int d1), .val (.int x1), .val (.int fl), .val (.ref b0), .val (.int nn), .val (.int e0), .val (.int e1), .val (.int (1 : Int32)), .val (.int doc), .val (.int fr), .unset, .unset] [(.long (doc.toInt64)), (.long (2 : Int64))])
            refine Go.of (fun _ kq => XS.lmul X.here hx rfl (hb hby at_182) rfl kq) ?_
            show Go p e below s _ _ T (mkF m 183 #[.val (.int a1), .val (.int b1), .val (.int c1), .val (.int d1), .val (.int x1), .val (.int fl), .val (.ref b0), .val (.int nn), .val (.int e0), .val (.int e1), .val (.int (1 : Int32)), .val (.int doc), .val (.int fr), .unset, .unset] [(.long ((2 : Int64) * (doc.toInt64)))])
            refine Go.join (fun z : Int32 => z = if fr = 1 then 1 else 0) (fun z => (mkF m 194 #[.val (.int a1), .val (.int b1), .val (.int c1), .val (.int d1), .val (.int x1), .val (.int fl), .val (.ref b0), .val (.int nn), .val (.int e0), .val (.int e1), .val (.int (1 : Int32)), .val (.int doc), .val (.int fr), .unset, .unset] [(.int z), (.long ((2 : Int64) * (doc.toInt64)))])) ?_ ?_
            · intro z hz
              show Go p e below s _ _ T (mkF m 194 #[.val (.int a1), .val (.int b1), .val (.int c1), .val (.int d1), .val (.int x1), .val (.int fl), .val (.ref b0), .val (.int nn), .val (.int e0), .val (.int e1), .val (.int (1 : Int32)), .val (.int doc), .val (.int fr), .unset, .unset] [(.int z), (.long ((2 : Int64) * (doc.toInt64)))])
              refine Go.of (fun _ kq => XS.i2l X.here hx rfl (hb hby at_194) rfl kq) ?_
              show Go p e below s _ _ T (mkF m 195 #[.val (.int a1), .val (.int b1), .val (.int c1), .val (.int d1), .val (.int x1), .val (.int fl), .val (.ref b0), .val (.int nn), .val (.int e0), .val (.int e1), .val (.int (1 : Int32)), .val (.int doc), .val (.int fr), .unset, .unset] [(.long (z.toInt64)), (.long ((2 : Int64) * (doc.toInt64)))])
              refine Go.of (fun _ kq => XS.ladd X.here hx rfl (hb hby at_195) rfl kq) ?_
              show Go p e below s _ _ T (mkF m 196 #[.val (.int a1), .val (.int b1), .val (.int c1), .val (.int d1), .val (.int x1), .val (.int fl), .val (.ref b0), .val (.int nn), .val (.int e0), .val (.int e1), .val (.int (1 : Int32)), .val (.int doc), .val (.int fr), .unset, .unset] [(.long (((2 : Int64) * (doc.toInt64)) + (z.toInt64)))])
              refine Go.static X hx hZ hown (hw _ (List.mem_of_getElem? (i := 81) rfl)) (hw _ (List.mem_of_getElem? (i := 82) rfl)) (hw _ (List.mem_of_getElem? (i := 83) rfl)) (hw _ (List.mem_of_getElem? (i := 84) rfl)) (by decide) (rmVlen hw (((2 : Int64) * (doc.toInt64)) + (z.toInt64)) _ n0) eT 0 (by decide) (by decide) (by decide) (by decide) (by rw [hml]; rfl) (argsL := [(.long (((2 : Int64) * (doc.toInt64)) + (z.toInt64)))]) [] (lenOf pd1 rfl) rfl rfl (Nat.le_of_eq rfl) (hb hby at_196) ?_
              intro v T L' X hQ
              obtain ⟨rfl, N', eT⟩ := hQ
              have N := Fr.app N N'
              show Go p e below s _ _ T (mkF m 199 #[.val (.int a1), .val (.int b1), .val (.int c1), .val (.int d1), .val (.int x1), .val (.int fl), .val (.ref b0), .val (.int nn), .val (.int e0), .val (.int e1), .val (.int (1 : Int32)), .val (.int doc), .val (.int fr), .unset, .unset] [(.int (own_vlen (((2 : Int64) * (doc.toInt64)) + (z.toInt64))))])
              refine Go.of (fun _ kq => XS.iload X.here hx rfl (hb hby at_199) rfl kq) ?_
              show Go p e below s _ _ T (mkF m 201 #[.val (.int a1), .val (.int b1), .val (.int c1), .val (.int d1), .val (.int x1), .val (.int fl), .val (.ref b0), .val (.int nn), .val (.int e0), .val (.int e1), .val (.int (1 : Int32)), .val (.int doc), .val (.int fr), .unset, .unset] [(.int fr), (.int (own_vlen (((2 : Int64) * (doc.toInt64)) + (z.toInt64))))])
              refine Go.of (fun _ kq => XS.iconst X.here hx rfl (hb hby at_201) kq) ?_
              show Go p e below s _ _ T (mkF m 202 #[.val (.int a1), .val (.int b1), .val (.int c1), .val (.int d1), .val (.int x1), .val (.int fl), .val (.ref b0), .val (.int nn), .val (.int e0), .val (.int e1), .val (.int (1 : Int32)), .val (.int doc), .val (.int fr), .unset, .unset] [(.int (1 : Int32)), (.int fr), (.int (own_vlen (((2 : Int64) * (doc.toInt64)) + (z.toInt64))))])
              by_cases hc202 : fr = (1 : Int32)
              · refine Go.of (fun _ kq => XS.icmpNo X.here hx rfl (hb hby at_202) rfl (teq hc202).2 kq) ?_
                show Go p e below s _ _ T (mkF m 205 #[.val (.int a1), .val (.int b1), .val (.int c1), .val (.int d1), .val (.int x1), .val (.int fl), .val (.ref b0), .val (.int nn), .val (.int e0), .val (.int e1), .val (.int (1 : Int32)), .val (.int doc), .val (.int fr), .unset, .unset] [(.int (own_vlen (((2 : Int64) * (doc.toInt64)) + (z.toInt64))))])
                refine Go.of (fun _ kq => XS.iconst X.here hx rfl (hb hby at_205) kq) ?_
                show Go p e below s _ _ T (mkF m 206 #[.val (.int a1), .val (.int b1), .val (.int c1), .val (.int d1), .val (.int x1), .val (.int fl), .val (.ref b0), .val (.int nn), .val (.int e0), .val (.int e1), .val (.int (1 : Int32)), .val (.int doc), .val (.int fr), .unset, .unset] [(.int (0 : Int32)), (.int (own_vlen (((2 : Int64) * (doc.toInt64)) + (z.toInt64))))])
                refine Go.of (fun _ kq => XS.goto X.here hx rfl (pc0 := 206) (pc' := 215) rfl (hb hby at_206) (by decide) (by decide) kq) ?_
                show Go p e below s _ _ T (mkF m 215 #[.val (.int a1), .val (.int b1), .val (.int c1), .val (.int d1), .val (.int x1), .val (.int fl), .val (.ref b0), .val (.int nn), .val (.int e0), .val (.int e1), .val (.int (1 : Int32)), .val (.int doc), .val (.int fr), .unset, .unset] [(.int (0 : Int32)), (.int (own_vlen (((2 : Int64) * (doc.toInt64)) + (z.toInt64))))])
                refine Go.of (fun _ kq => XS.iadd X.here hx rfl (hb hby at_215) rfl kq) ?_
                show Go p e below s _ _ T (mkF m 216 #[.val (.int a1), .val (.int b1), .val (.int c1), .val (.int d1), .val (.int x1), .val (.int fl), .val (.ref b0), .val (.int nn), .val (.int e0), .val (.int e1), .val (.int (1 : Int32)), .val (.int doc), .val (.int fr), .unset, .unset] [(.int ((own_vlen (((2 : Int64) * (doc.toInt64)) + (z.toInt64))) + (0 : Int32)))])
                refine Go.of (fun _ kq => XS.i2l X.here hx rfl (hb hby at_216) rfl kq) ?_
                show Go p e below s _ _ T (mkF m 217 #[.val (.int a1), .val (.int b1), .val (.int c1), .val (.int d1), .val (.int x1), .val (.int fl), .val (.ref b0), .val (.int nn), .val (.int e0), .val (.int e1), .val (.int (1 : Int32)), .val (.int doc), .val (.int fr), .unset, .unset] [(.long (((own_vlen (((2 : Int64) * (doc.toInt64)) + (z.toInt64))) + (0 : Int32)).toInt64))])
                refine Go.of (fun _ kq => XS.lstore X.here hx rfl (hb hby at_217) rfl (l' := #[.val (.int a1), .val (.int b1), .val (.int c1), .val (.int d1), .val (.int x1), .val (.int fl), .val (.ref b0), .val (.int nn), .val (.int e0), .val (.int e1), .val (.int (1 : Int32)), .val (.int doc), .val (.int fr), .val (.long (((own_vlen (((2 : Int64) * (doc.toInt64)) + (z.toInt64))) + (0 : Int32)).toInt64)), .second]) rfl kq) ?_
                show Go p e below s _ _ T (mkF m 219 #[.val (.int a1), .val (.int b1), .val (.int c1), .val (.int d1), .val (.int x1), .val (.int fl), .val (.ref b0), .val (.int nn), .val (.int e0), .val (.int e1), .val (.int (1 : Int32)), .val (.int doc), .val (.int fr), .val (.long (((own_vlen (((2 : Int64) * (doc.toInt64)) + (z.toInt64))) + (0 : Int32)).toInt64)), .second] [])
                refine Go.of (fun _ kq => XS.iload X.here hx rfl (hb hby at_219) rfl kq) ?_
                show Go p e below s _ _ T (mkF m 221 #[.val (.int a1), .val (.int b1), .val (.int c1), .val (.int d1), .val (.int x1), .val (.int fl), .val (.ref b0), .val (.int nn), .val (.int e0), .val (.int e1), .val (.int (1 : Int32)), .val (.int doc), .val (.int fr), .val (.long (((own_vlen (((2 : Int64) * (doc.toInt64)) + (z.toInt64))) + (0 : Int32)).toInt64)), .second] [(.int (1 : Int32))])
                refine Go.of (fun _ kq => XS.ifNo X.here hx rfl (hb hby at_221) rfl ((if0 _ _).trans (feq (by decide)).1) kq) ?_
                show Go p e below s _ _ T (mkF m 224 #[.val (.int a1), .val (.int b1), .val (.int c1), .val (.int d1), .val (.int x1), .val (.int fl), .val (.ref b0), .val (.int nn), .val (.int e0), .val (.int e1), .val (.int (1 : Int32)), .val (.int doc), .val (.int fr), .val (.long (((own_vlen (((2 : Int64) * (doc.toInt64)) + (z.toInt64))) + (0 : Int32)).toInt64)), .second] [])
                refine Go.of (fun _ kq => XS.aload X.here hx rfl (hb hby at_224) rfl rfl kq) ?_
                show Go p e below s _ _ T (mkF m 226 #[.val (.int a1), .val (.int b1), .val (.int c1), .val (.int d1), .val (.int x1), .val (.int fl), .val (.ref b0), .val (.int nn), .val (.int e0), .val (.int e1), .val (.int (1 : Int32)), .val (.int doc), .val (.int fr), .val (.long (((own_vlen (((2 : Int64) * (doc.toInt64)) + (z.toInt64))) + (0 : Int32)).toInt64)), .second] [(.ref b0)])
                refine Go.virtual (a := b0) X hx hZ hown (hw _ (List.mem_of_getElem? (i := 69) rfl)) (hw _ (List.mem_of_getElem? (i := 70) rfl)) (notFace_of_selects (args := #[]) (mvT hZ (hw _ (List.mem_of_getElem? (i := 72) rfl)))) (hw _ (List.mem_of_getElem? (i := 72) rfl)) (hw _ (List.mem_of_getElem? (i := 71) rfl)) (hw _ (List.mem_of_getElem? (i := 2) rfl)) (hw _ (List.mem_of_getElem? (i := 73) rfl)) (by decide) (rmHolds hw b0 (1 : Int32) _ n0 TV.2.2.2.1) eT E_b0 0 (by decide) (by decide) (by decide) (by decide) (by rw [hml]; rfl) (argsL := []) [] (lenOf pd6 rfl) rfl rfl (Nat.le_of_eq rfl) (hb hby at_226) ?_
                intro v T L' X hQ
                obtain ⟨rfl, N', eT⟩ := hQ
                have N := Fr.app N N'
                rw [show own_holds (1 : Int32) = (1 : Int32) by decide]
                show Go p e below s _ _ T (mkF m 229 #[.val (.int a1), .val (.int b1), .val (.int c1), .val (.int d1), .val (.int x1), .val (.int fl), .val (.ref b0), .val (.int nn), .val (.int e0), .val (.int e1), .val (.int (1 : Int32)), .val (.int doc), .val (.int fr), .val (.long (((own_vlen (((2 : Int64) * (doc.toInt64)) + (z.toInt64))) + (0 : Int32)).toInt64)), .second] [(.int (1 : Int32))])
                refine Go.of (fun _ kq => XS.ifNo X.here hx rfl (hb hby at_229) rfl ((if0 _ _).trans (feq (by decide)).1) kq) ?_
                show Go p e below s _ _ T (mkF m 232 #[.val (.int a1), .val (.int b1), .val (.int c1), .val (.int d1), .val (.int x1), .val (.int fl), .val (.ref b0), .val (.int nn), .val (.int e0), .val (.int e1), .val (.int (1 : Int32)), .val (.int doc), .val (.int fr), .val (.long (((own_vlen (((2 : Int64) * (doc.toInt64)) + (z.toInt64))) + (0 : Int32)).toInt64)), .second] [])
                refine Go.of (fun _ kq => XS.aload X.here hx rfl (hb hby at_232) rfl rfl kq) ?_
                show Go p e below s _ _ T (mkF m 234 #[.val (.int a1), .val (.int b1), .val (.int c1), .val (.int d1), .val (.int x1), .val (.int fl), .val (.ref b0), .val (.int nn), .val (.int e0), .val (.int e1), .val (.int (1 : Int32)), .val (.int doc), .val (.int fr), .val (.long (((own_vlen (((2 : Int64) * (doc.toInt64)) + (z.toInt64))) + (0 : Int32)).toInt64)), .second] [(.ref b0)])
                refine Go.virtual (a := b0) X hx hZ hown (hw _ (List.mem_of_getElem? (i := 86) rfl)) (hw _ (List.mem_of_getElem? (i := 87) rfl)) (notFace_of_selects (args := #[]) (mvT hZ (hw _ (List.mem_of_getElem? (i := 89) rfl)))) (hw _ (List.mem_of_getElem? (i := 89) rfl)) (hw _ (List.mem_of_getElem? (i := 88) rfl)) (hw _ (List.mem_of_getElem? (i := 2) rfl)) (hw _ (List.mem_of_getElem? (i := 90) rfl)) (by decide) (rmLen1 hw b0 d f (updI D2 0 doc) (updI Fq2 0 fr) doc fr _ n0 TV.1 TV.2.1 TV.2.2.2.1 TV.2.2.2.2.1 TV.2.2.2.2.2.2.2.2.2.2.1 TV.2.2.2.2.2.2.2.2.2.2.2.1 rfl rfl hdoc hfr) eT E_b0 0 (by decide) (by decide) (by decide) (by decide) (by rw [hml]; rfl) (argsL := []) [] (lenOf pd10 rfl) rfl rfl (Nat.le_of_eq rfl) (hb hby at_234) ?_
                intro v T L' X hQ
                obtain ⟨rfl, N', eT⟩ := hQ
                have N := Fr.app N N'
                show Go p e below s _ _ T (mkF m 237 #[.val (.int a1), .val (.int b1), .val (.int c1), .val (.int d1), .val (.int x1), .val (.int fl), .val (.ref b0), .val (.int nn), .val (.int e0), .val (.int e1), .val (.int (1 : Int32)), .val (.int doc), .val (.int fr), .val (.long (((own_vlen (((2 : Int64) * (doc.toInt64)) + (z.toInt64))) + (0 : Int32)).toInt64)), .second] [(.long (own_gap doc fr).toInt64)])
                refine Go.of (fun _ kq => XS.lload X.here hx rfl (hb hby at_237) rfl kq) ?_
                show Go p e below s _ _ T (mkF m 239 #[.val (.int a1), .val (.int b1), .val (.int c1), .val (.int d1), .val (.int x1), .val (.int fl), .val (.ref b0), .val (.int nn), .val (.int e0), .val (.int e1), .val (.int (1 : Int32)), .val (.int doc), .val (.int fr), .val (.long (((own_vlen (((2 : Int64) * (doc.toInt64)) + (z.toInt64))) + (0 : Int32)).toInt64)), .second] [(.long (((own_vlen (((2 : Int64) * (doc.toInt64)) + (z.toInt64))) + (0 : Int32)).toInt64)), (.long (own_gap doc fr).toInt64)])
                refine Go.of (fun _ kq => XS.lcmp X.here hx rfl (hb hby at_239) rfl kq) ?_
                show Go p e below s _ _ T (mkF m 240 #[.val (.int a1), .val (.int b1), .val (.int c1), .val (.int d1), .val (.int x1), .val (.int fl), .val (.ref b0), .val (.int nn), .val (.int e0), .val (.int e1), .val (.int (1 : Int32)), .val (.int doc), .val (.int fr), .val (.long (((own_vlen (((2 : Int64) * (doc.toInt64)) + (z.toInt64))) + (0 : Int32)).toInt64)), .second] [(.int (lcmpW (own_gap doc fr).toInt64 (((own_vlen (((2 : Int64) * (doc.toInt64)) + (z.toInt64))) + (0 : Int32)).toInt64)))])
                refine Go.of (fun _ kq => XS.ifNo X.here hx rfl (hb hby at_240) rfl (cZeq (by subst hz; simp only [own_gap, own_fold, if_pos hc202])).2 kq) ?_
                show Go p e below s _ _ T (mkF m 243 #[.val (.int a1), .val (.int b1), .val (.int c1), .val (.int d1), .val (.int x1), .val (.int fl), .val (.ref b0), .val (.int nn), .val (.int e0), .val (.int e1), .val (.int (1 : Int32)), .val (.int doc), .val (.int fr), .val (.long (((own_vlen (((2 : Int64) * (doc.toInt64)) + (z.toInt64))) + (0 : Int32)).toInt64)), .second] [])
                refine Go.of (fun _ kq => XS.iconst X.here hx rfl (hb hby at_243) kq) ?_
                show Go p e below s _ _ T (mkF m 244 #[.val (.int a1), .val (.int b1), .val (.int c1), .val (.int d1), .val (.int x1), .val (.int fl), .val (.ref b0), .val (.int nn), .val (.int e0), .val (.int e1), .val (.int (1 : Int32)), .val (.int doc), .val (.int fr), .val (.long (((own_vlen (((2 : Int64) * (doc.toInt64)) + (z.toInt64))) + (0 : Int32)).toInt64)), .second] [(.int (1 : Int32))])
                refine Go.of (fun _ kq => XS.goto X.here hx rfl (pc0 := 244) (pc' := 248) rfl (hb hby at_244) (by decide) (by decide) kq) ?_
                show Go p e below s _ _ T (mkF m 248 #[.val (.int a1), .val (.int b1), .val (.int c1), .val (.int d1), .val (.int x1), .val (.int fl), .val (.ref b0), .val (.int nn), .val (.int e0), .val (.int e1), .val (.int (1 : Int32)), .val (.int doc), .val (.int fr), .val (.long (((own_vlen (((2 : Int64) * (doc.toInt64)) + (z.toInt64))) + (0 : Int32)).toInt64)), .second] [(.int (1 : Int32))])
                refine Go.retN X hx hret (by simp) hlk (hb hby at_248) (by decide) (by decide) ?_
                try rw [eT]
                exact ⟨rfl, N⟩
              · refine Go.of (fun _ kq => XS.icmpYes X.here hx rfl (pc0 := 202) (pc' := 209) rfl (hb hby at_202) rfl (feq hc202).2 (by decide) (by decide) kq) ?_
                show Go p e below s _ _ T (mkF m 209 #[.val (.int a1), .val (.int b1), .val (.int c1), .val (.int d1), .val (.int x1), .val (.int fl), .val (.ref b0), .val (.int nn), .val (.int e0), .val (.int e1), .val (.int (1 : Int32)), .val (.int doc), .val (.int fr), .unset, .unset] [(.int (own_vlen (((2 : Int64) * (doc.toInt64)) + (z.toInt64))))])
                refine Go.of (fun _ kq => XS.iload X.here hx rfl (hb hby at_209) rfl kq) ?_
                show Go p e below s _ _ T (mkF m 211 #[.val (.int a1), .val (.int b1), .val (.int c1), .val (.int d1), .val (.int x1), .val (.int fl), .val (.ref b0), .val (.int nn), .val (.int e0), .val (.int e1), .val (.int (1 : Int32)), .val (.int doc), .val (.int fr), .unset, .unset] [(.int fr), (.int (own_vlen (((2 : Int64) * (doc.toInt64)) + (z.toInt64))))])
                refine Go.of (fun _ kq => XS.i2l X.here hx rfl (hb hby at_211) rfl kq) ?_
                show Go p e below s _ _ T (mkF m 212 #[.val (.int a1), .val (.int b1), .val (.int c1), .val (.int d1), .val (.int x1), .val (.int fl), .val (.ref b0), .val (.int nn), .val (.int e0), .val (.int e1), .val (.int (1 : Int32)), .val (.int doc), .val (.int fr), .unset, .unset] [(.long (fr.toInt64)), (.int (own_vlen (((2 : Int64) * (doc.toInt64)) + (z.toInt64))))])
                refine Go.static X hx hZ hown (hw _ (List.mem_of_getElem? (i := 81) rfl)) (hw _ (List.mem_of_getElem? (i := 82) rfl)) (hw _ (List.mem_of_getElem? (i := 83) rfl)) (hw _ (List.mem_of_getElem? (i := 84) rfl)) (by decide) (rmVlen hw (fr.toInt64) _ n0) eT 1 (by decide) (by decide) (by decide) (by decide) (by rw [hml]; rfl) (argsL := [(.long (fr.toInt64))]) [(.int (own_vlen (((2 : Int64) * (doc.toInt64)) + (z.toInt64))))] (lenOf pd1 rfl) rfl rfl (Nat.le_of_eq rfl) (hb hby at_212) ?_
                intro v T L' X hQ
                obtain ⟨rfl, N', eT⟩ := hQ
                have N := Fr.app N N'
                show Go p e below s _ _ T (mkF m 215 #[.val (.int a1), .val (.int b1), .val (.int c1), .val (.int d1), .val (.int x1), .val (.int fl), .val (.ref b0), .val (.int nn), .val (.int e0), .val (.int e1), .val (.int (1 : Int32)), .val (.int doc), .val (.int fr), .unset, .unset] [(.int (own_vlen (fr.toInt64))), (.int (own_vlen (((2 : Int64) * (doc.toInt64)) + (z.toInt64))))])
                refine Go.of (fun _ kq => XS.iadd X.here hx rfl (hb hby at_215) rfl kq) ?_
                show Go p e below s _ _ T (mkF m 216 #[.val (.int a1), .val (.int b1), .val (.int c1), .val (.int d1), .val (.int x1), .val (.int fl), .val (.ref b0), .val (.int nn), .val (.int e0), .val (.int e1), .val (.int (1 : Int32)), .val (.int doc), .val (.int fr), .unset, .unset] [(.int ((own_vlen (((2 : Int64) * (doc.toInt64)) + (z.toInt64))) + (own_vlen (fr.toInt64))))])
                refine Go.of (fun _ kq => XS.i2l X.here hx rfl (hb hby at_216) rfl kq) ?_
                show Go p e below s _ _ T (mkF m 217 #[.val (.int a1), .val (.int b1), .val (.int c1), .val (.int d1), .val (.int x1), .val (.int fl), .val (.ref b0), .val (.int nn), .val (.int e0), .val (.int e1), .val (.int (1 : Int32)), .val (.int doc), .val (.int fr), .unset, .unset] [(.long (((own_vlen (((2 : Int64) * (doc.toInt64)) + (z.toInt64))) + (own_vlen (fr.toInt64))).toInt64))])
                refine Go.of (fun _ kq => XS.lstore X.here hx rfl (hb hby at_217) rfl (l' := #[.val (.int a1), .val (.int b1), .val (.int c1), .val (.int d1), .val (.int x1), .val (.int fl), .val (.ref b0), .val (.int nn), .val (.int e0), .val (.int e1), .val (.int (1 : Int32)), .val (.int doc), .val (.int fr), .val (.long (((own_vlen (((2 : Int64) * (doc.toInt64)) + (z.toInt64))) + (own_vlen (fr.toInt64))).toInt64)), .second]) rfl kq) ?_
                show Go p e below s _ _ T (mkF m 219 #[.val (.int a1), .val (.int b1), .val (.int c1), .val (.int d1), .val (.int x1), .val (.int fl), .val (.ref b0), .val (.int nn), .val (.int e0), .val (.int e1), .val (.int (1 : Int32)), .val (.int doc), .val (.int fr), .val (.long (((own_vlen (((2 : Int64) * (doc.toInt64)) + (z.toInt64))) + (own_vlen (fr.toInt64))).toInt64)), .second] [])
                refine Go.of (fun _ kq => XS.iload X.here hx rfl (hb hby at_219) rfl kq) ?_
                show Go p e below s _ _ T (mkF m 221 #[.val (.int a1), .val (.int b1), .val (.int c1), .val (.int d1), .val (.int x1), .val (.int fl), .val (.ref b0), .val (.int nn), .val (.int e0), .val (.int e1), .val (.int (1 : Int32)), .val (.int doc), .val (.int fr), .val (.long (((own_vlen (((2 : Int64) * (doc.toInt64)) + (z.toInt64))) + (own_vlen (fr.toInt64))).toInt64)), .second] [(.int (1 : Int32))])
                refine Go.of (fun _ kq => XS.ifNo X.here hx rfl (hb hby at_221) rfl ((if0 _ _).trans (feq (by decide)).1) kq) ?_
                show Go p e below s _ _ T (mkF m 224 #[.val (.int a1), .val (.int b1), .val (.int c1), .val (.int d1), .val (.int x1), .val (.int fl), .val (.ref b0), .val (.int nn), .val (.int e0), .val (.int e1), .val (.int (1 : Int32)), .val (.int doc), .val (.int fr), .val (.long (((own_vlen (((2 : Int64) * (doc.toInt64)) + (z.toInt64))) + (own_vlen (fr.toInt64))).toInt64)), .second] [])
                refine Go.of (fun _ kq => XS.aload X.here hx rfl (hb hby at_224) rfl rfl kq) ?_
                show Go p e below s _ _ T (mkF m 226 #[.val (.int a1), .val (.int b1), .val (.int c1), .val (.int d1), .val (.int x1), .val (.int fl), .val (.ref b0), .val (.int nn), .val (.int e0), .val (.int e1), .val (.int (1 : Int32)), .val (.int doc), .val (.int fr), .val (.long (((own_vlen (((2 : Int64) * (doc.toInt64)) + (z.toInt64))) + (own_vlen (fr.toInt64))).toInt64)), .second] [(.ref b0)])
                refine Go.virtual (a := b0) X hx hZ hown (hw _ (List.mem_of_getElem? (i := 69) rfl)) (hw _ (List.mem_of_getElem? (i := 70) rfl)) (notFace_of_selects (args := #[]) (mvT hZ (hw _ (List.mem_of_getElem? (i := 72) rfl)))) (hw _ (List.mem_of_getElem? (i := 72) rfl)) (hw _ (List.mem_of_getElem? (i := 71) rfl)) (hw _ (List.mem_of_getElem? (i := 2) rfl)) (hw _ (List.mem_of_getElem? (i := 73) rfl)) (by decide) (rmHolds hw b0 (1 : Int32) _ n0 TV.2.2.2.1) eT E_b0 0 (by decide) (by decide) (by decide) (by decide) (by rw [hml]; rfl) (argsL := []) [] (lenOf pd6 rfl) rfl rfl (Nat.le_of_eq rfl) (hb hby at_226) ?_
                intro v T L' X hQ
                obtain ⟨rfl, N', eT⟩ := hQ
                have N := Fr.app N N'
                rw [show own_holds (1 : Int32) = (1 : Int32) by decide]
                show Go p e below s _ _ T (mkF m 229 #[.val (.int a1), .val (.int b1), .val (.int c1), .val (.int d1), .val (.int x1), .val (.int fl), .val (.ref b0), .val (.int nn), .val (.int e0), .val (.int e1), .val (.int (1 : Int32)), .val (.int doc), .val (.int fr), .val (.long (((own_vlen (((2 : Int64) * (doc.toInt64)) + (z.toInt64))) + (own_vlen (fr.toInt64))).toInt64)), .second] [(.int (1 : Int32))])
                refine Go.of (fun _ kq => XS.ifNo X.here hx rfl (hb hby at_229) rfl ((if0 _ _).trans (feq (by decide)).1) kq) ?_
                show Go p e below s _ _ T (mkF m 232 #[.val (.int a1), .val (.int b1), .val (.int c1), .val (.int d1), .val (.int x1), .val (.int fl), .val (.ref b0), .val (.int nn), .val (.int e0), .val (.int e1), .val (.int (1 : Int32)), .val (.int doc), .val (.int fr), .val (.long (((own_vlen (((2 : Int64) * (doc.toInt64)) + (z.toInt64))) + (own_vlen (fr.toInt64))).toInt64)), .second] [])
                refine Go.of (fun _ kq => XS.aload X.here hx rfl (hb hby at_232) rfl rfl kq) ?_
                show Go p e below s _ _ T (mkF m 234 #[.val (.int a1), .val (.int b1), .val (.int c1), .val (.int d1), .val (.int x1), .val (.int fl), .val (.ref b0), .val (.int nn), .val (.int e0), .val (.int e1), .val (.int (1 : Int32)), .val (.int doc), .val (.int fr), .val (.long (((own_vlen (((2 : Int64) * (doc.toInt64)) + (z.toInt64))) + (own_vlen (fr.toInt64))).toInt64)), .second] [(.ref b0)])
                refine Go.virtual (a := b0) X hx hZ hown (hw _ (List.mem_of_getElem? (i := 86) rfl)) (hw _ (List.mem_of_getElem? (i := 87) rfl)) (notFace_of_selects (args := #[]) (mvT hZ (hw _ (List.mem_of_getElem? (i := 89) rfl)))) (hw _ (List.mem_of_getElem? (i := 89) rfl)) (hw _ (List.mem_of_getElem? (i := 88) rfl)) (hw _ (List.mem_of_getElem? (i := 2) rfl)) (hw _ (List.mem_of_getElem? (i := 90) rfl)) (by decide) (rmLen1 hw b0 d f (updI D2 0 doc) (updI Fq2 0 fr) doc fr _ n0 TV.1 TV.2.1 TV.2.2.2.1 TV.2.2.2.2.1 TV.2.2.2.2.2.2.2.2.2.2.1 TV.2.2.2.2.2.2.2.2.2.2.2.1 rfl rfl hdoc hfr) eT E_b0 0 (by decide) (by decide) (by decide) (by decide) (by rw [hml]; rfl) (argsL := []) [] (lenOf pd10 rfl) rfl rfl (Nat.le_of_eq rfl) (hb hby at_234) ?_
                intro v T L' X hQ
                obtain ⟨rfl, N', eT⟩ := hQ
                have N := Fr.app N N'
                show Go p e below s _ _ T (mkF m 237 #[.val (.int a1), .val (.int b1), .val (.int c1), .val (.int d1), .val (.int x1), .val (.int fl), .val (.ref b0), .val (.int nn), .val (.int e0), .val (.int e1), .val (.int (1 : Int32)), .val (.int doc), .val (.int fr), .val (.long (((own_vlen (((2 : Int64) * (doc.toInt64)) + (z.toInt64))) + (own_vlen (fr.toInt64))).toInt64)), .second] [(.long (own_gap doc fr).toInt64)])
                refine Go.of (fun _ kq => XS.lload X.here hx rfl (hb hby at_237) rfl kq) ?_
                show Go p e below s _ _ T (mkF m 239 #[.val (.int a1), .val (.int b1), .val (.int c1), .val (.int d1), .val (.int x1), .val (.int fl), .val (.ref b0), .val (.int nn), .val (.int e0), .val (.int e1), .val (.int (1 : Int32)), .val (.int doc), .val (.int fr), .val (.long (((own_vlen (((2 : Int64) * (doc.toInt64)) + (z.toInt64))) + (own_vlen (fr.toInt64))).toInt64)), .second] [(.long (((own_vlen (((2 : Int64) * (doc.toInt64)) + (z.toInt64))) + (own_vlen (fr.toInt64))).toInt64)), (.long (own_gap doc fr).toInt64)])
                refine Go.of (fun _ kq => XS.lcmp X.here hx rfl (hb hby at_239) rfl kq) ?_
                show Go p e below s _ _ T (mkF m 240 #[.val (.int a1), .val (.int b1), .val (.int c1), .val (.int d1), .val (.int x1), .val (.int fl), .val (.ref b0), .val (.int nn), .val (.int e0), .val (.int e1), .val (.int (1 : Int32)), .val (.int doc), .val (.int fr), .val (.long (((own_vlen (((2 : Int64) * (doc.toInt64)) + (z.toInt64))) + (own_vlen (fr.toInt64))).toInt64)), .second] [(.int (lcmpW (own_gap doc fr).toInt64 (((own_vlen (((2 : Int64) * (doc.toInt64)) + (z.toInt64))) + (own_vlen (fr.toInt64))).toInt64)))])
                refine Go.of (fun _ kq => XS.ifNo X.here hx rfl (hb hby at_240) rfl (cZeq (by subst hz; simp only [own_gap, own_fold, if_neg hc202])).2 kq) ?_
                show Go p e below s _ _ T (mkF m 243 #[.val (.int a1), .val (.int b1), .val (.int c1), .val (.int d1), .val (.int x1), .val (.int fl), .val (.ref b0), .val (.int nn), .val (.int e0), .val (.int e1), .val (.int (1 : Int32)), .val (.int doc), .val (.int fr), .val (.long (((own_vlen (((2 : Int64) * (doc.toInt64)) + (z.toInt64))) + (own_vlen (fr.toInt64))).toInt64)), .second] [])
                refine Go.of (fun _ kq => XS.iconst X.here hx rfl (hb hby at_243) kq) ?_
                show Go p e below s _ _ T (mkF m 244 #[.val (.int a1), .val (.int b1), .val (.int c1), .val (.int d1), .val (.int x1), .val (.int fl), .val (.ref b0), .val (.int nn), .val (.int e0), .val (.int e1), .val (.int (1 : Int32)), .val (.int doc), .val (.int fr), .val (.long (((own_vlen (((2 : Int64) * (doc.toInt64)) + (z.toInt64))) + (own_vlen (fr.toInt64))).toInt64)), .second] [(.int (1 : Int32))])
                refine Go.of (fun _ kq => XS.goto X.here hx rfl (pc0 := 244) (pc' := 248) rfl (hb hby at_244) (by decide) (by decide) kq) ?_
                show Go p e below s _ _ T (mkF m 248 #[.val (.int a1), .val (.int b1), .val (.int c1), .val (.int d1), .val (.int x1), .val (.int fl), .val (.ref b0), .val (.int nn), .val (.int e0), .val (.int e1), .val (.int (1 : Int32)), .val (.int doc), .val (.int fr), .val (.long (((own_vlen (((2 : Int64) * (doc.toInt64)) + (z.toInt64))) + (own_vlen (fr.toInt64))).toInt64)), .second] [(.int (1 : Int32))])
                refine Go.retN X hx hret (by simp) hlk (hb hby at_248) (by decide) (by decide) ?_
                try rw [eT]
                exact ⟨rfl, N⟩
            · intro jn194
              show Go p e below s _ _ T (mkF m 183 #[.val (.int a1), .val (.int b1), .val (.int c1), .val (.int d1), .val (.int x1), .val (.int fl), .val (.ref b0), .val (.int nn), .val (.int e0), .val (.int e1), .val (.int (1 : Int32)), .val (.int doc), .val (.int fr), .unset, .unset] [(.long ((2 : Int64) * (doc.toInt64)))])
              refine Go.of (fun _ kq => XS.iload X.here hx rfl (hb hby at_183) rfl kq) ?_
              show Go p e below s _ _ T (mkF m 185 #[.val (.int a1), .val (.int b1), .val (.int c1), .val (.int d1), .val (.int x1), .val (.int fl), .val (.ref b0), .val (.int nn), .val (.int e0), .val (.int e1), .val (.int (1 : Int32)), .val (.int doc), .val (.int fr), .unset, .unset] [(.int fr), (.long ((2 : Int64) * (doc.toInt64)))])
              refine Go.of (fun _ kq => XS.iconst X.here hx rfl (hb hby at_185) kq) ?_
              show Go p e below s _ _ T (mkF m 186 #[.val (.int a1), .val (.int b1), .val (.int c1), .val (.int d1), .val (.int x1), .val (.int fl), .val (.ref b0), .val (.int nn), .val (.int e0), .val (.int e1), .val (.int (1 : Int32)), .val (.int doc), .val (.int fr), .unset, .unset] [(.int (1 : Int32)), (.int fr), (.long ((2 : Int64) * (doc.toInt64)))])
              by_cases hc186 : fr = (1 : Int32)
              · refine Go.of (fun _ kq => XS.icmpNo X.here hx rfl (hb hby at_186) rfl (teq hc186).2 kq) ?_
                show Go p e below s _ _ T (mkF m 189 #[.val (.int a1), .val (.int b1), .val (.int c1), .val (.int d1), .val (.int x1), .val (.int fl), .val (.ref b0), .val (.int nn), .val (.int e0), .val (.int e1), .val (.int (1 : Int32)), .val (.int doc), .val (.int fr), .unset, .unset] [(.long ((2 : Int64) * (doc.toInt64)))])
                refine Go.of (fun _ kq => XS.iconst X.here hx rfl (hb hby at_189) kq) ?_
                show Go p e below s _ _ T (mkF m 190 #[.val (.int a1), .val (.int b1), .val (.int c1), .val (.int d1), .val (.int x1), .val (.int fl), .val (.ref b0), .val (.int nn), .val (.int e0), .val (.int e1), .val (.int (1 : Int32)), .val (.int doc), .val (.int fr), .unset, .unset] [(.int (1 : Int32)), (.long ((2 : Int64) * (doc.toInt64)))])
                refine Go.of (fun _ kq => XS.goto X.here hx rfl (pc0 := 190) (pc' := 194) rfl (hb hby at_190) (by decide) (by decide) kq) ?_
                show Go p e below s _ _ T (mkF m 194 #[.val (.int a1), .val (.int b1), .val (.int c1), .val (.int d1), .val (.int x1), .val (.int fl), .val (.ref b0), .val (.int nn), .val (.int e0), .val (.int e1), .val (.int (1 : Int32)), .val (.int doc), .val (.int fr), .unset, .unset] [(.int (1 : Int32)), (.long ((2 : Int64) * (doc.toInt64)))])
                exact jn194 _ (by rw [if_pos hc186])
              · refine Go.of (fun _ kq => XS.icmpYes X.here hx rfl (pc0 := 186) (pc' := 193) rfl (hb hby at_186) rfl (feq hc186).2 (by decide) (by decide) kq) ?_
                show Go p e below s _ _ T (mkF m 193 #[.val (.int a1), .val (.int b1), .val (.int c1), .val (.int d1), .val (.int x1), .val (.int fl), .val (.ref b0), .val (.int nn), .val (.int e0), .val (.int e1), .val (.int (1 : Int32)), .val (.int doc), .val (.int fr), .unset, .unset] [(.long ((2 : Int64) * (doc.toInt64)))])
                refine Go.of (fun _ kq => XS.iconst X.here hx rfl (hb hby at_193) kq) ?_
                show Go p e below s _ _ T (mkF m 194 #[.val (.int a1), .val (.int b1), .val (.int c1), .val (.int d1), .val (.int x1), .val (.int fl), .val (.ref b0), .val (.int nn), .val (.int e0), .val (.int e1), .val (.int (1 : Int32)), .val (.int doc), .val (.int fr), .unset, .unset] [(.int (0 : Int32)), (.long ((2 : Int64) * (doc.toInt64)))])
                exact jn194 _ (by rw [if_neg hc186])
          · intro jn156
            show Go p e below s _ _ T (mkF m 140 #[.val (.int a1), .val (.int b1), .val (.int c1), .val (.int d1), .val (.int x1), .val (.int fl), .val (.ref b0), .val (.int nn), .val (.int e0), .val (.int e1), .val (.int (1 : Int32)), .unset, .unset, .unset, .unset] [])
            refine Go.of (fun _ kq => XS.iload X.here hx rfl (hb hby at_140) rfl kq) ?_
            show Go p e below s _ _ T (mkF m 142 #[.val (.int a1), .val (.int b1), .val (.int c1), .val (.int d1), .val (.int x1), .val (.int fl), .val (.ref b0), .val (.int nn), .val (.int e0), .val (.int e1), .val (.int (1 : Int32)), .unset, .unset, .unset, .unset] [(.int fl)])
            refine Go.of (fun _ kq => XS.bipush X.here hx rfl (hb hby at_142) kq) ?_
            show Go p e below s _ _ T (mkF m 144 #[.val (.int a1), .val (.int b1), .val (.int c1), .val (.int d1), .val (.int x1), .val (.int fl), .val (.ref b0), .val (.int nn), .val (.int e0), .val (.int e1), .val (.int (1 : Int32)), .unset, .unset, .unset, .unset] [(.int (8 : Int32)), (.int fl)])
            refine Go.of (fun _ kq => XS.iand X.here hx rfl (hb hby at_144) rfl kq) ?_
            show Go p e below s _ _ T (mkF m 145 #[.val (.int a1), .val (.int b1), .val (.int c1), .val (.int d1), .val (.int x1), .val (.int fl), .val (.ref b0), .val (.int nn), .val (.int e0), .val (.int e1), .val (.int (1 : Int32)), .unset, .unset, .unset, .unset] [(.int (fl &&& (8 : Int32)))])
            by_cases hc145 : (fl &&& (8 : Int32)) = (0 : Int32)
            · refine Go.of (fun _ kq => XS.ifYes X.here hx rfl (pc0 := 145) (pc' := 152) rfl (hb hby at_145) rfl ((if0 _ _).trans (teq hc145).1) (by decide) (by decide) kq) ?_
              show Go p e below s _ _ T (mkF m 152 #[.val (.int a1), .val (.int b1), .val (.int c1), .val (.int d1), .val (.int x1), .val (.int fl), .val (.ref b0), .val (.int nn), .val (.int e0), .val (.int e1), .val (.int (1 : Int32)), .unset, .unset, .unset, .unset] [])
              refine Go.of (fun _ kq => XS.iloadN X.here hx rfl (hb hby at_152) rfl kq) ?_
              show Go p e below s _ _ T (mkF m 153 #[.val (.int a1), .val (.int b1), .val (.int c1), .val (.int d1), .val (.int x1), .val (.int fl), .val (.ref b0), .val (.int nn), .val (.int e0), .val (.int e1), .val (.int (1 : Int32)), .unset, .unset, .unset, .unset] [(.int c1)])
              refine Go.of (X.ldcInt hx hown (mvT hZ (hw _ (List.mem_of_getElem? (i := 75) rfl))) (g := (mkF m 153 #[.val (.int a1), .val (.int b1), .val (.int c1), .val (.int d1), .val (.int x1), .val (.int fl), .val (.ref b0), .val (.int nn), .val (.int e0), .val (.int e1), .val (.int (1 : Int32)), .unset, .unset, .unset, .unset] [(.int c1)])) rfl (hb hby at_153)) ?_
              show Go p e below s _ _ T (mkF m 155 #[.val (.int a1), .val (.int b1), .val (.int c1), .val (.int d1), .val (.int x1), .val (.int fl), .val (.ref b0), .val (.int nn), .val (.int e0), .val (.int e1), .val (.int (1 : Int32)), .unset, .unset, .unset, .unset] [(.int (2147483647 : Int32)), (.int c1)])
              refine Go.of (fun _ kq => XS.iand X.here hx rfl (hb hby at_155) rfl kq) ?_
              show Go p e below s _ _ T (mkF m 156 #[.val (.int a1), .val (.int b1), .val (.int c1), .val (.int d1), .val (.int x1), .val (.int fl), .val (.ref b0), .val (.int nn), .val (.int e0), .val (.int e1), .val (.int (1 : Int32)), .unset, .unset, .unset, .unset] [(.int (c1 &&& (2147483647 : Int32)))])
              exact jn156 _ (own_m31 _)
            · refine Go.of (fun _ kq => XS.ifNo X.here hx rfl (hb hby at_145) rfl ((if0 _ _).trans (feq hc145).1) kq) ?_
              show Go p e below s _ _ T (mkF m 148 #[.val (.int a1), .val (.int b1), .val (.int c1), .val (.int d1), .val (.int x1), .val (.int fl), .val (.ref b0), .val (.int nn), .val (.int e0), .val (.int e1), .val (.int (1 : Int32)), .unset, .unset, .unset, .unset] [])
              refine Go.of (fun _ kq => XS.iconst X.here hx rfl (hb hby at_148) kq) ?_
              show Go p e below s _ _ T (mkF m 149 #[.val (.int a1), .val (.int b1), .val (.int c1), .val (.int d1), .val (.int x1), .val (.int fl), .val (.ref b0), .val (.int nn), .val (.int e0), .val (.int e1), .val (.int (1 : Int32)), .unset, .unset, .unset, .unset] [(.int (0 : Int32))])
              refine Go.of (fun _ kq => XS.goto X.here hx rfl (pc0 := 149) (pc' := 156) rfl (hb hby at_149) (by decide) (by decide) kq) ?_
              show Go p e below s _ _ T (mkF m 156 #[.val (.int a1), .val (.int b1), .val (.int c1), .val (.int d1), .val (.int x1), .val (.int fl), .val (.ref b0), .val (.int nn), .val (.int e0), .val (.int e1), .val (.int (1 : Int32)), .unset, .unset, .unset, .unset] [(.int (0 : Int32))])
              exact jn156 _ (by decide)
        · intro jn114
          show Go p e below s _ _ T (mkF m 102 #[.val (.int a1), .val (.int b1), .val (.int c1), .val (.int d1), .val (.int x1), .val (.int fl), .val (.ref b0), .val (.int nn), .val (.int e0), .val (.int e1), .unset, .unset, .unset, .unset, .unset] [(.ref b0)])
          refine Go.of (fun _ kq => XS.iload X.here hx rfl (hb hby at_102) rfl kq) ?_
          show Go p e below s _ _ T (mkF m 104 #[.val (.int a1), .val (.int b1), .val (.int c1), .val (.int d1), .val (.int x1), .val (.int fl), .val (.ref b0), .val (.int nn), .val (.int e0), .val (.int e1), .unset, .unset, .unset, .unset, .unset] [(.int fl), (.ref b0)])
          refine Go.of (fun _ kq => XS.iconst X.here hx rfl (hb hby at_104) kq) ?_
          show Go p e below s _ _ T (mkF m 105 #[.val (.int a1), .val (.int b1), .val (.int c1), .val (.int d1), .val (.int x1), .val (.int fl), .val (.ref b0), .val (.int nn), .val (.int e0), .val (.int e1), .unset, .unset, .unset, .unset, .unset] [(.int (1 : Int32)), (.int fl), (.ref b0)])
          refine Go.of (fun _ kq => XS.iand X.here hx rfl (hb hby at_105) rfl kq) ?_
          show Go p e below s _ _ T (mkF m 106 #[.val (.int a1), .val (.int b1), .val (.int c1), .val (.int d1), .val (.int x1), .val (.int fl), .val (.ref b0), .val (.int nn), .val (.int e0), .val (.int e1), .unset, .unset, .unset, .unset, .unset] [(.int (fl &&& (1 : Int32))), (.ref b0)])
          by_cases hc106 : (fl &&& (1 : Int32)) = (0 : Int32)
          · refine Go.of (fun _ kq => XS.ifYes X.here hx rfl (pc0 := 106) (pc' := 113) rfl (hb hby at_106) rfl ((if0 _ _).trans (teq hc106).1) (by decide) (by decide) kq) ?_
            show Go p e below s _ _ T (mkF m 113 #[.val (.int a1), .val (.int b1), .val (.int c1), .val (.int d1), .val (.int x1), .val (.int fl), .val (.ref b0), .val (.int nn), .val (.int e0), .val (.int e1), .unset, .unset, .unset, .unset, .unset] [(.ref b0)])
            refine Go.of (fun _ kq => XS.iconst X.here hx rfl (hb hby at_113) kq) ?_
            show Go p e below s _ _ T (mkF m 114 #[.val (.int a1), .val (.int b1), .val (.int c1), .val (.int d1), .val (.int x1), .val (.int fl), .val (.ref b0), .val (.int nn), .val (.int e0), .val (.int e1), .unset, .unset, .unset, .unset, .unset] [(.int (0 : Int32)), (.ref b0)])
            exact jn114 _ trivial
          · refine Go.of (fun _ kq => XS.ifNo X.here hx rfl (hb hby at_106) rfl ((if0 _ _).trans (feq hc106).1) kq) ?_
            show Go p e below s _ _ T (mkF m 109 #[.val (.int a1), .val (.int b1), .val (.int c1), .val (.int d1), .val (.int x1), .val (.int fl), .val (.ref b0), .val (.int nn), .val (.int e0), .val (.int e1), .unset, .unset, .unset, .unset, .unset] [(.ref b0)])
            refine Go.of (fun _ kq => XS.iconst X.here hx rfl (hb hby at_109) kq) ?_
            show Go p e below s _ _ T (mkF m 110 #[.val (.int a1), .val (.int b1), .val (.int c1), .val (.int d1), .val (.int x1), .val (.int fl), .val (.ref b0), .val (.int nn), .val (.int e0), .val (.int e1), .unset, .unset, .unset, .unset, .unset] [(.int (1 : Int32)), (.ref b0)])
            refine Go.of (fun _ kq => XS.goto X.here hx rfl (pc0 := 110) (pc' := 114) rfl (hb hby at_110) (by decide) (by decide) kq) ?_
            show Go p e below s _ _ T (mkF m 114 #[.val (.int a1), .val (.int b1), .val (.int c1), .val (.int d1), .val (.int x1), .val (.int fl), .val (.ref b0), .val (.int nn), .val (.int e0), .val (.int e1), .unset, .unset, .unset, .unset, .unset] [(.int (1 : Int32)), (.ref b0)])
            exact jn114 _ trivial
      · intro jn100
        show Go p e below s _ _ T (mkF m 82 #[.val (.int a1), .val (.int b1), .val (.int c1), .val (.int d1), .val (.int x1), .val (.int fl), .val (.ref b0), .val (.int nn), .val (.int e0), .val (.int e1), .unset, .unset, .unset, .unset, .unset] [])
        refine Go.of (fun _ kq => XS.iload X.here hx rfl (hb hby at_82) rfl kq) ?_
        show Go p e below s _ _ T (mkF m 84 #[.val (.int a1), .val (.int b1), .val (.int c1), .val (.int d1), .val (.int x1), .val (.int fl), .val (.ref b0), .val (.int nn), .val (.int e0), .val (.int e1), .unset, .unset, .unset, .unset, .unset] [(.int fl)])
        refine Go.of (fun _ kq => XS.bipush X.here hx rfl (hb hby at_84) kq) ?_
        show Go p e below s _ _ T (mkF m 86 #[.val (.int a1), .val (.int b1), .val (.int c1), .val (.int d1), .val (.int x1), .val (.int fl), .val (.ref b0), .val (.int nn), .val (.int e0), .val (.int e1), .unset, .unset, .unset, .unset, .unset] [(.int (16 : Int32)), (.int fl)])
        refine Go.of (fun _ kq => XS.iand X.here hx rfl (hb hby at_86) rfl kq) ?_
        show Go p e below s _ _ T (mkF m 87 #[.val (.int a1), .val (.int b1), .val (.int c1), .val (.int d1), .val (.int x1), .val (.int fl), .val (.ref b0), .val (.int nn), .val (.int e0), .val (.int e1), .unset, .unset, .unset, .unset, .unset] [(.int (fl &&& (16 : Int32)))])
        by_cases hc87 : (fl &&& (16 : Int32)) = (0 : Int32)
        · refine Go.of (fun _ kq => XS.ifYes X.here hx rfl (pc0 := 87) (pc' := 100) rfl (hb hby at_87) rfl ((if0 _ _).trans (teq hc87).1) (by decide) (by decide) kq) ?_
          show Go p e below s _ _ T (mkF m 100 #[.val (.int a1), .val (.int b1), .val (.int c1), .val (.int d1), .val (.int x1), .val (.int fl), .val (.ref b0), .val (.int nn), .val (.int e0), .val (.int e1), .unset, .unset, .unset, .unset, .unset] [])
          exact jn100 () T _ _ X eT ⟨N, K, E_b0, TT⟩
        · refine Go.of (fun _ kq => XS.ifNo X.here hx rfl (hb hby at_87) rfl ((if0 _ _).trans (feq hc87).1) kq) ?_
          show Go p e below s _ _ T (mkF m 90 #[.val (.int a1), .val (.int b1), .val (.int c1), .val (.int d1), .val (.int x1), .val (.int fl), .val (.ref b0), .val (.int nn), .val (.int e0), .val (.int e1), .unset, .unset, .unset, .unset, .unset] [])
          obtain ⟨c3, bl3, la3, ba3, ke3, en3, eb3, D3, Fq3, G3, TV⟩ := TT
          refine Go.of (fun _ kq => XS.aload X.here hx rfl (hb hby at_90) rfl rfl kq) ?_
          show Go p e below s _ _ T (mkF m 92 #[.val (.int a1), .val (.int b1), .val (.int c1), .val (.int d1), .val (.int x1), .val (.int fl), .val (.ref b0), .val (.int nn), .val (.int e0), .val (.int e1), .unset, .unset, .unset, .unset, .unset] [(.ref b0)])
          refine Go.of (fun _ kq => XS.iloadN X.here hx rfl (hb hby at_92) rfl kq) ?_
          show Go p e below s _ _ T (mkF m 93 #[.val (.int a1), .val (.int b1), .val (.int c1), .val (.int d1), .val (.int x1), .val (.int fl), .val (.ref b0), .val (.int nn), .val (.int e0), .val (.int e1), .unset, .unset, .unset, .unset, .unset] [(.int b1), (.ref b0)])
          refine Go.of (X.ldcInt hx hown (mvT hZ (hw _ (List.mem_of_getElem? (i := 75) rfl))) (g := (mkF m 93 #[.val (.int a1), .val (.int b1), .val (.int c1), .val (.int d1), .val (.int x1), .val (.int fl), .val (.ref b0), .val (.int nn), .val (.int e0), .val (.int e1), .unset, .unset, .unset, .unset, .unset] [(.int b1), (.ref b0)])) rfl (hb hby at_93)) ?_
          show Go p e below s _ _ T (mkF m 95 #[.val (.int a1), .val (.int b1), .val (.int c1), .val (.int d1), .val (.int x1), .val (.int fl), .val (.ref b0), .val (.int nn), .val (.int e0), .val (.int e1), .unset, .unset, .unset, .unset, .unset] [(.int (2147483647 : Int32)), (.int b1), (.ref b0)])
          refine Go.of (fun _ kq => XS.iand X.here hx rfl (hb hby at_95) rfl kq) ?_
          show Go p e below s _ _ T (mkF m 96 #[.val (.int a1), .val (.int b1), .val (.int c1), .val (.int d1), .val (.int x1), .val (.int fl), .val (.ref b0), .val (.int nn), .val (.int e0), .val (.int e1), .unset, .unset, .unset, .unset, .unset] [(.int (b1 &&& (2147483647 : Int32))), (.ref b0)])
          refine Go.of (fun _ kq => XS.i2l X.here hx rfl (hb hby at_96) rfl kq) ?_
          show Go p e below s _ _ T (mkF m 97 #[.val (.int a1), .val (.int b1), .val (.int c1), .val (.int d1), .val (.int x1), .val (.int fl), .val (.ref b0), .val (.int nn), .val (.int e0), .val (.int e1), .unset, .unset, .unset, .unset, .unset] [(.long ((b1 &&& (2147483647 : Int32)).toInt64)), (.ref b0)])
          refine Go.virtual (a := b0) X hx hZ hown (hw _ (List.mem_of_getElem? (i := 117) rfl)) (hw _ (List.mem_of_getElem? (i := 118) rfl)) (notFace_of_selects (args := #[]) (mvT hZ (hw _ (List.mem_of_getElem? (i := 120) rfl)))) (hw _ (List.mem_of_getElem? (i := 120) rfl)) (hw _ (List.mem_of_getElem? (i := 119) rfl)) (hw _ (List.mem_of_getElem? (i := 2) rfl)) (hw _ (List.mem_of_getElem? (i := 121) rfl)) (by decide) (rmRun hw ((b1 &&& (2147483647 : Int32)).toInt64) b0 d f g c3 bl3 la3 ba3 ke3 en3 eb3 D3 Fq3 G3 _ n0 g_b0 ne_o_d ne_o_f ne_o_g ne_d_f ne_d_g ne_f_g E_b0 TV) eT E_b0 0 (by decide) (by decide) (by decide) (by decide) (by rw [hml]; rfl) (argsL := [(.long ((b1 &&& (2147483647 : Int32)).toInt64))]) [] (lenOf pd2 rfl) rfl rfl (Nat.le_of_eq rfl) (hb hby at_97) ?_
          intro v T L' X hQ
          obtain ⟨h, eT⟩ : ∃ z, T.heap = z := ⟨_, rfl⟩
          rw [eT] at hQ
          obtain ⟨rfl, N', K', TV⟩ := hQ
          have N := Fr.app N N'
          have K := K.trans K' (own_all1 (Or.inr z_b0))
          have E_b0 := E_b0.keep K'
          show Go p e below s _ _ T (mkF m 100 #[.val (.int a1), .val (.int b1), .val (.int c1), .val (.int d1), .val (.int x1), .val (.int fl), .val (.ref b0), .val (.int nn), .val (.int e0), .val (.int e1), .unset, .unset, .unset, .unset, .unset] [])
          have TT : TB Z h b0 d f g := ⟨_, _, _, _, _, _, _, _, _, _, TV⟩
          exact jn100 () T _ _ X eT ⟨N, K, E_b0, TT⟩
    · intro jn82
      show Go p e below s _ _ T (mkF m 52 #[.val (.int a1), .val (.int b1), .val (.int c1), .val (.int d1), .val (.int x1), .val (.int fl), .val (.ref b0), .val (.int nn), .val (.int e0), .val (.int e1), .unset, .unset, .unset, .unset, .unset] [])
      refine Go.of (fun _ kq => XS.iload X.here hx rfl (hb hby at_52) rfl kq) ?_
      show Go p e below s _ _ T (mkF m 54 #[.val (.int a1), .val (.int b1), .val (.int c1), .val (.int d1), .val (.int x1), .val (.int fl), .val (.ref b0), .val (.int nn), .val (.int e0), .val (.int e1), .unset, .unset, .unset, .unset, .unset] [(.int nn)])
      refine Go.of (fun _ kq => XS.iconst X.here hx rfl (hb hby at_54) kq) ?_
      show Go p e below s _ _ T (mkF m 55 #[.val (.int a1), .val (.int b1), .val (.int c1), .val (.int d1), .val (.int x1), .val (.int fl), .val (.ref b0), .val (.int nn), .val (.int e0), .val (.int e1), .unset, .unset, .unset, .unset, .unset] [(.int (1 : Int32)), (.int nn)])
      by_cases hc55 : nn < (1 : Int32)
      · refine Go.of (fun _ kq => XS.icmpYes X.here hx rfl (pc0 := 55) (pc' := 67) rfl (hb hby at_55) rfl (tlt hc55).1 (by decide) (by decide) kq) ?_
        show Go p e below s _ _ T (mkF m 67 #[.val (.int a1), .val (.int b1), .val (.int c1), .val (.int d1), .val (.int x1), .val (.int fl), .val (.ref b0), .val (.int nn), .val (.int e0), .val (.int e1), .unset, .unset, .unset, .unset, .unset] [])
        refine Go.of (fun _ kq => XS.iload X.here hx rfl (hb hby at_67) rfl kq) ?_
        show Go p e below s _ _ T (mkF m 69 #[.val (.int a1), .val (.int b1), .val (.int c1), .val (.int d1), .val (.int x1), .val (.int fl), .val (.ref b0), .val (.int nn), .val (.int e0), .val (.int e1), .unset, .unset, .unset, .unset, .unset] [(.int nn)])
        refine Go.of (fun _ kq => XS.iconst X.here hx rfl (hb hby at_69) kq) ?_
        show Go p e below s _ _ T (mkF m 70 #[.val (.int a1), .val (.int b1), .val (.int c1), .val (.int d1), .val (.int x1), .val (.int fl), .val (.ref b0), .val (.int nn), .val (.int e0), .val (.int e1), .unset, .unset, .unset, .unset, .unset] [(.int (2 : Int32)), (.int nn)])
        refine Go.of (fun _ kq => XS.icmpYes X.here hx rfl (pc0 := 70) (pc' := 82) rfl (hb hby at_70) rfl (tlt (Int32.lt_trans hc55 (by decide))).1 (by decide) (by decide) kq) ?_
        show Go p e below s _ _ T (mkF m 82 #[.val (.int a1), .val (.int b1), .val (.int c1), .val (.int d1), .val (.int x1), .val (.int fl), .val (.ref b0), .val (.int nn), .val (.int e0), .val (.int e1), .unset, .unset, .unset, .unset, .unset] [])
        have TT : TB Z h b0 d f g := ⟨_, _, _, _, _, _, _, _, _, _, TV⟩
        exact jn82 () T _ _ X eT ⟨N, K, E_b0, TT⟩
      · refine Go.of (fun _ kq => XS.icmpNo X.here hx rfl (hb hby at_55) rfl (flt hc55).1 kq) ?_
        show Go p e below s _ _ T (mkF m 58 #[.val (.int a1), .val (.int b1), .val (.int c1), .val (.int d1), .val (.int x1), .val (.int fl), .val (.ref b0), .val (.int nn), .val (.int e0), .val (.int e1), .unset, .unset, .unset, .unset, .unset] [])
        refine Go.of (fun _ kq => XS.aload X.here hx rfl (hb hby at_58) rfl rfl kq) ?_
        show Go p e below s _ _ T (mkF m 60 #[.val (.int a1), .val (.int b1), .val (.int c1), .val (.int d1), .val (.int x1), .val (.int fl), .val (.ref b0), .val (.int nn), .val (.int e0), .val (.int e1), .unset, .unset, .unset, .unset, .unset] [(.ref b0)])
        refine Go.of (fun _ kq => XS.iload X.here hx rfl (hb hby at_60) rfl kq) ?_
        show Go p e below s _ _ T (mkF m 62 #[.val (.int a1), .val (.int b1), .val (.int c1), .val (.int d1), .val (.int x1), .val (.int fl), .val (.ref b0), .val (.int nn), .val (.int e0), .val (.int e1), .unset, .unset, .unset, .unset, .unset] [(.int e0), (.ref b0)])
        refine Go.of (fun _ kq => XS.iconst X.here hx rfl (hb hby at_62) kq) ?_
        show Go p e below s _ _ T (mkF m 63 #[.val (.int a1), .val (.int b1), .val (.int c1), .val (.int d1), .val (.int x1), .val (.int fl), .val (.ref b0), .val (.int nn), .val (.int e0), .val (.int e1), .unset, .unset, .unset, .unset, .unset] [(.int (1 : Int32)), (.int e0), (.ref b0)])
        refine Go.of (fun _ kq => XS.iloadN X.here hx rfl (hb hby at_63) rfl kq) ?_
        show Go p e below s _ _ T (mkF m 64 #[.val (.int a1), .val (.int b1), .val (.int c1), .val (.int d1), .val (.int x1), .val (.int fl), .val (.ref b0), .val (.int nn), .val (.int e0), .val (.int e1), .unset, .unset, .unset, .unset, .unset] [(.int d1), (.int (1 : Int32)), (.int e0), (.ref b0)])
        refine Go.virtual (a := b0) X hx hZ hown (hw _ (List.mem_of_getElem? (i := 59) rfl)) (hw _ (List.mem_of_getElem? (i := 60) rfl)) (notFace_of_selects (args := #[]) (mvT hZ (hw _ (List.mem_of_getElem? (i := 62) rfl)))) (hw _ (List.mem_of_getElem? (i := 62) rfl)) (hw _ (List.mem_of_getElem? (i := 61) rfl)) (hw _ (List.mem_of_getElem? (i := 2) rfl)) (hw _ (List.mem_of_getElem? (i := 63) rfl)) (by decide) (rmAdd hw e0 (1 : Int32) d1 b0 d f g (0 : Int32) (0 : Int32) (-1 : Int32) (-1 : Int32) ke1 (-1 : Int64) (0 : Int64) D1 Fq1 G1 _ n0 g_b0 g_d g_f g_g ne_o_d ne_o_f ne_o_g ne_d_f ne_d_g ne_f_g (own_m1 he0.1) ⟨by decide, by decide⟩ E_b0 TV) eT E_b0 0 (by decide) (by decide) (by decide) (by decide) (by rw [hml]; rfl) (argsL := [(.int e0), (.int (1 : Int32)), (.int d1)]) [] (lenOf pd9 rfl) rfl rfl (Nat.le_of_eq rfl) (hb hby at_64) ?_
        intro v T L' X hQ
        obtain ⟨h, eT⟩ : ∃ z, T.heap = z := ⟨_, rfl⟩
        rw [eT] at hQ
        obtain ⟨rfl, N', K', TV⟩ := hQ
        have N := Fr.app N N'
        have K := K.trans K' (own_all4 (Or.inr z_b0) (Or.inr z_d) (Or.inr z_f) (Or.inr z_g))
        have E_b0 := E_b0.keep K'
        have TV : TBv Z h b0 d f g (1 : Int32) (0 : Int32) e0 (-1 : Int32) ke1 (-1 : Int64) (0 : Int64) (updI D1 0 e0) (updI Fq1 0 (1 : Int32)) (updI G1 0 d1) := TV
        show Go p e below s _ _ T (mkF m 67 #[.val (.int a1), .val (.int b1), .val (.int c1), .val (.int d1), .val (.int x1), .val (.int fl), .val (.ref b0), .val (.int nn), .val (.int e0), .val (.int e1), .unset, .unset, .unset, .unset, .unset] [])
        refine Go.of (fun _ kq => XS.iload X.here hx rfl (hb hby at_67) rfl kq) ?_
        show Go p e below s _ _ T (mkF m 69 #[.val (.int a1), .val (.int b1), .val (.int c1), .val (.int d1), .val (.int x1), .val (.int fl), .val (.ref b0), .val (.int nn), .val (.int e0), .val (.int e1), .unset, .unset, .unset, .unset, .unset] [(.int nn)])
        refine Go.of (fun _ kq => XS.iconst X.here hx rfl (hb hby at_69) kq) ?_
        show Go p e below s _ _ T (mkF m 70 #[.val (.int a1), .val (.int b1), .val (.int c1), .val (.int d1), .val (.int x1), .val (.int fl), .val (.ref b0), .val (.int nn), .val (.int e0), .val (.int e1), .unset, .unset, .unset, .unset, .unset] [(.int (2 : Int32)), (.int nn)])
        by_cases hc70 : nn < (2 : Int32)
        · refine Go.of (fun _ kq => XS.icmpYes X.here hx rfl (pc0 := 70) (pc' := 82) rfl (hb hby at_70) rfl (tlt hc70).1 (by decide) (by decide) kq) ?_
          show Go p e below s _ _ T (mkF m 82 #[.val (.int a1), .val (.int b1), .val (.int c1), .val (.int d1), .val (.int x1), .val (.int fl), .val (.ref b0), .val (.int nn), .val (.int e0), .val (.int e1), .unset, .unset, .unset, .unset, .unset] [])
          have TT : TB Z h b0 d f g := ⟨_, _, _, _, _, _, _, _, _, _, TV⟩
          exact jn82 () T _ _ X eT ⟨N, K, E_b0, TT⟩
        · refine Go.of (fun _ kq => XS.icmpNo X.here hx rfl (hb hby at_70) rfl (flt hc70).1 kq) ?_
          show Go p e below s _ _ T (mkF m 73 #[.val (.int a1), .val (.int b1), .val (.int c1), .val (.int d1), .val (.int x1), .val (.int fl), .val (.ref b0), .val (.int nn), .val (.int e0), .val (.int e1), .unset, .unset, .unset, .unset, .unset] [])
          refine Go.of (fun _ kq => XS.aload X.here hx rfl (hb hby at_73) rfl rfl kq) ?_
          show Go p e below s _ _ T (mkF m 75 #[.val (.int a1), .val (.int b1), .val (.int c1), .val (.int d1), .val (.int x1), .val (.int fl), .val (.ref b0), .val (.int nn), .val (.int e0), .val (.int e1), .unset, .unset, .unset, .unset, .unset] [(.ref b0)])
          refine Go.of (fun _ kq => XS.iload X.here hx rfl (hb hby at_75) rfl kq) ?_
          show Go p e below s _ _ T (mkF m 77 #[.val (.int a1), .val (.int b1), .val (.int c1), .val (.int d1), .val (.int x1), .val (.int fl), .val (.ref b0), .val (.int nn), .val (.int e0), .val (.int e1), .unset, .unset, .unset, .unset, .unset] [(.int e1), (.ref b0)])
          refine Go.of (fun _ kq => XS.iconst X.here hx rfl (hb hby at_77) kq) ?_
          show Go p e below s _ _ T (mkF m 78 #[.val (.int a1), .val (.int b1), .val (.int c1), .val (.int d1), .val (.int x1), .val (.int fl), .val (.ref b0), .val (.int nn), .val (.int e0), .val (.int e1), .unset, .unset, .unset, .unset, .unset] [(.int (2 : Int32)), (.int e1), (.ref b0)])
          refine Go.of (fun _ kq => XS.iloadN X.here hx rfl (hb hby at_78) rfl kq) ?_
          show Go p e below s _ _ T (mkF m 79 #[.val (.int a1), .val (.int b1), .val (.int c1), .val (.int d1), .val (.int x1), .val (.int fl), .val (.ref b0), .val (.int nn), .val (.int e0), .val (.int e1), .unset, .unset, .unset, .unset, .unset] [(.int d1), (.int (2 : Int32)), (.int e1), (.ref b0)])
          refine Go.virtual (a := b0) X hx hZ hown (hw _ (List.mem_of_getElem? (i := 59) rfl)) (hw _ (List.mem_of_getElem? (i := 60) rfl)) (notFace_of_selects (args := #[]) (mvT hZ (hw _ (List.mem_of_getElem? (i := 62) rfl)))) (hw _ (List.mem_of_getElem? (i := 62) rfl)) (hw _ (List.mem_of_getElem? (i := 61) rfl)) (hw _ (List.mem_of_getElem? (i := 2) rfl)) (hw _ (List.mem_of_getElem? (i := 63) rfl)) (by decide) (rmAdd hw e1 (2 : Int32) d1 b0 d f g (1 : Int32) (0 : Int32) e0 (-1 : Int32) ke1 (-1 : Int64) (0 : Int64) (updI D1 0 e0) (updI Fq1 0 (1 : Int32)) (updI G1 0 d1) _ n0 g_b0 g_d g_f g_g ne_o_d ne_o_f ne_o_g ne_d_f ne_d_g ne_f_g hlt ⟨by decide, by decide⟩ E_b0 TV) eT E_b0 0 (by decide) (by decide) (by decide) (by decide) (by rw [hml]; rfl) (argsL := [(.int e1), (.int (2 : Int32)), (.int d1)]) [] (lenOf pd9 rfl) rfl rfl (Nat.le_of_eq rfl) (hb hby at_79) ?_
          intro v T L' X hQ
          obtain ⟨h, eT⟩ : ∃ z, T.heap = z := ⟨_, rfl⟩
          rw [eT] at hQ
          obtain ⟨rfl, N', K', TV⟩ := hQ
          have N := Fr.app N N'
          have K := K.trans K' (own_all4 (Or.inr z_b0) (Or.inr z_d) (Or.inr z_f) (Or.inr z_g))
          have E_b0 := E_b0.keep K'
          have TV : TBv Z h b0 d f g (2 : Int32) (0 : Int32) e1 (-1 : Int32) ke1 (-1 : Int64) (0 : Int64) (updI (updI D1 0 e0) 1 e1) (updI (updI Fq1 0 (1 : Int32)) 1 (2 : Int32)) (updI (updI G1 0 d1) 1 d1) := TV
          show Go p e below s _ _ T (mkF m 82 #[.val (.int a1), .val (.int b1), .val (.int c1), .val (.int d1), .val (.int x1), .val (.int fl), .val (.ref b0), .val (.int nn), .val (.int e0), .val (.int e1), .unset, .unset, .unset, .unset, .unset] [])
          have TT : TB Z h b0 d f g := ⟨_, _, _, _, _, _, _, _, _, _, TV⟩
          exact jn82 () T _ _ X eT ⟨N, K, E_b0, TT⟩
  · intro jn24
    show Go p e below s _ _ T (mkF m 11 #[.val (.int a1), .val (.int b1), .val (.int c1), .val (.int d1), .val (.int x1), .val (.int fl), .val (.ref b0), .unset, .unset, .unset, .unset, .unset, .unset, .unset, .unset] [(.ref b0)])
    refine Go.of (fun _ kq => XS.iload X.here hx rfl (hb hby at_11) rfl kq) ?_
    show Go p e below s _ _ T (mkF m 13 #[.val (.int a1), .val (.int b1), .val (.int c1), .val (.int d1), .val (.int x1), .val (.int fl), .val (.ref b0), .unset, .unset, .unset, .unset, .unset, .unset, .unset, .unset] [(.int fl), (.ref b0)])
    refine Go.of (fun _ kq => XS.bipush X.here hx rfl (hb hby at_13) kq) ?_
    show Go p e below s _ _ T (mkF m 15 #[.val (.int a1), .val (.int b1), .val (.int c1), .val (.int d1), .val (.int x1), .val (.int fl), .val (.ref b0), .unset, .unset, .unset, .unset, .unset, .unset, .unset, .unset] [(.int (32 : Int32)), (.int fl), (.ref b0)])
    refine Go.of (fun _ kq => XS.iand X.here hx rfl (hb hby at_15) rfl kq) ?_
    show Go p e below s _ _ T (mkF m 16 #[.val (.int a1), .val (.int b1), .val (.int c1), .val (.int d1), .val (.int x1), .val (.int fl), .val (.ref b0), .unset, .unset, .unset, .unset, .unset, .unset, .unset, .unset] [(.int (fl &&& (32 : Int32))), (.ref b0)])
    by_cases hc16 : (fl &&& (32 : Int32)) = (0 : Int32)
    · refine Go.of (fun _ kq => XS.ifYes X.here hx rfl (pc0 := 16) (pc' := 23) rfl (hb hby at_16) rfl ((if0 _ _).trans (teq hc16).1) (by decide) (by decide) kq) ?_
      show Go p e below s _ _ T (mkF m 23 #[.val (.int a1), .val (.int b1), .val (.int c1), .val (.int d1), .val (.int x1), .val (.int fl), .val (.ref b0), .unset, .unset, .unset, .unset, .unset, .unset, .unset, .unset] [(.ref b0)])
      refine Go.of (fun _ kq => XS.iconst X.here hx rfl (hb hby at_23) kq) ?_
      show Go p e below s _ _ T (mkF m 24 #[.val (.int a1), .val (.int b1), .val (.int c1), .val (.int d1), .val (.int x1), .val (.int fl), .val (.ref b0), .unset, .unset, .unset, .unset, .unset, .unset, .unset, .unset] [(.int (0 : Int32)), (.ref b0)])
      exact jn24 _ trivial
    · refine Go.of (fun _ kq => XS.ifNo X.here hx rfl (hb hby at_16) rfl ((if0 _ _).trans (feq hc16).1) kq) ?_
      show Go p e below s _ _ T (mkF m 19 #[.val (.int a1), .val (.int b1), .val (.int c1), .val (.int d1), .val (.int x1), .val (.int fl), .val (.ref b0), .unset, .unset, .unset, .unset, .unset, .unset, .unset, .unset] [(.ref b0)])
      refine Go.of (fun _ kq => XS.iconst X.here hx rfl (hb hby at_19) kq) ?_
      show Go p e below s _ _ T (mkF m 20 #[.val (.int a1), .val (.int b1), .val (.int c1), .val (.int d1), .val (.int x1), .val (.int fl), .val (.ref b0), .unset, .unset, .unset, .unset, .unset, .unset, .unset, .unset] [(.int (1 : Int32)), (.ref b0)])
      refine Go.of (fun _ kq => XS.goto X.here hx rfl (pc0 := 20) (pc' := 24) rfl (hb hby at_20) (by decide) (by decide) kq) ?_
      show Go p e below s _ _ T (mkF m 24 #[.val (.int a1), .val (.int b1), .val (.int c1), .val (.int d1), .val (.int x1), .val (.int fl), .val (.ref b0), .unset, .unset, .unset, .unset, .unset, .unset, .unset, .unset] [(.int (1 : Int32)), (.ref b0)])
      exact jn24 _ trivial
set_option maxRecDepth 65536 in
set_option maxHeartbeats 40000000 in
theorem comes_1 {Post : Tables → Env → Array Value → State → Outcome → State → Prop} (hpost : ∀ tb e args s v u, (limb_1_1.after args s (.returned v) u = true ∧ limb_1_2.after args s (.returned v) u = true ∧ True) → FrameEnd s (.returned v) u (Jvm.fieldLocs frame_1_writes args s ++ Jvm.arrayLocs frame_1_arrays args s ++ Jvm.staticLocs frame_1_statics s) 32 1792 → Post tb e args s (.returned v) u) :
    ArmFor flags0 classFile x code maxLocals ret World_1 tables_1 room_1 Calls_1 rest_1 Pre_1 Post := by
  intro l hfl _ _ p e ha hc hk s m args below hf hA hF happ hP
  obtain ⟨hcalls, hrest, hpre⟩ := hP
  obtain ⟨-, -, -, hnamed, -, -, -, hat⟩ := (Spec.applies_iff hf).mp happ
  obtain ⟨hg, hn⟩ := and_e (Cond.before_iff.mp (show (Jvm.Cond.and given_1 narrow_1).before args s = true from hpre))
  obtain ⟨gc, g0⟩ := and_e hg
  obtain ⟨k0, g1⟩ := and_e g0
  obtain ⟨k1, g2⟩ := and_e g1
  obtain ⟨k2, g3⟩ := and_e g2
  obtain ⟨k3, g4⟩ := and_e g3
  obtain ⟨k4, g5⟩ := and_e g4
  obtain ⟨w0, w1, w2, w3, w4, w5, rfl⟩ : ∃ w0 w1 w2 w3 w4 w5 : Value, args = #[w0, w1, w2, w3, w4, w5] := by
    have hs : args.size = 6 := by simpa [Cond.value, given_1] using gc
    obtain ⟨L⟩ := args
    match L, hs with
    | [w0, w1, w2, w3, w4, w5], _ => exact ⟨w0, w1, w2, w3, w4, w5, rfl⟩
  have hw := fun d (hd : d ∈ tables_1) => atoms_spec (ws := Jvm.Cond.code x code maxLocals ret :: tables_1) hat d (List.mem_cons_of_mem _ hd)
  obtain ⟨i0, ei0⟩ := is_v k0
  obtain rfl : w0 = (.int i0) := Option.some.inj ei0
  obtain ⟨i1, ei1⟩ := is_v k1
  obtain rfl : w1 = (.int i1) := Option.some.inj ei1
  obtain ⟨i2, ei2⟩ := is_v k2
  obtain rfl : w2 = (.int i2) := Option.some.inj ei2
  obtain ⟨i3, ei3⟩ := is_v k3
  obtain rfl : w3 = (.int i3) := Option.some.inj ei3
  obtain ⟨i4, ei4⟩ := is_v k4
  obtain rfl : w4 = (.int i4) := Option.some.inj ei4
  obtain ⟨i5, ei5⟩ := is_v g5
  obtain rfl : w5 = (.int i5) := Option.some.inj ei5
  obtain ⟨n, o, h1, h2, h3, _, L, rfl, ⟨rfl, N⟩, hq⟩ := rm0 (l := l) (Z := s) hw i0 i1 i2 i3 i4 i5 s.heap s.heap.size (Nat.le_refl _) p e ha hc hk s m _ below hf ((Spec.applies_iff_loose hf).mp happ).1 ⟨rfl, State.Warmed39.refl s, rfl⟩ trivial
  refine ⟨n, _, h1, h2, h3, hpost _ _ _ _ _ _ ⟨Cond.after_iff.mpr rfl, Cond.after_iff.mpr (eq_i res_at (Term.int_eval (1)) rfl), trivial⟩ ⟨hq.1, hq.2.1, (hq.2.2.sift fun y hy => Or.inr (N y hy)).mono (by decide) (by decide)⟩⟩
theorem main_1_1 : Claimed_1_1 := comes_1 fun _ _ _ _ _ _ h hF => ⟨h.1, hF⟩
theorem main_1_2 : Claimed_1_2 := comes_1 fun _ _ _ _ _ _ h hF => ⟨h.2.1, hF⟩
end Jvm.Pilot.@@N@@
namespace Jvm.Pilot.@@N@@
open Jvm Jvm.ClassFile Sem Op Lib Jvm.Free Jvm.Stand Jvm.Pilot.@@N@@.Jvm.D
/-! MADE BY PROGRAM (witnessworld.py) out of the Statement's table words and the real class files: 20 classes; the members and pool entries that the words name. The judged class is class 1, her method 2. -/
namespace start1
open Jvm.ClassFile
def u (s : String) : CpInfo := .utf8 (stringToUtf16 s)
/-- a pool by its gaps: so many unusable entries, then the entry; so many at the end -/
def gap : Nat → List CpInfo → List CpInfo
  | 0, r => r
  | n + 1, r => .unusable :: gap n r
def poolList (es : List (Nat × CpInfo)) (last : Nat) : List CpInfo := es.foldr (fun e r => gap e.1 (e.2 :: r)) (gap last [])
def pool (es : List (Nat × CpInfo)) (last : Nat) : Array CpInfo := ⟨poolList es last⟩
def fileOf (pool : Array CpInfo) (this : Nat) (attrs : Array Attribute := #[]) (ms : Array MethodInfo := #[]) (fl : Nat := 33) (sup : Nat := 0) (ifs : Array Nat := #[]) (fds : Array FieldInfo := #[]) : ClassFile where
  minorVersion := 0
  majorVersion := 65
  constantPool := pool
  accessFlags := fl
  thisClass := this
  superClass := sup
  interfaces := ifs
  fields := fds
  methods := ms
  attributes := attrs
def plain (name : String) (sup : Option ClassId) : Class where
  name := name
  kind := .ordinary
  loader := none
  accessFlags := 33
  super := sup
  interfaces := #[]
  cf := none
  fields := #[]
  methods := #[]
  instanceTypes := #[]
  staticTypes := #[]
  resolved := #[]
  callSites := []
  init := .initialized
  statics := none
  mirror := none

def pool0 : Array CpInfo := pool [(5, u "<init>"), (0, u "()V"), (1, .class_ 10), (1, u "java/lang/Object")] 113

def k0c0 : Code := { maxStack := 0, maxLocals := 1, code := object_method_1_code, exceptionTable := #[], attributes := #[] }
def k0m0 : Method := { name := "<init>", desc := "()V", sig := { parameters := [], returnType := none }, accessFlags := 1, code := some k0c0 }
/-- java/lang/Object -/
def k0 : Class := { plain "java/lang/Object" none with
  accessFlags := 33
  interfaces := #[]
  cf := some (fileOf pool0 8 #[] #[{ accessFlags := 1, nameIndex := 5, descriptorIndex := 6, attributes := #[] }] 33 0 #[] #[])
  fields := #[]
  methods := #[k0m0]
  instanceTypes := #[]
  staticTypes := #[]
  resolved := Array.replicate 124 none
  statics := none }

def pool1 : Array CpInfo := pool [(2, .class_ 4), (0, .nameAndType 5 6), (0, u "java/lang/Object"), (0, u "<init>"), (0, u "()V"), (0, .long 128), (1, .long 16384), (1, .long 2097152), (1, .long 268435456), (1, .long 34359738368), (1, .class_ 18), (0, u "org/segmentry/segment/TermBlocks"), (0, .methodref 17 3), (0, .methodref 17 21), (0, .nameAndType 22 23), (0, u "start"), (0, u "(Z)V"), (0, .integer 1073741823), (0, .methodref 17 26), (0, .nameAndType 27 28), (0, u "add"), (0, u "(III)V"), (0, .integer 2147483647), (0, .methodref 17 31), (0, .nameAndType 32 33), (0, u "runStarts"), (0, u "(J)V"), (0, .methodref 17 35), (0, .nameAndType 36 37), (0, u "holdsPostings"), (0, u "()Z"), (0, .methodref 17 39), (0, .nameAndType 40 37), (0, u "isFull"), (0, .methodref 42 43), (0, .class_ 44), (0, .nameAndType 45 46), (0, u "java/lang/Math"), (0, u "max"), (0, u "(II)I"), (0, .long 2), (1, .methodref 50 51), (0, .class_ 52), (0, .nameAndType 53 54), (0, u "org/segmentry/segment/TermBlocksStartPinLaw"), (0, u "vlen"), (0, u "(J)I"), (0, .methodref 17 56), (0, .nameAndType 57 58), (0, u "length"), (0, u "()J"), (3, u "law"), (0, u "(IIIIII)Z")] 2

def k1m0 : Method := { name := "<init>", desc := "()V", sig := { parameters := [], returnType := none }, accessFlags := 1, code := none }
def k1c1 : Code := { maxStack := 4, maxLocals := 2, code := method_2_code, exceptionTable := #[], attributes := #[] }
def k1m1 : Method := { name := "vlen", desc := "(J)I", sig := { parameters := [.long], returnType := some .int }, accessFlags := 10, code := some k1c1 }
def k1c2 : Code := { maxStack := 4, maxLocals := 15, code := code, exceptionTable := #[], attributes := #[] }
def k1m2 : Method := { name := "law", desc := "(IIIIII)Z", sig := { parameters := [.int, .int, .int, .int, .int, .int], returnType := some .boolean }, accessFlags := 9, code := some k1c2 }
/-- org/segmentry/segment/TermBlocksStartPinLaw -/
def k1 : Class := { plain "org/segmentry/segment/TermBlocksStartPinLaw" (some 0) with
  accessFlags := 49
  interfaces := #[]
  cf := some (fileOf pool1 50 #[] #[{ accessFlags := 1, nameIndex := 5, descriptorIndex := 6, attributes := #[] }, { accessFlags := 10, nameIndex := 53, descriptorIndex := 54, attributes := #[] }, { accessFlags := 9, nameIndex := 62, descriptorIndex := 63, attributes := #[] }] 49 2 #[] #[])
  fields := #[]
  methods := #[k1m0, k1m1, k1m2]
  instanceTypes := #[]
  staticTypes := #[]
  resolved := Array.replicate 66 none
  statics := none }

def pool2 : Array CpInfo := pool [(3, .methodref 4 5), (0, .class_ 6), (0, .nameAndType 7 8), (0, u "java/lang/Object"), (0, u "<init>"), (0, u "()V"), (2, .fieldref 12 13), (0, .class_ 14), (0, .nameAndType 15 16), (0, u "org/segmentry/segment/TermBlocks"), (0, u "m_documents"), (0, u "[I"), (0, .fieldref 12 18), (0, .nameAndType 19 16), (0, u "m_frequencies"), (0, .fieldref 12 21), (0, .nameAndType 22 16), (0, u "m_lengths"), (0, .class_ 24), (0, u "org/segmentry/segment/BlockBounds"), (0, .fieldref 12 26), (0, .nameAndType 27 16), (0, u "m_pairFrequencies"), (0, .fieldref 12 29), (0, .nameAndType 30 16), (0, u "m_pairLengths"), (0, .methodref 23 5), (0, .fieldref 12 33), (0, .nameAndType 34 35), (0, u "m_bounds"), (0, u "Lorg/segmentry/segment/BlockBounds;"), (0, .fieldref 12 37), (0, .nameAndType 38 39), (0, u "m_count"), (0, u "I"), (0, .fieldref 12 41), (0, .nameAndType 42 43), (0, u "m_blocked"), (0, u "Z"), (0, .fieldref 12 45), (0, .nameAndType 46 39), (0, u "m_last"), (0, .fieldref 12 48), (0, .nameAndType 49 39), (0, u "m_base"), (0, .fieldref 12 51), (0, .nameAndType 52 43), (0, u "m_keepsEntry"), (0, .long 18446744073709551615), (1, .fieldref 12 56), (0, .nameAndType 57 58), (0, u "m_entry"), (0, u "J"), (0, .fieldref 12 60), (0, .nameAndType 61 58), (0, u "m_entryBefore"), (9, .methodref 12 72), (0, .nameAndType 73 74), (0, u "isFull"), (0, u "()Z"), (2, .methodref 78 79), (0, .class_ 80), (0, .nameAndType 81 82), (0, u "org/segmentry/files/ByteWriter"), (0, u "gapPairLength"), (0, u "(II)I"), (5, .class_ 90), (1, u "org/segmentry/segment/TermBlocks$Shape"), (68, u "(III)V"), (0, u "sf_mostGapBits"), (2, u "sf_noEntry"), (2, u "start"), (0, u "(Z)V"), (0, u "add"), (1, u "runStarts"), (0, u "(J)V"), (0, u "holdsPostings"), (0, u "length"), (0, u "()J")] 24

def k2c0 : Code := { maxStack := 3, maxLocals := 1, code := prog_162_method_1_code, exceptionTable := #[], attributes := #[] }
def k2m0 : Method := { name := "<init>", desc := "()V", sig := { parameters := [], returnType := none }, accessFlags := 0, code := some k2c0 }
def k2c1 : Code := { maxStack := 3, maxLocals := 2, code := prog_162_method_2_code, exceptionTable := #[], attributes := #[] }
def k2m1 : Method := { name := "start", desc := "(Z)V", sig := { parameters := [.boolean], returnType := none }, accessFlags := 0, code := some k2c1 }
def k2c2 : Code := { maxStack := 3, maxLocals := 4, code := prog_162_method_3_code, exceptionTable := #[], attributes := #[] }
def k2m2 : Method := { name := "add", desc := "(III)V", sig := { parameters := [.int, .int, .int], returnType := none }, accessFlags := 0, code := some k2c2 }
def k2c3 : Code := { maxStack := 3, maxLocals := 3, code := prog_162_method_4_code, exceptionTable := #[], attributes := #[] }
def k2m3 : Method := { name := "runStarts", desc := "(J)V", sig := { parameters := [.long], returnType := none }, accessFlags := 0, code := some k2c3 }
def k2c4 : Code := { maxStack := 2, maxLocals := 1, code := prog_162_method_5_code, exceptionTable := #[], attributes := #[] }
def k2m4 : Method := { name := "isFull", desc := "()Z", sig := { parameters := [], returnType := some .boolean }, accessFlags := 0, code := some k2c4 }
def k2c5 : Code := { maxStack := 1, maxLocals := 1, code := prog_162_method_6_code, exceptionTable := #[], attributes := #[] }
def k2m5 : Method := { name := "holdsPostings", desc := "()Z", sig := { parameters := [], returnType := some .boolean }, accessFlags := 0, code := some k2c5 }
def k2c6 : Code := { maxStack := 5, maxLocals := 5, code := prog_162_method_7_code, exceptionTable := #[], attributes := #[] }
def k2m6 : Method := { name := "length", desc := "()J", sig := { parameters := [], returnType := some .long }, accessFlags := 0, code := some k2c6 }
/-- org/segmentry/segment/TermBlocks -/
def k2 : Class := { plain "org/segmentry/segment/TermBlocks" (some 0) with
  accessFlags := 48
  interfaces := #[]
  cf := some (fileOf pool2 12 #[.nestMembers #[88]] #[{ accessFlags := 0, nameIndex := 7, descriptorIndex := 8, attributes := #[] }, { accessFlags := 0, nameIndex := 166, descriptorIndex := 167, attributes := #[] }, { accessFlags := 0, nameIndex := 168, descriptorIndex := 159, attributes := #[] }, { accessFlags := 0, nameIndex := 170, descriptorIndex := 171, attributes := #[] }, { accessFlags := 0, nameIndex := 73, descriptorIndex := 74, attributes := #[] }, { accessFlags := 0, nameIndex := 172, descriptorIndex := 74, attributes := #[] }, { accessFlags := 0, nameIndex := 173, descriptorIndex := 174, attributes := #[] }] 48 4 #[] #[{ accessFlags := 26, nameIndex := 160, descriptorIndex := 39, attributes := #[] }, { accessFlags := 26, nameIndex := 163, descriptorIndex := 58, attributes := #[] }, { accessFlags := 18, nameIndex := 15, descriptorIndex := 16, attributes := #[] }, { accessFlags := 18, nameIndex := 19, descriptorIndex := 16, attributes := #[] }, { accessFlags := 18, nameIndex := 22, descriptorIndex := 16, attributes := #[] }, { accessFlags := 2, nameIndex := 52, descriptorIndex := 43, attributes := #[] }, { accessFlags := 2, nameIndex := 57, descriptorIndex := 58, attributes := #[] }, { accessFlags := 2, nameIndex := 61, descriptorIndex := 58, attributes := #[] }, { accessFlags := 18, nameIndex := 27, descriptorIndex := 16, attributes := #[] }, { accessFlags := 18, nameIndex := 30, descriptorIndex := 16, attributes := #[] }, { accessFlags := 18, nameIndex := 34, descriptorIndex := 35, attributes := #[] }, { accessFlags := 2, nameIndex := 38, descriptorIndex := 39, attributes := #[] }, { accessFlags := 2, nameIndex := 42, descriptorIndex := 43, attributes := #[] }, { accessFlags := 2, nameIndex := 46, descriptorIndex := 39, attributes := #[] }, { accessFlags := 2, nameIndex := 49, descriptorIndex := 39, attributes := #[] }])
  fields := #[{ name := "sf_mostGapBits", type := .int, accessFlags := 26, slot := 0, constantValue := 0 }, { name := "sf_noEntry", type := .long, accessFlags := 26, slot := 1, constantValue := 0 }, { name := "m_documents", type := (.array .int), accessFlags := 18, slot := 0, constantValue := 0 }, { name := "m_frequencies", type := (.array .int), accessFlags := 18, slot := 1, constantValue := 0 }, { name := "m_lengths", type := (.array .int), accessFlags := 18, slot := 2, constantValue := 0 }, { name := "m_keepsEntry", type := .boolean, accessFlags := 2, slot := 3, constantValue := 0 }, { name := "m_entry", type := .long, accessFlags := 2, slot := 4, constantValue := 0 }, { name := "m_entryBefore", type := .long, accessFlags := 2, slot := 5, constantValue := 0 }, { name := "m_pairFrequencies", type := (.array .int), accessFlags := 18, slot := 6, constantValue := 0 }, { name := "m_pairLengths", type := (.array .int), accessFlags := 18, slot := 7, constantValue := 0 }, { name := "m_bounds", type := (.object "org/segmentry/segment/BlockBounds"), accessFlags := 18, slot := 8, constantValue := 0 }, { name := "m_count", type := .int, accessFlags := 2, slot := 9, constantValue := 0 }, { name := "m_blocked", type := .boolean, accessFlags := 2, slot := 10, constantValue := 0 }, { name := "m_last", type := .int, accessFlags := 2, slot := 11, constantValue := 0 }, { name := "m_base", type := .int, accessFlags := 2, slot := 12, constantValue := 0 }]
  methods := #[k2m0, k2m1, k2m2, k2m3, k2m4, k2m5, k2m6]
  instanceTypes := #[(.array .int), (.array .int), (.array .int), .boolean, .long, .long, (.array .int), (.array .int), (.object "org/segmentry/segment/BlockBounds"), .int, .boolean, .int, .int]
  staticTypes := #[.int, .long]
  resolved := Array.replicate 199 none
  statics := none }

def pool3 : Array CpInfo := pool [(1, .methodref 2 3), (0, .class_ 4), (0, .nameAndType 5 6), (0, u "java/lang/Object"), (0, u "<init>"), (0, u "()V"), (0, .class_ 8), (0, u "org/segmentry/segment/BlockBounds"), (0, .fieldref 7 10), (0, .nameAndType 11 12), (0, u "m_shortest"), (0, u "[I"), (2, .fieldref 7 16), (0, .nameAndType 17 18), (0, u "m_sorted"), (0, u "[J"), (0, .fieldref 7 20), (0, .nameAndType 21 12), (0, u "m_frequencies"), (0, .fieldref 7 23), (0, .nameAndType 24 12), (0, u "m_lengths"), (34, u "sf_mostPairs"), (0, u "I"), (2, u "sf_counted")] 9

def k3c0 : Code := { maxStack := 2, maxLocals := 1, code := prog_99_method_1_code, exceptionTable := #[], attributes := #[] }
def k3m0 : Method := { name := "<init>", desc := "()V", sig := { parameters := [], returnType := none }, accessFlags := 0, code := some k3c0 }
/-- org/segmentry/segment/BlockBounds -/
def k3 : Class := { plain "org/segmentry/segment/BlockBounds" (some 0) with
  accessFlags := 48
  interfaces := #[]
  cf := some (fileOf pool3 7 #[] #[{ accessFlags := 0, nameIndex := 5, descriptorIndex := 6, attributes := #[] }] 48 2 #[] #[{ accessFlags := 24, nameIndex := 59, descriptorIndex := 60, attributes := #[] }, { accessFlags := 26, nameIndex := 63, descriptorIndex := 60, attributes := #[] }, { accessFlags := 18, nameIndex := 11, descriptorIndex := 12, attributes := #[] }, { accessFlags := 18, nameIndex := 17, descriptorIndex := 18, attributes := #[] }, { accessFlags := 18, nameIndex := 21, descriptorIndex := 12, attributes := #[] }, { accessFlags := 18, nameIndex := 24, descriptorIndex := 12, attributes := #[] }])
  fields := #[{ name := "sf_mostPairs", type := .int, accessFlags := 24, slot := 0, constantValue := 0 }, { name := "sf_counted", type := .int, accessFlags := 26, slot := 1, constantValue := 0 }, { name := "m_shortest", type := (.array .int), accessFlags := 18, slot := 0, constantValue := 0 }, { name := "m_sorted", type := (.array .long), accessFlags := 18, slot := 1, constantValue := 0 }, { name := "m_frequencies", type := (.array .int), accessFlags := 18, slot := 2, constantValue := 0 }, { name := "m_lengths", type := (.array .int), accessFlags := 18, slot := 3, constantValue := 0 }]
  methods := #[k3m0]
  instanceTypes := #[(.array .int), (.array .long), (.array .int), (.array .int)]
  staticTypes := #[.int, .int]
  resolved := Array.replicate 73 none
  statics := none }

def pool4 : Array CpInfo := pool [(1, .class_ 2), (0, u "java/lang/Math"), (1, .class_ 6), (1, u "java/lang/Object"), (0, u "<init>"), (0, u "()V"), (89, .class_ 100), (1, u "java/lang/Math$RandomNumberGeneratorHolder"), (71, u "negativeZeroFloatBits"), (0, u "J"), (2, u "negativeZeroDoubleBits"), (21, u "max"), (46, u "$assertionsDisabled"), (0, u "Z"), (88, u "(II)I"), (2, u "twoToTheDoubleScaleDown"), (0, u "D"), (4, u "twoToTheDoubleScaleUp"), (9, u "E"), (3, u "PI"), (2, u "TAU"), (2, u "DEGREES_TO_RADIANS"), (0, u "RADIANS_TO_DEGREES")] 94

def k4m0 : Method := { name := "<init>", desc := "()V", sig := { parameters := [], returnType := none }, accessFlags := 2, code := none }
def k4c1 : Code := { maxStack := 2, maxLocals := 2, code := jdk_29_method_65_code, exceptionTable := #[], attributes := #[] }
def k4m1 : Method := { name := "max", desc := "(II)I", sig := { parameters := [.int, .int], returnType := some .int }, accessFlags := 9, code := some k4c1 }
/-- java/lang/Math -/
def k4 : Class := { plain "java/lang/Math" (some 0) with
  accessFlags := 49
  interfaces := #[]
  cf := some (fileOf pool4 1 #[.nestMembers #[98]] #[{ accessFlags := 2, nameIndex := 7, descriptorIndex := 8, attributes := #[] }, { accessFlags := 9, nameIndex := 198, descriptorIndex := 335, attributes := #[] }] 49 4 #[] #[{ accessFlags := 25, nameIndex := 354, descriptorIndex := 339, attributes := #[] }, { accessFlags := 25, nameIndex := 358, descriptorIndex := 339, attributes := #[] }, { accessFlags := 25, nameIndex := 361, descriptorIndex := 339, attributes := #[] }, { accessFlags := 26, nameIndex := 364, descriptorIndex := 339, attributes := #[] }, { accessFlags := 26, nameIndex := 365, descriptorIndex := 339, attributes := #[] }, { accessFlags := 26, nameIndex := 172, descriptorIndex := 173, attributes := #[] }, { accessFlags := 26, nameIndex := 176, descriptorIndex := 173, attributes := #[] }, { accessFlags := 8, nameIndex := 344, descriptorIndex := 339, attributes := #[] }, { accessFlags := 8, nameIndex := 338, descriptorIndex := 339, attributes := #[] }, { accessFlags := 4120, nameIndex := 245, descriptorIndex := 246, attributes := #[] }])
  fields := #[{ name := "E", type := .double, accessFlags := 25, slot := 0, constantValue := 0 }, { name := "PI", type := .double, accessFlags := 25, slot := 1, constantValue := 0 }, { name := "TAU", type := .double, accessFlags := 25, slot := 2, constantValue := 0 }, { name := "DEGREES_TO_RADIANS", type := .double, accessFlags := 26, slot := 3, constantValue := 0 }, { name := "RADIANS_TO_DEGREES", type := .double, accessFlags := 26, slot := 4, constantValue := 0 }, { name := "negativeZeroFloatBits", type := .long, accessFlags := 26, slot := 5, constantValue := 0 }, { name := "negativeZeroDoubleBits", type := .long, accessFlags := 26, slot := 6, constantValue := 0 }, { name := "twoToTheDoubleScaleUp", type := .double, accessFlags := 8, slot := 7, constantValue := 0 }, { name := "twoToTheDoubleScaleDown", type := .double, accessFlags := 8, slot := 8, constantValue := 0 }, { name := "$assertionsDisabled", type := .boolean, accessFlags := 4120, slot := 9, constantValue := 0 }]
  methods := #[k4m0, k4m1]
  instanceTypes := #[]
  staticTypes := #[.double, .double, .double, .double, .double, .long, .long, .double, .double, .boolean]
  resolved := Array.replicate 460 none
  statics := none }

def pool5 : Array CpInfo := pool [(1, .class_ 2), (0, u "org/segmentry/files/ByteWriter"), (3, .class_ 8), (1, u "java/lang/Object"), (0, u "<init>"), (0, u "()V"), (2, u "m_sink"), (0, u "Lorg/segmentry/files/ByteWriter$Sink;"), (2, u "m_bytes"), (0, u "[B"), (4, u "(J)V"), (0, .methodref 1 25), (0, .nameAndType 26 23), (0, u "checkNotNegative"), (8, .methodref 1 36), (0, .nameAndType 37 38), (0, u "checkGapPair"), (0, u "(II)V"), (0, .methodref 1 40), (0, .nameAndType 41 42), (0, u "foldGap"), (0, u "(II)J"), (3, .methodref 1 47), (0, .nameAndType 48 49), (0, u "vLongLength"), (0, u "(J)I"), (0, .long 2), (10, .class_ 62), (0, u "java/lang/Long"), (0, .methodref 61 64), (0, .nameAndType 65 49), (0, u "numberOfLeadingZeros"), (36, u "(II)I"), (5, u "m_length"), (0, u "I"), (41, u "m_sent"), (7, .class_ 161), (1, u "org/segmentry/files/ByteWriter$Sink"), (25, u "sf_restBits"), (2, u "sf_shortRest"), (1, u "sf_maxLength"), (0, u "sf_tooLarge"), (0, u "Ljava/lang/String;"), (0, u "sf_streamBufferLength"), (0, u "sf_compressionLevel"), (9, u "gapPairLength")] 36

def k5m0 : Method := { name := "<init>", desc := "()V", sig := { parameters := [], returnType := none }, accessFlags := 1, code := none }
def k5c1 : Code := { maxStack := 3, maxLocals := 2, code := prog_41_method_6_code, exceptionTable := #[], attributes := #[] }
def k5m1 : Method := { name := "gapPairLength", desc := "(II)I", sig := { parameters := [.int, .int], returnType := some .int }, accessFlags := 9, code := some k5c1 }
def k5c2 : Code := { maxStack := 4, maxLocals := 2, code := prog_41_method_7_code, exceptionTable := #[], attributes := #[] }
def k5m2 : Method := { name := "foldGap", desc := "(II)J", sig := { parameters := [.int, .int], returnType := some .long }, accessFlags := 10, code := some k5c2 }
def k5c3 : Code := { maxStack := 3, maxLocals := 2, code := prog_41_method_8_code, exceptionTable := #[], attributes := #[] }
def k5m3 : Method := { name := "checkGapPair", desc := "(II)V", sig := { parameters := [.int, .int], returnType := none }, accessFlags := 10, code := some k5c3 }
def k5c4 : Code := { maxStack := 5, maxLocals := 2, code := prog_41_method_10_code, exceptionTable := #[], attributes := #[] }
def k5m4 : Method := { name := "vLongLength", desc := "(J)I", sig := { parameters := [.long], returnType := some .int }, accessFlags := 10, code := some k5c4 }
def k5c5 : Code := { maxStack := 4, maxLocals := 2, code := prog_41_method_25_code, exceptionTable := #[], attributes := #[] }
def k5m5 : Method := { name := "checkNotNegative", desc := "(J)V", sig := { parameters := [.long], returnType := none }, accessFlags := 10, code := some k5c5 }
/-- org/segmentry/files/ByteWriter -/
def k5 : Class := { plain "org/segmentry/files/ByteWriter" (some 0) with
  accessFlags := 49
  interfaces := #[]
  cf := some (fileOf pool5 1 #[.nestMembers #[159]] #[{ accessFlags := 1, nameIndex := 9, descriptorIndex := 10, attributes := #[] }, { accessFlags := 9, nameIndex := 206, descriptorIndex := 102, attributes := #[] }, { accessFlags := 10, nameIndex := 41, descriptorIndex := 42, attributes := #[] }, { accessFlags := 10, nameIndex := 37, descriptorIndex := 38, attributes := #[] }, { accessFlags := 10, nameIndex := 48, descriptorIndex := 49, attributes := #[] }, { accessFlags := 10, nameIndex := 26, descriptorIndex := 23, attributes := #[] }] 49 6 #[] #[{ accessFlags := 24, nameIndex := 187, descriptorIndex := 109, attributes := #[] }, { accessFlags := 24, nameIndex := 190, descriptorIndex := 109, attributes := #[] }, { accessFlags := 24, nameIndex := 192, descriptorIndex := 109, attributes := #[] }, { accessFlags := 26, nameIndex := 193, descriptorIndex := 194, attributes := #[] }, { accessFlags := 26, nameIndex := 195, descriptorIndex := 109, attributes := #[] }, { accessFlags := 26, nameIndex := 196, descriptorIndex := 109, attributes := #[] }, { accessFlags := 18, nameIndex := 13, descriptorIndex := 14, attributes := #[] }, { accessFlags := 2, nameIndex := 17, descriptorIndex := 18, attributes := #[] }, { accessFlags := 2, nameIndex := 108, descriptorIndex := 109, attributes := #[] }, { accessFlags := 2, nameIndex := 151, descriptorIndex := 109, attributes := #[] }])
  fields := #[{ name := "sf_restBits", type := .int, accessFlags := 24, slot := 0, constantValue := 0 }, { name := "sf_shortRest", type := .int, accessFlags := 24, slot := 1, constantValue := 0 }, { name := "sf_maxLength", type := .int, accessFlags := 24, slot := 2, constantValue := 0 }, { name := "sf_tooLarge", type := (.object "java/lang/String"), accessFlags := 26, slot := 3, constantValue := 0 }, { name := "sf_streamBufferLength", type := .int, accessFlags := 26, slot := 4, constantValue := 0 }, { name := "sf_compressionLevel", type := .int, accessFlags := 26, slot := 5, constantValue := 0 }, { name := "m_sink", type := (.object "org/segmentry/files/ByteWriter$Sink"), accessFlags := 18, slot := 0, constantValue := 0 }, { name := "m_bytes", type := (.array .byte), accessFlags := 2, slot := 1, constantValue := 0 }, { name := "m_length", type := .int, accessFlags := 2, slot := 2, constantValue := 0 }, { name := "m_sent", type := .int, accessFlags := 2, slot := 3, constantValue := 0 }]
  methods := #[k5m0, k5m1, k5m2, k5m3, k5m4, k5m5]
  instanceTypes := #[(.object "org/segmentry/files/ByteWriter$Sink"), (.array .byte), .int, .int]
  staticTypes := #[.int, .int, .int, (.object "java/lang/String"), .int, .int]
  resolved := Array.replicate 243 none
  statics := none }

def pool6 : Array CpInfo := pool [(1, .class_ 2), (0, u "java/io/Serializable"), (0, .class_ 4), (0, u "java/lang/Object")] 2

/-- java/io/Serializable -/
def k6 : Class := { plain "java/io/Serializable" (some 0) with
  accessFlags := 1537
  interfaces := #[]
  cf := some (fileOf pool6 1 #[] #[] 1537 3 #[] #[])
  fields := #[]
  methods := #[]
  instanceTypes := #[]
  staticTypes := #[]
  resolved := Array.replicate 7 none
  statics := none }

def pool7 : Array CpInfo := pool [(2, .class_ 4), (1, u "java/lang/Object"), (0, u "<init>"), (0, u "()V"), (1, .class_ 10), (1, u "java/lang/Number"), (2, .class_ 14), (0, u "java/io/Serializable"), (0, u "serialVersionUID"), (0, u "J")] 20

def k7m0 : Method := { name := "<init>", desc := "()V", sig := { parameters := [], returnType := none }, accessFlags := 1, code := none }
/-- java/lang/Number -/
def k7 : Class := { plain "java/lang/Number" (some 0) with
  accessFlags := 1057
  interfaces := #[6]
  cf := some (fileOf pool7 8 #[] #[{ accessFlags := 1, nameIndex := 5, descriptorIndex := 6, attributes := #[] }] 1057 2 #[13] #[{ accessFlags := 26, nameIndex := 15, descriptorIndex := 16, attributes := #[] }])
  fields := #[{ name := "serialVersionUID", type := .long, accessFlags := 26, slot := 0, constantValue := 0 }]
  methods := #[k7m0]
  instanceTypes := #[]
  staticTypes := #[.long]
  resolved := Array.replicate 37 none
  statics := none }

def pool8 : Array CpInfo := pool [(1, .class_ 2), (0, u "java/lang/Comparable"), (0, .class_ 4), (0, u "java/lang/Object")] 7

/-- java/lang/Comparable -/
def k8 : Class := { plain "java/lang/Comparable" (some 0) with
  accessFlags := 1537
  interfaces := #[]
  cf := some (fileOf pool8 1 #[] #[] 1537 3 #[] #[])
  fields := #[]
  methods := #[]
  instanceTypes := #[]
  staticTypes := #[]
  resolved := Array.replicate 12 none
  statics := none }

def pool9 : Array CpInfo := pool [(1, .class_ 2), (0, u "java/lang/constant/Constable"), (0, .class_ 4), (0, u "java/lang/Object")] 6

/-- java/lang/constant/Constable -/
def k9 : Class := { plain "java/lang/constant/Constable" (some 0) with
  accessFlags := 1537
  interfaces := #[]
  cf := some (fileOf pool9 1 #[] #[] 1537 3 #[] #[])
  fields := #[]
  methods := #[]
  instanceTypes := #[]
  staticTypes := #[]
  resolved := Array.replicate 11 none
  statics := none }

def pool10 : Array CpInfo := pool [(1, .class_ 2), (0, u "java/lang/constant/ConstantDesc"), (0, .class_ 4), (0, u "java/lang/Object")] 32

/-- java/lang/constant/ConstantDesc -/
def k10 : Class := { plain "java/lang/constant/ConstantDesc" (some 0) with
  accessFlags := 1537
  interfaces := #[]
  cf := some (fileOf pool10 1 #[] #[] 1537 3 #[] #[])
  fields := #[]
  methods := #[]
  instanceTypes := #[]
  staticTypes := #[]
  resolved := Array.replicate 37 none
  statics := none }

def pool11 : Array CpInfo := pool [(1, .class_ 2), (0, u "java/lang/Long"), (15, .class_ 20), (1, u "java/lang/Integer"), (79, u "numberOfLeadingZeros"), (0, u "(J)I"), (133, .class_ 237), (1, u "java/lang/Long$LongCache"), (33, .class_ 272), (0, u "java/lang/Number"), (2, u "value"), (0, u "J"), (31, .methodref 18 309), (0, .nameAndType 100 310), (0, u "(I)I"), (50, u "TYPE"), (0, u "Ljava/lang/Class;"), (0, .class_ 364), (0, u "java/lang/Comparable"), (0, .class_ 366), (0, u "java/lang/constant/Constable"), (0, .class_ 368), (0, u "java/lang/constant/ConstantDesc"), (0, u "MIN_VALUE"), (1, u "MAX_VALUE"), (4, u "SIZE"), (0, u "I"), (1, u "BYTES"), (1, u "serialVersionUID")] 142

def k11c0 : Code := { maxStack := 3, maxLocals := 3, code := jdk_35_method_48_code, exceptionTable := #[], attributes := #[] }
def k11m0 : Method := { name := "numberOfLeadingZeros", desc := "(J)I", sig := { parameters := [.long], returnType := some .int }, accessFlags := 9, code := some k11c0 }
/-- java/lang/Long -/
def k11 : Class := { plain "java/lang/Long" (some 7) with
  accessFlags := 49
  interfaces := #[8, 9, 10]
  cf := some (fileOf pool11 1 #[.nestMembers #[235]] #[{ accessFlags := 9, nameIndex := 100, descriptorIndex := 101, attributes := #[] }] 49 271 #[363, 365, 367] #[{ accessFlags := 25, nameIndex := 369, descriptorIndex := 276, attributes := #[] }, { accessFlags := 25, nameIndex := 371, descriptorIndex := 276, attributes := #[] }, { accessFlags := 25, nameIndex := 361, descriptorIndex := 362, attributes := #[] }, { accessFlags := 18, nameIndex := 275, descriptorIndex := 276, attributes := #[] }, { accessFlags := 25, nameIndex := 376, descriptorIndex := 377, attributes := #[] }, { accessFlags := 25, nameIndex := 379, descriptorIndex := 377, attributes := #[] }, { accessFlags := 26, nameIndex := 381, descriptorIndex := 276, attributes := #[] }])
  fields := #[{ name := "MIN_VALUE", type := .long, accessFlags := 25, slot := 0, constantValue := 0 }, { name := "MAX_VALUE", type := .long, accessFlags := 25, slot := 1, constantValue := 0 }, { name := "TYPE", type := (.object "java/lang/Class"), accessFlags := 25, slot := 2, constantValue := 0 }, { name := "value", type := .long, accessFlags := 18, slot := 0, constantValue := 0 }, { name := "SIZE", type := .int, accessFlags := 25, slot := 3, constantValue := 0 }, { name := "BYTES", type := .int, accessFlags := 25, slot := 4, constantValue := 0 }, { name := "serialVersionUID", type := .long, accessFlags := 26, slot := 5, constantValue := 0 }]
  methods := #[k11m0]
  instanceTypes := #[.long]
  staticTypes := #[.long, .long, (.object "java/lang/Class"), .int, .int, .long]
  resolved := Array.replicate 524 none
  statics := none }

def pool12 : Array CpInfo := pool [(1, .class_ 2), (0, u "java/lang/Integer"), (16, u "digits"), (0, u "[C"), (32, u "numberOfLeadingZeros"), (0, u "(I)I"), (30, u "DigitOnes"), (0, u "[B"), (2, u "DigitTens"), (99, .class_ 190), (0, u "java/lang/Integer$IntegerCache"), (3, u "I"), (8, .class_ 204), (0, u "java/lang/Number"), (2, u "value"), (56, .integer 65536), (37, u "TYPE"), (0, u "Ljava/lang/Class;"), (0, .class_ 305), (0, u "java/lang/Comparable"), (0, .class_ 307), (0, u "java/lang/constant/Constable"), (0, .class_ 309), (0, u "java/lang/constant/ConstantDesc"), (0, u "MIN_VALUE"), (1, u "MAX_VALUE"), (3, u "SIZE"), (1, u "BYTES"), (1, u "serialVersionUID"), (0, u "J")] 131

def k12c0 : Code := { maxStack := 3, maxLocals := 2, code := jdk_33_method_47_code, exceptionTable := #[], attributes := #[] }
def k12m0 : Method := { name := "numberOfLeadingZeros", desc := "(I)I", sig := { parameters := [.int], returnType := some .int }, accessFlags := 9, code := some k12c0 }
/-- java/lang/Integer -/
def k12 : Class := { plain "java/lang/Integer" (some 7) with
  accessFlags := 49
  interfaces := #[8, 9, 10]
  cf := some (fileOf pool12 1 #[.nestMembers #[189]] #[{ accessFlags := 9, nameIndex := 53, descriptorIndex := 54, attributes := #[] }] 49 203 #[304, 306, 308] #[{ accessFlags := 25, nameIndex := 310, descriptorIndex := 194, attributes := #[] }, { accessFlags := 25, nameIndex := 312, descriptorIndex := 194, attributes := #[] }, { accessFlags := 25, nameIndex := 302, descriptorIndex := 303, attributes := #[] }, { accessFlags := 24, nameIndex := 19, descriptorIndex := 20, attributes := #[] }, { accessFlags := 24, nameIndex := 89, descriptorIndex := 86, attributes := #[] }, { accessFlags := 24, nameIndex := 85, descriptorIndex := 86, attributes := #[] }, { accessFlags := 18, nameIndex := 207, descriptorIndex := 194, attributes := #[] }, { accessFlags := 25, nameIndex := 316, descriptorIndex := 194, attributes := #[] }, { accessFlags := 25, nameIndex := 318, descriptorIndex := 194, attributes := #[] }, { accessFlags := 26, nameIndex := 320, descriptorIndex := 321, attributes := #[] }])
  fields := #[{ name := "MIN_VALUE", type := .int, accessFlags := 25, slot := 0, constantValue := 0 }, { name := "MAX_VALUE", type := .int, accessFlags := 25, slot := 1, constantValue := 0 }, { name := "TYPE", type := (.object "java/lang/Class"), accessFlags := 25, slot := 2, constantValue := 0 }, { name := "digits", type := (.array .char), accessFlags := 24, slot := 3, constantValue := 0 }, { name := "DigitTens", type := (.array .byte), accessFlags := 24, slot := 4, constantValue := 0 }, { name := "DigitOnes", type := (.array .byte), accessFlags := 24, slot := 5, constantValue := 0 }, { name := "value", type := .int, accessFlags := 18, slot := 0, constantValue := 0 }, { name := "SIZE", type := .int, accessFlags := 25, slot := 6, constantValue := 0 }, { name := "BYTES", type := .int, accessFlags := 25, slot := 7, constantValue := 0 }, { name := "serialVersionUID", type := .long, accessFlags := 26, slot := 8, constantValue := 0 }]
  methods := #[k12m0]
  instanceTypes := #[.int]
  staticTypes := #[.int, .int, (.object "java/lang/Class"), (.array .char), (.array .byte), (.array .byte), .int, .int, .long]
  resolved := Array.replicate 453 none
  statics := none }

def pool13 : Array CpInfo := pool [(1, u "java/lang/Cloneable"), (0, .class_ 1), (0, u "java/lang/Object"), (0, .class_ 3)] 3

/-- java/lang/Cloneable -/
def k13 : Class := { plain "java/lang/Cloneable" (some 0) with
  accessFlags := 1537
  interfaces := #[]
  cf := some (fileOf pool13 2 #[] #[] 1537 4 #[] #[])
  fields := #[]
  methods := #[]
  instanceTypes := #[]
  staticTypes := #[]
  resolved := Array.replicate 8 none
  statics := none }

/-- the primitive byte -/
def k14 : Class := { plain "byte" none with kind := .primitive 'B', accessFlags := 0x411 }
/-- [B -/
def k15 : Class := { plain "[B" (some 0) with kind := .array 14 .byte, interfaces := #[13, 6], accessFlags := 1041 }

/-- the primitive int -/
def k16 : Class := { plain "int" none with kind := .primitive 'I', accessFlags := 0x411 }
/-- [I -/
def k17 : Class := { plain "[I" (some 0) with kind := .array 16 .int, interfaces := #[13, 6], accessFlags := 1041 }

/-- the primitive long -/
def k18 : Class := { plain "long" none with kind := .primitive 'J', accessFlags := 0x411 }
/-- [J -/
def k19 : Class := { plain "[J" (some 0) with kind := .array 18 .long, interfaces := #[13, 6], accessFlags := 1041 }

def heap : Heap := #[]
def classes : Array Class := #[k0, k1, k2, k3, k4, k5, k6, k7, k8, k9, k10, k11, k12, k13, k14, k15, k16, k17, k18, k19]
def interned : List (Array UInt16 × Addr) := []
def slotsUsed : Nat := 0
def theMethod : MethodId := ⟨1, 2⟩
def args0 : Array Value := #[.int 5, .int 6, .int 7, .int 8, .int 9, .int 43]
def aboutOver (below : List Frame) : State where
  vm := { classes := classes, interned := interned.toArray }
  heap := heap
  slotsUsed := slotsUsed
  threads := #[{ frames := .invoking theMethod args0 :: below }]
def below0 : List Frame := [.native { method := ⟨0, 0⟩, args := #[] }]
def about1 : State := aboutOver below0
def p0 : Program := .bare "" "" ""
def e0 : Env := launch0.env 0 0 0
theorem w_frames : about1.frames = Frame.invoking theMethod args0 :: below0 := rfl
set_option maxRecDepth 65536 in
theorem w_args : argsFit about1.vm theMethod args0 = true := by decide +kernel
set_option maxRecDepth 65536 in
theorem w_heap : heapFits about1 = true := by decide +kernel
set_option maxRecDepth 65536 in
theorem w_runnable : about1.curStatus? = some .runnable := by decide +kernel
set_option maxRecDepth 65536 in
theorem w_alone : about1.alone = true := by decide +kernel
set_option maxRecDepth 65536 in
theorem w_named : about1.methodNamed? x = some theMethod := by decide +kernel
set_option maxRecDepth 65536 in
theorem w_hears : about1.hears theMethod below0 = true := by decide +kernel
set_option maxRecDepth 65536 in
theorem w_ripe : about1.ripe theMethod args0 below0 = true := by decide +kernel
theorem w_running : about1.status = .running := rfl
set_option maxRecDepth 65536 in
theorem w_room : about1.hasRoom e0.platform room_1 = true :=
  launch0.hasRoom_least _ room_1 (by decide +kernel) (by decide +kernel) (by decide +kernel) (by decide +kernel) (by decide +kernel) (by decide +kernel)
theorem allAtoms_all (ts : List Jvm.Cond) (a : Array Jvm.Value) (st : Jvm.State) : (allAtoms ts).before a st = ts.all (fun c => c.before a st) := by
  induction ts with
  | nil => rfl
  | cons c t ih =>
    show (Jvm.Cond.and c (allAtoms t)).before a st = _
    rw [Jvm.Cond.before_and, ih, List.all_cons]
def words1 : List Jvm.Cond := Jvm.Cond.code x code maxLocals ret :: tables_1
/-- a 'code' word, met by the world's own term for the bytes: nothing is compared byte by byte -/
theorem code_word {y : MethodName} {bytes : ByteArray} {mx : Nat} {rt : Option FieldType} {a : Array Value} {s : State} {m : MethodId} {meth : Method} {c : Code} (h1 : s.methodNamed? y = some m) (h2 : s.vm.method? m = some meth) (h3 : meth.code = some c) (h4 : c.code = bytes)
    (h5 : (c.maxLocals == mx && c.exceptionTable.isEmpty && decide (c.maxStack ≤ mostOperands) && decide (meth.sig.returnType = rt) && !meth.locks && decide (parseMethodDescriptor y.desc = some meth.sig)) = true) : (Jvm.Cond.code y bytes mx rt).before a s = true := by
  simp only [Bool.and_eq_true, beq_iff_eq, Bool.not_eq_true', decide_eq_true_eq] at h5
  obtain ⟨⟨⟨⟨⟨g1, g2⟩, g3⟩, g4⟩, g5⟩, g6⟩ := h5
  simp [Cond.before, Cond.holds, Cond.value, h1, h2, h3, h4, g1, g2, g3, g4, g5, g6]
def isCode : Jvm.Cond → Bool
  | .code _ _ _ _ => true
  | _ => false
theorem all_split {L : List Jvm.Cond} {P : Jvm.Cond → Bool} (h1 : L.all (fun c => isCode c || P c) = true) (h2 : ∀ c ∈ L.filter isCode, P c = true) : L.all P = true := by
  refine List.all_eq_true.mpr fun c hc => ?_
  have h := List.all_eq_true.mp h1 c hc
  rcases Bool.eq_false_or_eq_true (isCode c) with hi | hi
  · exact h2 c (List.mem_filter.mpr ⟨hc, hi⟩)
  · simpa [hi] using h
set_option maxRecDepth 65536 in
theorem w_c0 : (Jvm.Cond.code x code maxLocals ret).before args0 about1 = true := code_word (m := ⟨1, 2⟩) (meth := k1m2) (c := k1c2) (by decide +kernel) rfl rfl rfl (by decide +kernel)
set_option maxRecDepth 65536 in
theorem w_c1 : (Jvm.Cond.code ({ cls := "org/segmentry/segment/TermBlocks", name := "<init>", desc := "()V" } : Jvm.MethodName) prog_162_method_1_code (1 : Nat) (Option.none : Option Jvm.ClassFile.FieldType)).before args0 about1 = true := code_word (m := ⟨2, 0⟩) (meth := k2m0) (c := k2c0) (by decide +kernel) rfl rfl rfl (by decide +kernel)
set_option maxRecDepth 65536 in
theorem w_c2 : (Jvm.Cond.code ({ cls := "java/lang/Object", name := "<init>", desc := "()V" } : Jvm.MethodName) object_method_1_code (1 : Nat) (Option.none : Option Jvm.ClassFile.FieldType)).before args0 about1 = true := code_word (m := ⟨0, 0⟩) (meth := k0m0) (c := k0c0) (by decide +kernel) rfl rfl rfl (by decide +kernel)
set_option maxRecDepth 65536 in
theorem w_c3 : (Jvm.Cond.code ({ cls := "org/segmentry/segment/BlockBounds", name := "<init>", desc := "()V" } : Jvm.MethodName) prog_99_method_1_code (1 : Nat) (Option.none : Option Jvm.ClassFile.FieldType)).before args0 about1 = true := code_word (m := ⟨3, 0⟩) (meth := k3m0) (c := k3c0) (by decide +kernel) rfl rfl rfl (by decide +kernel)
set_option maxRecDepth 65536 in
theorem w_c4 : (Jvm.Cond.code ({ cls := "org/segmentry/segment/TermBlocks", name := "start", desc := "(Z)V" } : Jvm.MethodName) prog_162_method_2_code (2 : Nat) (Option.none : Option Jvm.ClassFile.FieldType)).before args0 about1 = true := code_word (m := ⟨2, 1⟩) (meth := k2m1) (c := k2c1) (by decide +kernel) rfl rfl rfl (by decide +kernel)
set_option maxRecDepth 65536 in
theorem w_c5 : (Jvm.Cond.code ({ cls := "org/segmentry/segment/TermBlocks", name := "add", desc := "(III)V" } : Jvm.MethodName) prog_162_method_3_code (4 : Nat) (Option.none : Option Jvm.ClassFile.FieldType)).before args0 about1 = true := code_word (m := ⟨2, 2⟩) (meth := k2m2) (c := k2c2) (by decide +kernel) rfl rfl rfl (by decide +kernel)
set_option maxRecDepth 65536 in
theorem w_c6 : (Jvm.Cond.code ({ cls := "org/segmentry/segment/TermBlocks", name := "isFull", desc := "()Z" } : Jvm.MethodName) prog_162_method_5_code (1 : Nat) (Option.some Jvm.ClassFile.FieldType.boolean)).before args0 about1 = true := code_word (m := ⟨2, 4⟩) (meth := k2m4) (c := k2c4) (by decide +kernel) rfl rfl rfl (by decide +kernel)
set_option maxRecDepth 65536 in
theorem w_c7 : (Jvm.Cond.code ({ cls := "org/segmentry/segment/TermBlocks", name := "holdsPostings", desc := "()Z" } : Jvm.MethodName) prog_162_method_6_code (1 : Nat) (Option.some Jvm.ClassFile.FieldType.boolean)).before args0 about1 = true := code_word (m := ⟨2, 5⟩) (meth := k2m5) (c := k2c5) (by decide +kernel) rfl rfl rfl (by decide +kernel)
set_option maxRecDepth 65536 in
theorem w_c8 : (Jvm.Cond.code ({ cls := "java/lang/Math", name := "max", desc := "(II)I" } : Jvm.MethodName) jdk_29_method_65_code (2 : Nat) (Option.some Jvm.ClassFile.FieldType.int)).before args0 about1 = true := code_word (m := ⟨4, 1⟩) (meth := k4m1) (c := k4c1) (by decide +kernel) rfl rfl rfl (by decide +kernel)
set_option maxRecDepth 65536 in
theorem w_c9 : (Jvm.Cond.code ({ cls := "org/segmentry/segment/TermBlocksStartPinLaw", name := "vlen", desc := "(J)I" } : Jvm.MethodName) method_2_code (2 : Nat) (Option.some Jvm.ClassFile.FieldType.int)).before args0 about1 = true := code_word (m := ⟨1, 1⟩) (meth := k1m1) (c := k1c1) (by decide +kernel) rfl rfl rfl (by decide +kernel)
set_option maxRecDepth 65536 in
theorem w_c10 : (Jvm.Cond.code ({ cls := "org/segmentry/segment/TermBlocks", name := "length", desc := "()J" } : Jvm.MethodName) prog_162_method_7_code (5 : Nat) (Option.some Jvm.ClassFile.FieldType.long)).before args0 about1 = true := code_word (m := ⟨2, 6⟩) (meth := k2m6) (c := k2c6) (by decide +kernel) rfl rfl rfl (by decide +kernel)
set_option maxRecDepth 65536 in
theorem w_c11 : (Jvm.Cond.code ({ cls := "org/segmentry/files/ByteWriter", name := "gapPairLength", desc := "(II)I" } : Jvm.MethodName) prog_41_method_6_code (2 : Nat) (Option.some Jvm.ClassFile.FieldType.int)).before args0 about1 = true := code_word (m := ⟨5, 1⟩) (meth := k5m1) (c := k5c1) (by decide +kernel) rfl rfl rfl (by decide +kernel)
set_option maxRecDepth 65536 in
theorem w_c12 : (Jvm.Cond.code ({ cls := "org/segmentry/files/ByteWriter", name := "checkGapPair", desc := "(II)V" } : Jvm.MethodName) prog_41_method_8_code (2 : Nat) (Option.none : Option Jvm.ClassFile.FieldType)).before args0 about1 = true := code_word (m := ⟨5, 3⟩) (meth := k5m3) (c := k5c3) (by decide +kernel) rfl rfl rfl (by decide +kernel)
set_option maxRecDepth 65536 in
theorem w_c13 : (Jvm.Cond.code ({ cls := "org/segmentry/files/ByteWriter", name := "checkNotNegative", desc := "(J)V" } : Jvm.MethodName) prog_41_method_25_code (2 : Nat) (Option.none : Option Jvm.ClassFile.FieldType)).before args0 about1 = true := code_word (m := ⟨5, 5⟩) (meth := k5m5) (c := k5c5) (by decide +kernel) rfl rfl rfl (by decide +kernel)
set_option maxRecDepth 65536 in
theorem w_c14 : (Jvm.Cond.code ({ cls := "org/segmentry/files/ByteWriter", name := "foldGap", desc := "(II)J" } : Jvm.MethodName) prog_41_method_7_code (2 : Nat) (Option.some Jvm.ClassFile.FieldType.long)).before args0 about1 = true := code_word (m := ⟨5, 2⟩) (meth := k5m2) (c := k5c2) (by decide +kernel) rfl rfl rfl (by decide +kernel)
set_option maxRecDepth 65536 in
theorem w_c15 : (Jvm.Cond.code ({ cls := "org/segmentry/files/ByteWriter", name := "vLongLength", desc := "(J)I" } : Jvm.MethodName) prog_41_method_10_code (2 : Nat) (Option.some Jvm.ClassFile.FieldType.int)).before args0 about1 = true := code_word (m := ⟨5, 4⟩) (meth := k5m4) (c := k5c4) (by decide +kernel) rfl rfl rfl (by decide +kernel)
set_option maxRecDepth 65536 in
theorem w_c16 : (Jvm.Cond.code ({ cls := "java/lang/Long", name := "numberOfLeadingZeros", desc := "(J)I" } : Jvm.MethodName) jdk_35_method_48_code (3 : Nat) (Option.some Jvm.ClassFile.FieldType.int)).before args0 about1 = true := code_word (m := ⟨11, 0⟩) (meth := k11m0) (c := k11c0) (by decide +kernel) rfl rfl rfl (by decide +kernel)
set_option maxRecDepth 65536 in
theorem w_c17 : (Jvm.Cond.code ({ cls := "java/lang/Integer", name := "numberOfLeadingZeros", desc := "(I)I" } : Jvm.MethodName) jdk_33_method_47_code (2 : Nat) (Option.some Jvm.ClassFile.FieldType.int)).before args0 about1 = true := code_word (m := ⟨12, 0⟩) (meth := k12m0) (c := k12c0) (by decide +kernel) rfl rfl rfl (by decide +kernel)
set_option maxRecDepth 65536 in
theorem w_c18 : (Jvm.Cond.code ({ cls := "org/segmentry/segment/TermBlocks", name := "runStarts", desc := "(J)V" } : Jvm.MethodName) prog_162_method_4_code (3 : Nat) (Option.none : Option Jvm.ClassFile.FieldType)).before args0 about1 = true := code_word (m := ⟨2, 3⟩) (meth := k2m3) (c := k2c3) (by decide +kernel) rfl rfl rfl (by decide +kernel)
def codes1 : List Jvm.Cond := [Jvm.Cond.code x code maxLocals ret, Jvm.Cond.code ({ cls := "org/segmentry/segment/TermBlocks", name := "<init>", desc := "()V" } : Jvm.MethodName) prog_162_method_1_code (1 : Nat) (Option.none : Option Jvm.ClassFile.FieldType), Jvm.Cond.code ({ cls := "java/lang/Object", name := "<init>", desc := "()V" } : Jvm.MethodName) object_method_1_code (1 : Nat) (Option.none : Option Jvm.ClassFile.FieldType), Jvm.Cond.code ({ cls := "org/segmentry/segment/BlockBounds", name := "<init>", desc := "()V" } : Jvm.MethodName) prog_99_method_1_code (1 : Nat) (Option.none : Option Jvm.ClassFile.FieldType), Jvm.Cond.code ({ cls := "org/segmentry/segment/TermBlocks", name := "start", desc := "(Z)V" } : Jvm.MethodName) prog_162_method_2_code (2 : Nat) (Option.none : Option Jvm.ClassFile.FieldType), Jvm.Cond.code ({ cls := "org/segmentry/segment/TermBlocks", name := "add", desc := "(III)V" } : Jvm.MethodName) prog_162_method_3_code (4 : Nat) (Option.none : Option Jvm.ClassFile.FieldType), Jvm.Cond.code ({ cls := "org/segmentry/segment/TermBlocks", name := "isFull", desc := "()Z" } : Jvm.MethodName) prog_162_method_5_code (1 : Nat) (Option.some Jvm.ClassFile.FieldType.boolean), Jvm.Cond.code ({ cls := "org/segmentry/segment/TermBlocks", name := "holdsPostings", desc := "()Z" } : Jvm.MethodName) prog_162_method_6_code (1 : Nat) (Option.some Jvm.ClassFile.FieldType.boolean), Jvm.Cond.code ({ cls := "java/lang/Math", name := "max", desc := "(II)I" } : Jvm.MethodName) jdk_29_method_65_code (2 : Nat) (Option.some Jvm.ClassFile.FieldType.int), Jvm.Cond.code ({ cls := "org/segmentry/segment/TermBlocksStartPinLaw", name := "vlen", desc := "(J)I" } : Jvm.MethodName) method_2_code (2 : Nat) (Option.some Jvm.ClassFile.FieldType.int), Jvm.Cond.code ({ cls := "org/segmentry/segment/TermBlocks", name := "length", desc := "()J" } : Jvm.MethodName) prog_162_method_7_code (5 : Nat) (Option.some Jvm.ClassFile.FieldType.long), Jvm.Cond.code ({ cls := "org/segmentry/files/ByteWriter", name := "gapPairLength", desc := "(II)I" } : Jvm.MethodName) prog_41_method_6_code (2 : Nat) (Option.some Jvm.ClassFile.FieldType.int), Jvm.Cond.code ({ cls := "org/segmentry/files/ByteWriter", name := "checkGapPair", desc := "(II)V" } : Jvm.MethodName) prog_41_method_8_code (2 : Nat) (Option.none : Option Jvm.ClassFile.FieldType), Jvm.Cond.code ({ cls := "org/segmentry/files/ByteWriter", name := "checkNotNegative", desc := "(J)V" } : Jvm.MethodName) prog_41_method_25_code (2 : Nat) (Option.none : Option Jvm.ClassFile.FieldType), Jvm.Cond.code ({ cls := "org/segmentry/files/ByteWriter", name := "foldGap", desc := "(II)J" } : Jvm.MethodName) prog_41_method_7_code (2 : Nat) (Option.some Jvm.ClassFile.FieldType.long), Jvm.Cond.code ({ cls := "org/segmentry/files/ByteWriter", name := "vLongLength", desc := "(J)I" } : Jvm.MethodName) prog_41_method_10_code (2 : Nat) (Option.some Jvm.ClassFile.FieldType.int), Jvm.Cond.code ({ cls := "java/lang/Long", name := "numberOfLeadingZeros", desc := "(J)I" } : Jvm.MethodName) jdk_35_method_48_code (3 : Nat) (Option.some Jvm.ClassFile.FieldType.int), Jvm.Cond.code ({ cls := "java/lang/Integer", name := "numberOfLeadingZeros", desc := "(I)I" } : Jvm.MethodName) jdk_33_method_47_code (2 : Nat) (Option.some Jvm.ClassFile.FieldType.int), Jvm.Cond.code ({ cls := "org/segmentry/segment/TermBlocks", name := "runStarts", desc := "(J)V" } : Jvm.MethodName) prog_162_method_4_code (3 : Nat) (Option.none : Option Jvm.ClassFile.FieldType)]
set_option maxRecDepth 65536 in
theorem codes_eq : words1.filter isCode = codes1 := rfl
theorem w_codes : ∀ c ∈ words1.filter isCode, c.before args0 about1 = true := by
  rw [codes_eq]
  intro c hc
  simp only [codes1, List.mem_cons, List.not_mem_nil, or_false] at hc
  rcases hc with rfl | rfl | rfl | rfl | rfl | rfl | rfl | rfl | rfl | rfl | rfl | rfl | rfl | rfl | rfl | rfl | rfl | rfl | rfl
  · exact w_c0
  · exact w_c1
  · exact w_c2
  · exact w_c3
  · exact w_c4
  · exact w_c5
  · exact w_c6
  · exact w_c7
  · exact w_c8
  · exact w_c9
  · exact w_c10
  · exact w_c11
  · exact w_c12
  · exact w_c13
  · exact w_c14
  · exact w_c15
  · exact w_c16
  · exact w_c17
  · exact w_c18
set_option maxRecDepth 65536 in
theorem w_t1 : (words1.take 24).all (fun c => isCode c || c.before args0 about1) = true := by decide +kernel
set_option maxRecDepth 65536 in
theorem w_t2 : ((words1.drop 24).take 24).all (fun c => isCode c || c.before args0 about1) = true := by decide +kernel
set_option maxRecDepth 65536 in
theorem w_t3 : (((words1.drop 24).drop 24).take 24).all (fun c => isCode c || c.before args0 about1) = true := by decide +kernel
set_option maxRecDepth 65536 in
theorem w_t4 : ((((words1.drop 24).drop 24).drop 24).take 24).all (fun c => isCode c || c.before args0 about1) = true := by decide +kernel
set_option maxRecDepth 65536 in
theorem w_t5 : (((((words1.drop 24).drop 24).drop 24).drop 24).take 24).all (fun c => isCode c || c.before args0 about1) = true := by decide +kernel
set_option maxRecDepth 65536 in
theorem w_t6 : (((((words1.drop 24).drop 24).drop 24).drop 24).drop 24).all (fun c => isCode c || c.before args0 about1) = true := by decide +kernel
theorem w_tables : (allAtoms (Jvm.Cond.code x code maxLocals ret :: tables_1)).before args0 about1 = true := by
  rw [allAtoms_all]
  show words1.all (fun c => c.before args0 about1) = true
  refine all_split ?_ w_codes
  rw [← List.take_append_drop 24 words1, List.all_append, w_t1, ← List.take_append_drop 24 (words1.drop 24), List.all_append, w_t2, ← List.take_append_drop 24 ((words1.drop 24).drop 24), List.all_append, w_t3, ← List.take_append_drop 24 (((words1.drop 24).drop 24).drop 24), List.all_append, w_t4, ← List.take_append_drop 24 ((((words1.drop 24).drop 24).drop 24).drop 24), List.all_append, w_t5, w_t6]
  rfl
set_option maxRecDepth 65536 in
theorem w_case : (Jvm.Cond.and given_1 narrow_1).before args0 about1 = true := by decide +kernel
theorem w_applies : (headSpec (Jvm.Cond.code x code maxLocals ret :: tables_1) room_1).applies x e0.platform about1 = true :=
  (Spec.applies_iff w_frames).mpr ⟨w_running, w_runnable, w_alone, w_named, w_hears, w_ripe, w_room, w_tables⟩
theorem atStart : AtStart classFile x code maxLocals ret World_1 tables_1 room_1 Calls_1 rest_1 Pre_1 launch0 p0 e0 about1 theMethod args0 below0 :=
  ⟨lists_1, trivial, launch0.admits_env _ _ _, launch0.least_env, fairChoices_fair.cas, fairChoices_fair.clock, w_frames, w_args, w_heap, w_applies, trivial, trivial, w_case⟩
end start1
theorem witness_1 : WitnessClaimed_1 := ⟨start1.p0, start1.e0, start1.about1, start1.theMethod, start1.args0, start1.below0, start1.atStart⟩
end Jvm.Pilot.@@N@@
