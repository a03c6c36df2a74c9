import JvmDerived
import JvmDerived.Pilot.@@N@@Statement
import JvmDerived.Pilot.@@N@@Code
set_option linter.unusedVariables false
set_option linter.unusedSimpArgs false
@@BLOCK:NumsL.lean.txt@@
namespace Jvm.Pilot.@@N@@
open Jvm Jvm.ClassFile Sem Op Lib Jvm.Free Jvm.Stand Jvm.LawKit Jvm.RoadKit Bundle Jvm.Pilot.@@N@@.Jvm.D

section Kit
/-- The run goes on from the state T with the frame f on top and comes back to the caller, and Q holds of what it returned, of the heap and of the places written. -/
def Go (p : Program) (e : Env) (below : List Frame) (s : State) (R : Room) (Q : Option Value → Heap → List Loc → Prop) (T : State) (f : JFrame) : Prop :=
  ∃ s₂ o, Steps p.tables e below (T.setTop f) s₂ ∧ s₂.status = .running ∧ Ended s₂ below o ∧ ∃ v L, o = .returned v ∧ Q v s₂.heap L ∧ FrameEnd s o s₂ L R.cells R.slots
/-- a body's contract -/
def Met (l : Launch) (Z : State) (y : MethodName) (bytes : ByteArray) (maxL : Nat) (ret : Option FieldType) (ws : List Jvm.Cond) (rm : Room) (as : Array Value) (h0 : Heap) (Q : Option Value → Heap → List Loc → Prop) : Prop :=
  MetFree l y (head1 (Jvm.Cond.code y bytes maxL ret :: ws) rm) (fun a U => a = as ∧ Z.Warmed39 U.vm ∧ U.heap = h0) (fun _ _ _ _ _ => True) (fun _ U o U' => ∃ v L, o = .returned v ∧ Q v U'.heap L ∧ FrameEnd U o U' L rm.cells rm.slots)
theorem Met.mk {l : Launch} {Z : State} {y : MethodName} {bytes : ByteArray} {maxL : Nat} {ret : Option FieldType} {ws : List Jvm.Cond} {rm : Room} {as : Array Value} {h0 : Heap} {Q : Option Value → Heap → List Loc → Prop} (hp : plainFor y = true)
    (body : ∀ (p : Program) (e : Env) (s : State) (m : MethodId) (below : List Frame) (meth : Method) (c : Code) (T : State), p.tables.exec = Jvm.exec → c.code = bytes → c.maxLocals = maxL → s.vm.findClass y.cls = some m.cls → meth.name = y.name → meth.sig.returnType = ret → meth.locks = false → Z.Warmed39 s.vm →
      Stand p l e rm s m as below meth c T [] 0 0 → T.heap = h0 → Go p e below s rm Q T (entryFrame m as maxL)) : Met l Z y bytes maxL ret ws rm as h0 Q := by
  refine MetFree.of_bodySF hp hisR ?_
  intro p e s m args below meth c s₁ Bd hml0 hP hK
  obtain ⟨rfl, hZ, hh⟩ := hP
  exact body p e s m below meth c s₁ Bd.exec Bd.bytes hml0 (findClass_of_methodNamed Bd.named) (name_of_methodNamed Bd.named Bd.method).1 Bd.returns (BodyLoose.notSynchronized Bd) hZ (Stand.of_body Bd) (by rw [← hh, Bd.state]; rfl)
variable {p : Program} {l : Launch} {e : Env} {R : Room} {s : State} {m : MethodId} {args : Array Value} {below : List Frame} {meth : Method} {c : Code} {T T' : State} {locs : List Loc} {cells slots : Nat} {R' : Room} {Q : Option Value → Heap → List Loc → Prop} {f f' : JFrame} {Z : State} {a0 : Array Value} {h h' : Heap} {pc : Nat} {Ls : Array Slot} {rest : List Value}
theorem Go.of (h : ∀ t, Steps p.tables e below (T'.setTop f') t → Steps p.tables e below (T.setTop f) t) (g : Go p e below s R Q T' f') : Go p e below s R Q T f := by
  obtain ⟨s₂, o, h1, h2⟩ := g
  exact ⟨s₂, o, h _ h1, h2⟩
theorem Go.cast (q : f = f') (g : Go p e below s R Q T f') : Go p e below s R Q T f := q ▸ g
theorem Go.join {α : Type} (P : α → Prop) (fr : α → JFrame) (k : ∀ x, P x → Go p e below s R Q T (fr x)) (g : (∀ x, P x → Go p e below s R Q T (fr x)) → Go p e below s R Q T f) : Go p e below s R Q T f := g k
theorem Go.joinT {α : Type} (X : Stand p l e R s m args below meth c T locs cells slots) (I : α → List Loc → Heap → Prop) (fr : α → JFrame) (k : ∀ x T' locs' h', Stand p l e R s m args below meth c T' locs' cells slots → T'.heap = h' → I x locs' h' → Go p e below s R' Q T' (fr x))
    (g : (∀ x T' locs' h', Stand p l e R s m args below meth c T' locs' cells slots → T'.heap = h' → I x locs' h' → Go p e below s R' Q T' (fr x)) → Go p e below s R' Q T f) : Go p e below s R' Q T f := g k
theorem Go.loop {α : Type} (μ : α → Nat) (I : α → List Loc → Heap → Prop) (fr : α → JFrame)
    (step : ∀ x T' locs' h', Stand p l e R s m args below meth c T' locs' cells slots → T'.heap = h' → I x locs' h' → (∀ y T'' locs'' h'', μ y < μ x → Stand p l e R s m args below meth c T'' locs'' cells slots → T''.heap = h'' → I y locs'' h'' → Go p e below s R' Q T'' (fr y)) → Go p e below s R' Q T' (fr x))
    (x : α) (X : Stand p l e R s m args below meth c T locs cells slots) (eT : T.heap = h) (hI : I x locs h) : Go p e below s R' Q T (fr x) := by
  obtain ⟨n, hn⟩ : ∃ n, μ x < n := ⟨_, Nat.lt_succ_self _⟩
  induction n generalizing x T locs h with
  | zero => exact absurd hn (Nat.not_lt_zero _)
  | succ n ih => exact step x T locs h X eT hI fun y T'' l'' h'' hy X'' e'' I'' => ih y X'' e'' I'' (by omega)
theorem Met.mono {y : MethodName} {bytes : ByteArray} {maxL : Nat} {ret : Option FieldType} {ws : List Jvm.Cond} {rm : Room} {as : Array Value} {h0 : Heap} {Q Q' : Option Value → Heap → List Loc → Prop} (M : Met l Z y bytes maxL ret ws rm as h0 Q) (q : ∀ v h L, Q v h L → Q' v h L) : Met l Z y bytes maxL ret ws rm as h0 Q' := by
  intro p e ha hc hk s m args below hf happ hP hK
  obtain ⟨n, o, h1, h2, h3, v, L, h4, h5, h6⟩ := M p e ha hc hk s m args below hf happ hP hK
  exact ⟨n, o, h1, h2, h3, v, L, h4, q _ _ _ h5, h6⟩
theorem Go.retW {g : JFrame} {v : Option Value} (X : Stand p l e R s m args below meth c T locs cells slots) (hv : meth.sig.returnType = none → v = none) (hlk : meth.locks = false) (hc : cells ≤ R'.cells) (hs : slots ≤ R'.slots) (q : Q v T.heap locs)
    (st : ∀ fs, (∀ (f : JFrame) (acts : List Action), f.method = m → f.locked = none → f.entered = [] → (doReturn e (T.setTop f) acts v).1 = T.setFrames fs) → Steps p.tables e below (T.setTop g) (T.setFrames fs)) : Go p e below s R' Q T g := by
  obtain ⟨fs, hr, hrun, hended, hW, hsame⟩ := X.leave (v := v) hv hlk
  exact ⟨_, _, st fs hr, hrun, hended, _, _, rfl, q, ⟨_, rfl⟩, hW, hsame.mono hc hs⟩
theorem Go.retI {z : Int32} (X : Stand p l e R s m args below meth c T locs cells slots) (hx : p.tables.exec = Jvm.exec) (hret : meth.sig.returnType = some .int) (hlk : meth.locks = false) (hd : decode c.code pc = .ok (.ireturn, 1)) (hc : cells ≤ R'.cells) (hs : slots ≤ R'.slots) (q : Q (some (.int z)) T.heap locs) :
    Go p e below s R' Q T (mkF m pc Ls (.int z :: rest)) :=
  Go.retW X (fun h => by rw [hret] at h; cases h) hlk hc hs q fun fs hr => retOut X hx hret rfl (Or.inl ⟨rfl, Or.inl rfl, z, rfl⟩) hd hr
theorem Go.retJ {z : Int64} (X : Stand p l e R s m args below meth c T locs cells slots) (hx : p.tables.exec = Jvm.exec) (hret : meth.sig.returnType = some .long) (hlk : meth.locks = false) (hd : decode c.code pc = .ok (.lreturn, 1)) (hc : cells ≤ R'.cells) (hs : slots ≤ R'.slots) (q : Q (some (.long z)) T.heap locs) :
    Go p e below s R' Q T (mkF m pc Ls (.long z :: rest)) :=
  Go.retW X (fun h => by rw [hret] at h; cases h) hlk hc hs q fun fs hr => retOut X hx hret rfl (Or.inr (Or.inl ⟨rfl, rfl, z, rfl⟩)) hd hr
theorem Go.retA {w : Value} {t : FieldType} (X : Stand p l e R s m args below meth c T locs cells slots) (hx : p.tables.exec = Jvm.exec) (hret : meth.sig.returnType = some t) (ht : t.isReference = true) (hw : w.isRef = true) (hn : narrow t w = w) (hlk : meth.locks = false) (hd : decode c.code pc = .ok (.areturn, 1)) (hc : cells ≤ R'.cells) (hs : slots ≤ R'.slots) (q : Q (some w) T.heap locs) :
    Go p e below s R' Q T (mkF m pc Ls (w :: rest)) :=
  Go.retW X (fun h => by rw [hret] at h; cases h) hlk hc hs q fun fs hr => retOut X hx hret hn (Or.inr (Or.inr (Or.inr (Or.inr ⟨rfl, ht, hw⟩)))) hd hr
theorem Go.retN {z : Int32} {t : FieldType} (X : Stand p l e R s m args below meth c T locs cells slots) (hx : p.tables.exec = Jvm.exec) (hret : meth.sig.returnType = some t) (ht : t = .boolean ∨ t = .byte ∨ t = .char ∨ t = .short) (hlk : meth.locks = false) (hd : decode c.code pc = .ok (.ireturn, 1)) (hc : cells ≤ R'.cells) (hs : slots ≤ R'.slots) (q : Q (some (.int (nar t z))) T.heap locs) :
    Go p e below s R' Q T (mkF m pc Ls (.int z :: rest)) :=
  Go.retW X (fun h => by rw [hret] at h; cases h) hlk hc hs q fun fs hr => RoadKit.retN X hx hret ht hd hr
theorem Go.retV (X : Stand p l e R s m args below meth c T locs cells slots) (hx : p.tables.exec = Jvm.exec) (hret : meth.sig.returnType = none) (hlk : meth.locks = false) (hd : decode c.code pc = .ok (.return_, 1)) (hc : cells ≤ R'.cells) (hs : slots ≤ R'.slots) (q : Q none T.heap locs) :
    Go p e below s R' Q T (mkF m pc Ls []) :=
  Go.retW X (fun _ => rfl) hlk hc hs q fun fs hr => X.returnOut hx hret hd hr
/-! fields -/
theorem Go.getF {own R0 O n d : String} {index : Nat} {a : Addr} {v : Value} (X : Stand p l e R s m args below meth c T locs cells slots) (hx : p.tables.exec = Jvm.exec) (hZ : Z.Warmed39 s.vm) (hown : s.vm.findClass own = some m.cls) (w : (Jvm.Cond.fieldLink own index R0 n d).before a0 Z = true) (via : Via Z R0 O n d) (eT : T.heap = h) (F : Fld Z h a O n d v)
    (hd : decode c.code pc = .ok (.getfield index, 3)) (k : ∀ T', Stand p l e R s m args below meth c T' locs cells slots → T'.heap = h → Go p e below s R' Q T' (mkF m (pc + 3) Ls (v :: rest))) : Go p e below s R' Q T (mkF m pc Ls (.ref a :: rest)) := by
  obtain ⟨T', X', e', st⟩ := RoadKit.getF X hx hZ hown (host := "") (Or.inl w) via eT F (g := mkF m pc Ls (.ref a :: rest)) rfl rfl hd
  exact Go.of st (k T' X' e')
theorem Go.getFN {own R0 O n d host : String} {index : Nat} {a : Addr} {v : Value} (X : Stand p l e R s m args below meth c T locs cells slots) (hx : p.tables.exec = Jvm.exec) (hZ : Z.Warmed39 s.vm) (hown : s.vm.findClass own = some m.cls) (w : (Jvm.Cond.fieldLinkNest own index R0 n d host).before a0 Z = true) (via : Via Z R0 O n d) (eT : T.heap = h) (F : Fld Z h a O n d v)
    (hd : decode c.code pc = .ok (.getfield index, 3)) (k : ∀ T', Stand p l e R s m args below meth c T' locs cells slots → T'.heap = h → Go p e below s R' Q T' (mkF m (pc + 3) Ls (v :: rest))) : Go p e below s R' Q T (mkF m pc Ls (.ref a :: rest)) := by
  obtain ⟨T', X', e', st⟩ := RoadKit.getF X hx hZ hown (Or.inr w) via eT F (g := mkF m pc Ls (.ref a :: rest)) rfl rfl hd
  exact Go.of st (k T' X' e')
theorem Go.putF {own R0 O n d C : String} {index kk : Nat} {ty : FieldType} {a : Addr} {v old : Value} (X : Stand p l e R s m args below meth c T locs cells slots) (hx : p.tables.exec = Jvm.exec) (hZ : Z.Warmed39 s.vm) (hown : s.vm.findClass own = some m.cls) (w : (Jvm.Cond.fieldLink own index R0 n d).before a0 Z = true) (via : Via Z R0 O n d) (eT : T.heap = h) (F : Fld Z h a O n d old)
    (E : Exa Z h a C) (L : (Jvm.Cond.lays C O n d).before a0 Z = true ∨ ((Jvm.Cond.laysFinal C O n d).before a0 Z = true ∧ own = O ∧ meth.name = "<init>")) (wi : (Jvm.Cond.instantiable C kk).before a0 Z = true) (hty : parseFieldDescriptor d = some ty) (hn : narrow ty v = v) (hf : fits ty v = true)
    (hd : decode c.code pc = .ok (.putfield index, 3)) (k : ∀ T' h', Stand p l e R s m args below meth c T' (locs ++ [⟨a, RoadKit.slotOf Z O n d⟩]) cells slots → T'.heap = h' → Wr h h' a (RoadKit.slotOf Z O n d) v → Go p e below s R' Q T' (mkF m (pc + 3) Ls rest)) : Go p e below s R' Q T (mkF m pc Ls (v :: .ref a :: rest)) := by
  obtain ⟨T', h', X', e', W, st⟩ := RoadKit.putF X hx hZ hown (host := "") (Or.inl w) via eT F E L wi hty hn hf (g := mkF m pc Ls (v :: .ref a :: rest)) rfl rfl hd
  exact Go.of st (k T' h' X' e' W)
theorem Go.putFN {own R0 O n d C : String} {index kk : Nat} {ty : FieldType} {a : Addr} {z : Int32} {old : Value} (X : Stand p l e R s m args below meth c T locs cells slots) (hx : p.tables.exec = Jvm.exec) (hZ : Z.Warmed39 s.vm) (hown : s.vm.findClass own = some m.cls) (w : (Jvm.Cond.fieldLink own index R0 n d).before a0 Z = true) (via : Via Z R0 O n d) (eT : T.heap = h) (F : Fld Z h a O n d old)
    (E : Exa Z h a C) (L : (Jvm.Cond.lays C O n d).before a0 Z = true ∨ ((Jvm.Cond.laysFinal C O n d).before a0 Z = true ∧ own = O ∧ meth.name = "<init>")) (wi : (Jvm.Cond.instantiable C kk).before a0 Z = true) (hty : parseFieldDescriptor d = some ty) (hn : narrow ty (.int z) = .int (nar ty z)) (hf : fits ty (.int (nar ty z)) = true)
    (hd : decode c.code pc = .ok (.putfield index, 3)) (k : ∀ T' h', Stand p l e R s m args below meth c T' (locs ++ [⟨a, RoadKit.slotOf Z O n d⟩]) cells slots → T'.heap = h' → Wr h h' a (RoadKit.slotOf Z O n d) (.int (nar ty z)) → Go p e below s R' Q T' (mkF m (pc + 3) Ls rest)) : Go p e below s R' Q T (mkF m pc Ls (.int z :: .ref a :: rest)) := by
  obtain ⟨T', h', X', e', W, st⟩ := RoadKit.putFN X hx hZ hown w via eT F E L wi hty hn hf (g := mkF m pc Ls (.int z :: .ref a :: rest)) rfl rfl hd
  exact Go.of st (k T' h' X' e' W)
/-! objects and arrays made -/
theorem Go.newO {own C : String} {index n : Nat} (X : Stand p l e R s m args below meth c T locs cells slots) (hx : p.tables.exec = Jvm.exec) (hZ : Z.Warmed39 s.vm) (hown : s.vm.findClass own = some m.cls) (w : (Jvm.Cond.classLink own index C).before a0 Z = true) (wi : (Jvm.Cond.instantiable C n).before a0 Z = true) (wz : (Jvm.Cond.initialized C).before a0 Z = true) (eT : T.heap = h)
    (hd : decode c.code pc = .ok (.new index, 3)) (hc : cells + 1 ≤ R.cells) (hl : slots + n ≤ R.slots)
    (k : ∀ T' h' a, Stand p l e R s m args below meth c T' locs (cells + 1) (slots + n) → T'.heap = h' → Ext h h' → a = h.size → Exa Z h' a C → (∀ {O nm d : String} {ty : FieldType}, Laid Z a0 C O nm d → parseFieldDescriptor d = some ty → Fld Z h' a O nm d (defaultValue ty)) → Go p e below s R' Q T' (mkF m (pc + 3) Ls (.ref a :: rest))) : Go p e below s R' Q T (mkF m pc Ls rest) := by
  obtain ⟨T', h', X', e', E, A, D, -, st⟩ := RoadKit.newO X hx hZ hown w wi wz eT (g := mkF m pc Ls rest) rfl hd hc hl
  exact Go.of st (k T' h' _ X' e' E rfl A D)
/-- an array: its kind, its length, what each place holds -/
def AV (Z : State) (h : Heap) (a : Addr) (ty : FieldType) (n : Nat) (f : Nat → Value) : Prop := ∃ cl : Cell, Arr Z h a cl ty ∧ cl.slots.size = n ∧ ∀ j, j < n → cl.slots[j]? = some (f j)
def upd (f : Nat → Value) (j : Nat) (v : Value) : Nat → Value := fun i => if i = j then v else f i
def Inb (j : Int32) (n : Nat) : Prop := ¬ j < 0 ∧ j.toNatClampNeg < n
theorem upd_same (f : Nat → Value) (j : Nat) (v : Value) : upd f j v j = v := by simp [upd]
theorem upd_ne (f : Nat → Value) {i j : Nat} (v : Value) (hn : i ≠ j) : upd f j v i = f i := by simp [upd, hn]
theorem AV.lt {a : Addr} {ty : FieldType} {n : Nat} {f : Nat → Value} (V : AV Z h a ty n f) : a < h.size := by obtain ⟨cl, A, -⟩ := V; exact A.lt
theorem AV.ext {a : Addr} {ty : FieldType} {n : Nat} {f : Nat → Value} (V : AV Z h a ty n f) (E : Ext h h') : AV Z h' a ty n f := by obtain ⟨cl, A, r⟩ := V; exact ⟨cl, A.ext E, r⟩
theorem AV.other {a b : Addr} {ty : FieldType} {n : Nat} {f : Nat → Value} {sl : Nat} {v : Value} (V : AV Z h b ty n f) (W : Wr h h' a sl v) (q : b ≠ a) : AV Z h' b ty n f := by obtain ⟨cl, A, r⟩ := V; exact ⟨cl, A.other W q, r⟩
theorem AV.keep {a : Addr} {ty : FieldType} {n : Nat} {f : Nat → Value} {ws : List Addr} (V : AV Z h a ty n f) (K : Keep h h' ws) (q : a ∉ ws) : AV Z h' a ty n f := by obtain ⟨cl, A, r⟩ := V; exact ⟨cl, ⟨K.2.1 a cl A.1 q, A.2⟩, r⟩
theorem AV.set {a : Addr} {ty : FieldType} {n : Nat} {f : Nat → Value} {j : Nat} {v : Value} (V : AV Z h a ty n f) (W : Wr h h' a j v) (hj : j < n) : AV Z h' a ty n (upd f j v) := by
  obtain ⟨cl, A, S, H⟩ := V
  refine ⟨cl.setSlot j v, A.same W, by rw [sz_set]; exact S, fun i hi => ?_⟩
  by_cases q : i = j
  · subst q; simp [upd, Cell.setSlot, S, hj]
  · rw [upd_ne f v q, ← H i hi]; exact Array.getElem?_setIfInBounds_ne (Ne.symm q)
def updJ (f : Nat → Int64) (n : Nat) (q : Int64) : Nat → Int64 := fun j => if j = n then q else f j
def updI (f : Nat → Int32) (n : Nat) (q : Int32) : Nat → Int32 := fun j => if j = n then q else f j
theorem AV.setJ {a : Addr} {ty : FieldType} {n : Nat} {f : Nat → Int64} {j : Nat} {q : Int64} (V : AV Z h a ty n (fun i => .long (f i))) (W : Wr h h' a j (.long q)) (hj : j < n) : AV Z h' a ty n (fun i => .long (updJ f j q i)) := by
  have r := V.set W hj
  have e : upd (fun i => .long (f i)) j (.long q) = fun i => .long (updJ f j q i) := by funext i; unfold upd updJ; split <;> rfl
  rw [← e]; exact r
theorem AV.setI {a : Addr} {ty : FieldType} {n : Nat} {f : Nat → Int32} {j : Nat} {q : Int32} (V : AV Z h a ty n (fun i => .int (f i))) (W : Wr h h' a j (.int q)) (hj : j < n) : AV Z h' a ty n (fun i => .int (updI f j q i)) := by
  have r := V.set W hj
  have e : upd (fun i => .int (f i)) j (.int q) = fun i => .int (updI f j q i) := by funext i; unfold upd updI; split <;> rfl
  rw [← e]; exact r
def updD (f : Nat → UInt64) (n : Nat) (q : UInt64) : Nat → UInt64 := fun j => if j = n then q else f j
theorem AV.setD {a : Addr} {ty : FieldType} {n : Nat} {f : Nat → UInt64} {j : Nat} {q : UInt64} (V : AV Z h a ty n (fun i => .double (f i))) (W : Wr h h' a j (.double q)) (hj : j < n) : AV Z h' a ty n (fun i => .double (updD f j q i)) := by
  have r := V.set W hj
  have e : upd (fun i => .double (f i)) j (.double q) = fun i => .double (updD f j q i) := by funext i; unfold upd updD; split <;> rfl
  rw [← e]; exact r
theorem AV.congr {a : Addr} {ty : FieldType} {n : Nat} {f g : Nat → Value} (V : AV Z h a ty n f) (q : ∀ j, j < n → f j = g j) : AV Z h a ty n g := by
  obtain ⟨cl, A, S, H⟩ := V; exact ⟨cl, A, S, fun j hj => by rw [← q j hj]; exact H j hj⟩
theorem AV.new {a : Addr} {ty : FieldType} {cA : ClassId} {z : Int32} (A : Arr Z h a (newA cA ty z) ty) : AV Z h a ty z.toNatClampNeg (fun _ => defaultValue ty) :=
  ⟨_, A, sz_new _ _ _, fun j hj => by simp [newA, hj]⟩
theorem Inb.not {j : Int32} {n : Nat} (i : Inb j n) {k : Nat} (hk : k = n) : ¬ (j < 0 ∨ k ≤ j.toNatClampNeg) := fun q => q.elim i.1 (fun r => absurd i.2 (by omega))
theorem Go.newP {aty : ArrayType} {n : Int32} (X : Stand p l e R s m args below meth c T locs cells slots) (hx : p.tables.exec = Jvm.exec) (hZ : Z.Warmed39 s.vm) (w : (Jvm.Cond.arrayClass (newarray.typeOf aty)).before a0 Z = true) (eT : T.heap = h) (hd : decode c.code pc = .ok (.newarray aty, 2)) (hn : ¬ n < 0) (cap : Nat) (hcap : n.toNatClampNeg ≤ cap) (hb : cap * 8 ≤ 536870912) (hc : cells + 1 ≤ R.cells) (hl : slots + cap ≤ R.slots)
    (k : ∀ T' h' a, Stand p l e R s m args below meth c T' locs (cells + 1) (slots + cap) → T'.heap = h' → Ext h h' → a = h.size → AV Z h' a (newarray.typeOf aty) n.toNatClampNeg (fun _ => defaultValue (newarray.typeOf aty)) → Go p e below s R' Q T' (mkF m (pc + 2) Ls (.ref a :: rest))) : Go p e below s R' Q T (mkF m pc Ls (.int n :: rest)) := by
  obtain ⟨T', h', cA, X', e', E, A, st⟩ := RoadKit.newP X hx hZ w eT (g := mkF m pc Ls (.int n :: rest)) rfl hd rfl hn hcap hb hc hl
  exact Go.of st (k T' h' _ X' e' E rfl (AV.new A))
theorem Go.stI {a : Addr} {n : Nat} {g : Nat → Value} {j x : Int32} (X : Stand p l e R s m args below meth c T locs cells slots) (hx : p.tables.exec = Jvm.exec) (hZ : Z.Warmed39 s.vm) (eT : T.heap = h) (V : AV Z h a .int n g) (hj : Inb j n) (hd : decode c.code pc = .ok (.iastore, 1))
    (k : ∀ T' h', Stand p l e R s m args below meth c T' (locs ++ [⟨a, j.toNatClampNeg⟩]) cells slots → T'.heap = h' → Wr h h' a j.toNatClampNeg (.int x) → Go p e below s R' Q T' (mkF m (pc + 1) Ls rest)) : Go p e below s R' Q T (mkF m pc Ls (.int x :: .int j :: .ref a :: rest)) := by
  obtain ⟨cl, A, S, H⟩ := V
  obtain ⟨T', h', X', e', W, st⟩ := RoadKit.stI X hx hZ eT A (x := x) (hj.not S) (g := mkF m pc Ls (.int x :: .int j :: .ref a :: rest)) rfl rfl hd
  exact Go.of st (k T' h' X' e' W)
theorem Go.stJ {a : Addr} {n : Nat} {g : Nat → Value} {j : Int32} {x : Int64} (X : Stand p l e R s m args below meth c T locs cells slots) (hx : p.tables.exec = Jvm.exec) (hZ : Z.Warmed39 s.vm) (eT : T.heap = h) (V : AV Z h a .long n g) (hj : Inb j n) (hd : decode c.code pc = .ok (.lastore, 1))
    (k : ∀ T' h', Stand p l e R s m args below meth c T' (locs ++ [⟨a, j.toNatClampNeg⟩]) cells slots → T'.heap = h' → Wr h h' a j.toNatClampNeg (.long x) → Go p e below s R' Q T' (mkF m (pc + 1) Ls rest)) : Go p e below s R' Q T (mkF m pc Ls (.long x :: .int j :: .ref a :: rest)) := by
  obtain ⟨cl, A, S, H⟩ := V
  obtain ⟨T', h', X', e', W, st⟩ := RoadKit.stJ X hx hZ eT A (x := x) (hj.not S) (g := mkF m pc Ls (.long x :: .int j :: .ref a :: rest)) rfl rfl hd
  exact Go.of st (k T' h' X' e' W)
theorem Go.stC {a : Addr} {n : Nat} {g : Nat → Value} {j x : Int32} (X : Stand p l e R s m args below meth c T locs cells slots) (hx : p.tables.exec = Jvm.exec) (hZ : Z.Warmed39 s.vm) (eT : T.heap = h) (V : AV Z h a .char n g) (hj : Inb j n) (hd : decode c.code pc = .ok (.castore, 1))
    (k : ∀ T' h', Stand p l e R s m args below meth c T' (locs ++ [⟨a, j.toNatClampNeg⟩]) cells slots → T'.heap = h' → Wr h h' a j.toNatClampNeg (.int (nar .char x)) → Go p e below s R' Q T' (mkF m (pc + 1) Ls rest)) : Go p e below s R' Q T (mkF m pc Ls (.int x :: .int j :: .ref a :: rest)) := by
  obtain ⟨cl, A, S, H⟩ := V
  obtain ⟨T', h', X', e', W, st⟩ := RoadKit.stC X hx hZ eT A (x := x) (hj.not S) (g := mkF m pc Ls (.int x :: .int j :: .ref a :: rest)) rfl rfl hd
  exact Go.of st (k T' h' X' e' W)
theorem Go.stB {a : Addr} {n : Nat} {g : Nat → Value} {j x : Int32} (X : Stand p l e R s m args below meth c T locs cells slots) (hx : p.tables.exec = Jvm.exec) (hZ : Z.Warmed39 s.vm) (eT : T.heap = h) (V : AV Z h a .byte n g) (hj : Inb j n) (hd : decode c.code pc = .ok (.bastore, 1))
    (k : ∀ T' h', Stand p l e R s m args below meth c T' (locs ++ [⟨a, j.toNatClampNeg⟩]) cells slots → T'.heap = h' → Wr h h' a j.toNatClampNeg (.int (nar .byte x)) → Go p e below s R' Q T' (mkF m (pc + 1) Ls rest)) : Go p e below s R' Q T (mkF m pc Ls (.int x :: .int j :: .ref a :: rest)) := by
  obtain ⟨cl, A, S, H⟩ := V
  obtain ⟨T', h', X', e', W, st⟩ := RoadKit.stB X hx hZ eT A (x := x) (hj.not S) (g := mkF m pc Ls (.int x :: .int j :: .ref a :: rest)) rfl rfl hd
  exact Go.of st (k T' h' X' e' W)
theorem Go.stD {a : Addr} {n : Nat} {g : Nat → Value} {j : Int32} {x : UInt64} (X : Stand p l e R s m args below meth c T locs cells slots) (hx : p.tables.exec = Jvm.exec) (hZ : Z.Warmed39 s.vm) (eT : T.heap = h) (V : AV Z h a .double n g) (hj : Inb j n) (hd : decode c.code pc = .ok (.dastore, 1))
    (k : ∀ T' h', Stand p l e R s m args below meth c T' (locs ++ [⟨a, j.toNatClampNeg⟩]) cells slots → T'.heap = h' → Wr h h' a j.toNatClampNeg (.double x) → Go p e below s R' Q T' (mkF m (pc + 1) Ls rest)) : Go p e below s R' Q T (mkF m pc Ls (.double x :: .int j :: .ref a :: rest)) := by
  obtain ⟨cl, A, S, H⟩ := V
  obtain ⟨T', h', X', e', W, st⟩ := RoadKit.stD X hx hZ eT A (x := x) (hj.not S) (g := mkF m pc Ls (.double x :: .int j :: .ref a :: rest)) rfl rfl hd
  exact Go.of st (k T' h' X' e' W)
theorem Go.ldD {a : Addr} {n : Nat} {g : Nat → Value} {j : Int32} (v : Value) (X : Stand p l e R s m args below meth c T locs cells slots) (hx : p.tables.exec = Jvm.exec) (hZ : Z.Warmed39 s.vm) (eT : T.heap = h) (V : AV Z h a .double n g) (hj : Inb j n) (hv : g j.toNatClampNeg = v) (hd : decode c.code pc = .ok (.daload, 1))
    (k : Go p e below s R' Q T (mkF m (pc + 1) Ls (v :: rest))) : Go p e below s R' Q T (mkF m pc Ls (.int j :: .ref a :: rest)) := by
  obtain ⟨cl, A, S, H⟩ := V
  exact Go.of (X.daload hx (by rw [eT]; exact A.1) (State.isArrayOf_alike hZ.alike A.2.1) A.2.2 (hj.not S) ((H _ hj.2).trans (by rw [hv])) (g := mkF m pc Ls (.int j :: .ref a :: rest)) rfl rfl hd) k
theorem Go.ldI {a : Addr} {n : Nat} {g : Nat → Value} {j : Int32} (v : Value) (X : Stand p l e R s m args below meth c T locs cells slots) (hx : p.tables.exec = Jvm.exec) (hZ : Z.Warmed39 s.vm) (eT : T.heap = h) (V : AV Z h a .int n g) (hj : Inb j n) (hv : g j.toNatClampNeg = v) (hd : decode c.code pc = .ok (.iaload, 1))
    (k : Go p e below s R' Q T (mkF m (pc + 1) Ls (v :: rest))) : Go p e below s R' Q T (mkF m pc Ls (.int j :: .ref a :: rest)) := by
  obtain ⟨cl, A, S, H⟩ := V
  exact Go.of (X.iaload hx (by rw [eT]; exact A.1) (State.isArrayOf_alike hZ.alike A.2.1) A.2.2 (hj.not S) ((H _ hj.2).trans (by rw [hv])) (g := mkF m pc Ls (.int j :: .ref a :: rest)) rfl rfl hd) k
theorem Go.ldJ {a : Addr} {n : Nat} {g : Nat → Value} {j : Int32} (v : Value) (X : Stand p l e R s m args below meth c T locs cells slots) (hx : p.tables.exec = Jvm.exec) (hZ : Z.Warmed39 s.vm) (eT : T.heap = h) (V : AV Z h a .long n g) (hj : Inb j n) (hv : g j.toNatClampNeg = v) (hd : decode c.code pc = .ok (.laload, 1))
    (k : Go p e below s R' Q T (mkF m (pc + 1) Ls (v :: rest))) : Go p e below s R' Q T (mkF m pc Ls (.int j :: .ref a :: rest)) := by
  obtain ⟨cl, A, S, H⟩ := V
  exact Go.of (X.laload hx (by rw [eT]; exact A.1) (State.isArrayOf_alike hZ.alike A.2.1) A.2.2 (hj.not S) ((H _ hj.2).trans (by rw [hv])) (g := mkF m pc Ls (.int j :: .ref a :: rest)) rfl rfl hd) k
theorem Go.ldC {a : Addr} {n : Nat} {g : Nat → Value} {j : Int32} (v : Value) (X : Stand p l e R s m args below meth c T locs cells slots) (hx : p.tables.exec = Jvm.exec) (hZ : Z.Warmed39 s.vm) (eT : T.heap = h) (V : AV Z h a .char n g) (hj : Inb j n) (hv : g j.toNatClampNeg = v) (hd : decode c.code pc = .ok (.caload, 1))
    (k : Go p e below s R' Q T (mkF m (pc + 1) Ls (v :: rest))) : Go p e below s R' Q T (mkF m pc Ls (.int j :: .ref a :: rest)) := by
  obtain ⟨cl, A, S, H⟩ := V
  exact Go.of (X.caload hx (by rw [eT]; exact A.1) (State.isArrayOf_alike hZ.alike A.2.1) A.2.2 (hj.not S) ((H _ hj.2).trans (by rw [hv])) (g := mkF m pc Ls (.int j :: .ref a :: rest)) rfl rfl hd) k
theorem Go.ldB {a : Addr} {n : Nat} {g : Nat → Value} {j : Int32} (v : Value) (X : Stand p l e R s m args below meth c T locs cells slots) (hx : p.tables.exec = Jvm.exec) (hZ : Z.Warmed39 s.vm) (eT : T.heap = h) (V : AV Z h a .byte n g) (hj : Inb j n) (hv : g j.toNatClampNeg = v) (hd : decode c.code pc = .ok (.baload, 1))
    (k : Go p e below s R' Q T (mkF m (pc + 1) Ls (v :: rest))) : Go p e below s R' Q T (mkF m pc Ls (.int j :: .ref a :: rest)) := by
  obtain ⟨cl, A, S, H⟩ := V
  exact Go.of (X.baloadBytes hx (by rw [eT]; exact A.1) (State.isArrayOf_alike hZ.alike A.2.1) A.2.2 (hj.not S) ((H _ hj.2).trans (by rw [hv])) (g := mkF m pc Ls (.int j :: .ref a :: rest)) rfl rfl hd) k
theorem Go.alen {a : Addr} {n : Nat} {ty : FieldType} {g : Nat → Value} (z : Int32) (X : Stand p l e R s m args below meth c T locs cells slots) (hx : p.tables.exec = Jvm.exec) (hZ : Z.Warmed39 s.vm) (eT : T.heap = h) (V : AV Z h a ty n g) (hz : n.toInt32 = z) (hd : decode c.code pc = .ok (.arraylength, 1))
    (k : Go p e below s R' Q T (mkF m (pc + 1) Ls (.int z :: rest))) : Go p e below s R' Q T (mkF m pc Ls (.ref a :: rest)) := by
  obtain ⟨cl, A, S, H⟩ := V
  refine Go.of (X.arraylength hx (by rw [eT]; exact A.1) (State.isArrayOf_alike hZ.alike A.2.1) (g := mkF m pc Ls (.ref a :: rest)) rfl rfl hd) ?_
  rw [S, hz]; exact k
/-! calls -/
theorem Go.initO {own : String} {idx : Nat} {a : Addr} (X : Stand p l e R s m args below meth c T locs cells slots) (hx : p.tables.exec = Jvm.exec) (hZ : Z.Warmed39 s.vm) (hown : s.vm.findClass own = some m.cls) (w1 : (Jvm.Cond.methodLink own idx Lib.objectInit).before a0 Z = true) (w2 : (Jvm.Cond.instanceMethod Lib.objectInit).before a0 Z = true) (w3 : (Jvm.Cond.code Lib.objectInit ⟨#[0xb1]⟩ 1 none).before a0 Z = true) (eT : T.heap = h)
    (hsz : Ls.size = c.maxLocals) (hd : decode c.code pc = .ok (.invokespecial idx, 3)) (hf : 1 ≤ R.frames) (W : Nat) (hW : (rest.map fun v => v.category).sum ≤ W) (hl : W + 12 ≤ R.locals) (k : ∀ T', Stand p l e R s m args below meth c T' locs cells slots → T'.heap = h → Go p e below s R' Q T' (mkF m (pc + 3) Ls rest)) : Go p e below s R' Q T (mkF m pc Ls (.ref a :: rest)) := by
  obtain ⟨T', X', e', st⟩ := RoadKit.initO X hx hZ hown w1 w2 w3 eT (g := mkF m pc Ls (.ref a :: rest)) rfl hsz rfl hd hf (W := W) (by show 2 * 0 + _ ≤ _; omega) hl
  exact Go.of st (k T' X' e')
theorem Go.static {own : String} {index : Nat} {y : MethodName} {bytes : ByteArray} {maxL : Nat} {ret : Option FieldType} {rm : Room} {as : Array Value} {Qc : Option Value → Heap → List Loc → Prop} (X : Stand p l e R s m args below meth c T locs cells slots) (hx : p.tables.exec = Jvm.exec) (hZ : Z.Warmed39 s.vm) (hown : s.vm.findClass own = some m.cls)
    (w1 : (Jvm.Cond.methodLink own index y).before a0 Z = true) (w2 : (Jvm.Cond.static y).before a0 Z = true) (w3 : (Jvm.Cond.initialized y.cls).before a0 Z = true) (w4 : (Jvm.Cond.code y bytes maxL ret).before a0 Z = true) (hy : y.cls ≠ "java/lang/invoke/MethodHandle" ∧ y.cls ≠ "java/lang/invoke/VarHandle")
    (M : Met l Z y bytes maxL ret [] rm as h Qc) (eT : T.heap = h) (W : Nat) (hf : rm.frames + 1 ≤ R.frames) (hl : W + (maxL + 11) + rm.locals ≤ R.locals) (hc : cells + rm.cells ≤ R.cells) (hs : slots + rm.slots ≤ R.slots) (hsz : Ls.size = c.maxLocals) {st argsL : List Value} (rest : List Value) (hlen : ∀ sig, parseMethodDescriptor y.desc = some sig → argsL.length = sig.parameters.length)
    (has : argsL.toArray = as) (hst : st = argsL.reverse ++ rest) (hW : (rest.map fun v => v.category).sum ≤ W) (hd : decode c.code pc = .ok (.invokestatic index, 3))
    (k : ∀ v T' L', Stand p l e R s m args below meth c T' (locs ++ L') (cells + rm.cells) (slots + rm.slots) → Qc v T'.heap L' → Go p e below s R' Q T' (mkF m (pc + 3) Ls (v.toList ++ rest))) : Go p e below s R' Q T (mkF m pc Ls st) := by
  obtain ⟨v, _, ⟨T1, L1, k1, n1⟩, -, X1, ⟨Lc, hQ, l1, y1, z1⟩, stp⟩ := Jvm.LawKit.callS X hx (y := y) hown (mvT hZ w1) (mvT hZ w2) (mvT hZ w3) (mvT hZ w4) hy (backOf (W := W) M hZ w4 w3 hf hl) (g := mkF m pc Ls st) rfl hsz (argsL := argsL) (rest := rest) hlen hst (by show 2 * 0 + _ ≤ _; omega) hd (fun _ _ => ⟨has, eT, hc, hs⟩)
  dsimp only [Pt.U, Pt.locs, Pt.cells, Pt.slots] at X1 l1 y1 z1 stp hQ
  subst l1 y1 z1
  exact Go.of stp (k v T1 Lc X1 hQ)
theorem Go.special {own : String} {index : Nat} {y : MethodName} {bytes : ByteArray} {maxL : Nat} {rm : Room} {as : Array Value} {a : Addr} {Qc : Option Value → Heap → List Loc → Prop} (X : Stand p l e R s m args below meth c T locs cells slots) (hx : p.tables.exec = Jvm.exec) (hZ : Z.Warmed39 s.vm) (hown : s.vm.findClass own = some m.cls) (hy1 : y.name = "<init>")
    (w1 : (Jvm.Cond.methodLink own index y).before a0 Z = true) (w2 : (Jvm.Cond.instanceMethod y).before a0 Z = true) (w3 : (Jvm.Cond.initialized y.cls).before a0 Z = true) (w4 : (Jvm.Cond.code y bytes maxL none).before a0 Z = true) (hy : y.cls ≠ "java/lang/invoke/MethodHandle" ∧ y.cls ≠ "java/lang/invoke/VarHandle")
    (M : Met l Z y bytes maxL none [] rm as h Qc) (eT : T.heap = h) (W : Nat) (hf : rm.frames + 1 ≤ R.frames) (hl : W + (maxL + 11) + rm.locals ≤ R.locals) (hc : cells + rm.cells ≤ R.cells) (hs : slots + rm.slots ≤ R.slots) (hsz : Ls.size = c.maxLocals) {st argsL : List Value} (rest : List Value) (hlen : ∀ sig, parseMethodDescriptor y.desc = some sig → argsL.length = sig.parameters.length)
    (has : (.ref a :: argsL : List Value).toArray = as) (hst : st = argsL.reverse ++ .ref a :: rest) (hW : (rest.map fun v => v.category).sum ≤ W) (hd : decode c.code pc = .ok (.invokespecial index, 3))
    (k : ∀ v T' L', Stand p l e R s m args below meth c T' (locs ++ L') (cells + rm.cells) (slots + rm.slots) → Qc v T'.heap L' → Go p e below s R' Q T' (mkF m (pc + 3) Ls (v.toList ++ rest))) : Go p e below s R' Q T (mkF m pc Ls st) := by
  obtain ⟨v, _, ⟨T1, L1, k1, n1⟩, -, X1, ⟨Lc, hQ, l1, y1, z1⟩, stp⟩ := X.specialBack hx (y := y) hy1 hown (mvT hZ w1) (mvT hZ w2) (mvT hZ w4) hy (backOf (W := W) M hZ w4 w3 hf hl) (g := mkF m pc Ls st) rfl hsz (Steps.refl _) (a := a) (argsL := argsL) (rest := rest) hlen hst (by show 2 * 0 + _ ≤ _; omega) hd (fun _ _ => ⟨has, eT, hc, hs⟩)
  dsimp only [Pt.U, Pt.locs, Pt.cells, Pt.slots] at X1 l1 y1 z1 stp hQ
  subst l1 y1 z1
  exact Go.of (fun _ q => stp.trans q) (k v T1 Lc X1 hQ)
theorem Go.virtual {own C : String} {index : Nat} {y z : MethodName} {bytes : ByteArray} {maxL : Nat} {ret : Option FieldType} {rm : Room} {as : Array Value} {a : Addr} {Qc : Option Value → Heap → List Loc → Prop} (X : Stand p l e R s m args below meth c T locs cells slots) (hx : p.tables.exec = Jvm.exec) (hZ : Z.Warmed39 s.vm) (hown : s.vm.findClass own = some m.cls)
    (w1 : (Jvm.Cond.methodLink own index y).before a0 Z = true) (w2 : (Jvm.Cond.declares y).before a0 Z = true) (nf : NotFace s y) (ws : (Jvm.Cond.selects C y z).before a0 Z = true) (wi : (Jvm.Cond.instanceMethod z).before a0 Z = true) (w3 : (Jvm.Cond.initialized z.cls).before a0 Z = true) (w4 : (Jvm.Cond.code z bytes maxL ret).before a0 Z = true) (hy : y.cls ≠ "java/lang/invoke/MethodHandle" ∧ y.cls ≠ "java/lang/invoke/VarHandle")
    (M : Met l Z z bytes maxL ret [] rm as h Qc) (eT : T.heap = h) (E : Exa Z h a C) (W : Nat) (hf : rm.frames + 1 ≤ R.frames) (hl : W + (maxL + 11) + rm.locals ≤ R.locals) (hc : cells + rm.cells ≤ R.cells) (hs : slots + rm.slots ≤ R.slots) (hsz : Ls.size = c.maxLocals) {st argsL : List Value} (rest : List Value) (hlen : ∀ sig, parseMethodDescriptor y.desc = some sig → argsL.length = sig.parameters.length)
    (has : (.ref a :: argsL : List Value).toArray = as) (hst : st = argsL.reverse ++ .ref a :: rest) (hW : (rest.map fun v => v.category).sum ≤ W) (hd : decode c.code pc = .ok (.invokevirtual index, 3))
    (k : ∀ v T' L', Stand p l e R s m args below meth c T' (locs ++ L') (cells + rm.cells) (slots + rm.slots) → Qc v T'.heap L' → Go p e below s R' Q T' (mkF m (pc + 3) Ls (v.toList ++ rest))) : Go p e below s R' Q T (mkF m pc Ls st) := by
  obtain ⟨cq, kq, qa, qb, qc⟩ := isOf hZ eT E
  obtain ⟨v, _, ⟨T1, L1, k1, n1⟩, -, X1, ⟨Lc, hQ, l1, y1, z1⟩, stp⟩ := X.virtualBack hx (y := y) (z := z) hown (mvT hZ w1) (mvT hZ w2) nf (mvT hZ ws) (mvT hZ wi) hy (backOf (W := W) M hZ w4 w3 hf hl) qa qc (g := mkF m pc Ls st) rfl hsz (Steps.refl _) (argsL := argsL) (rest := rest) hlen hst (by show 2 * 0 + _ ≤ _; omega) hd (fun _ _ => ⟨has, eT, hc, hs⟩)
  dsimp only [Pt.U, Pt.locs, Pt.cells, Pt.slots] at X1 l1 y1 z1 stp hQ
  subst l1 y1 z1
  exact Go.of (fun _ q => stp.trans q) (k v T1 Lc X1 hQ)
theorem Go.priv {own C : String} {index : Nat} {y : MethodName} {bytes : ByteArray} {maxL : Nat} {ret : Option FieldType} {rm : Room} {as : Array Value} {a : Addr} {Qc : Option Value → Heap → List Loc → Prop} (X : Stand p l e R s m args below meth c T locs cells slots) (hx : p.tables.exec = Jvm.exec) (hZ : Z.Warmed39 s.vm) (hown : s.vm.findClass own = some m.cls)
    (w1 : (Jvm.Cond.methodLink own index y).before a0 Z = true) (wi : (Jvm.Cond.instanceMethod y).before a0 Z = true) {kk : Nat} (wk : (Jvm.Cond.instantiable y.cls kk).before a0 Z = true) (wp : (Jvm.Cond.privateMethod y).before a0 Z = true) (w3 : (Jvm.Cond.initialized y.cls).before a0 Z = true) (w4 : (Jvm.Cond.code y bytes maxL ret).before a0 Z = true) (hy : y.cls ≠ "java/lang/invoke/MethodHandle" ∧ y.cls ≠ "java/lang/invoke/VarHandle")
    (M : Met l Z y bytes maxL ret [] rm as h Qc) (eT : T.heap = h) (E : Exa Z h a C) (W : Nat) (hf : rm.frames + 1 ≤ R.frames) (hl : W + (maxL + 11) + rm.locals ≤ R.locals) (hc : cells + rm.cells ≤ R.cells) (hs : slots + rm.slots ≤ R.slots) (hsz : Ls.size = c.maxLocals) {st argsL : List Value} (rest : List Value) (hlen : ∀ sig, parseMethodDescriptor y.desc = some sig → argsL.length = sig.parameters.length)
    (has : (.ref a :: argsL : List Value).toArray = as) (hst : st = argsL.reverse ++ .ref a :: rest) (hW : (rest.map fun v => v.category).sum ≤ W) (hd : decode c.code pc = .ok (.invokevirtual index, 3))
    (k : ∀ v T' L', Stand p l e R s m args below meth c T' (locs ++ L') (cells + rm.cells) (slots + rm.slots) → Qc v T'.heap L' → Go p e below s R' Q T' (mkF m (pc + 3) Ls (v.toList ++ rest))) : Go p e below s R' Q T (mkF m pc Ls st) := by
  obtain ⟨cq, qa, qb⟩ := E.cell
  have hp : s.PrivateAt y := Cond.privateMethod_at (mvP hZ wp (args := #[]))
  obtain ⟨ci, ki, i1, i2, -, i4, -⟩ := Cond.instantiable_spec (show (Jvm.Cond.instantiable y.cls kk).before args s = true from mvT hZ wk)
  have hsel : (Jvm.Cond.selects y.cls y y).before args s = true := selects_self_of_private i1 i2 (by revert i4; cases ki.isInterface <;> simp) hp (mvT hZ wi) hy
  obtain ⟨v, _, ⟨T1, L1, k1, n1⟩, -, X1, ⟨Lc, hQ, l1, y1, z1⟩, stp⟩ := X.privateBack hx (y := y) hown (mvT hZ w1) (mvT hZ wi) hsel hp (mvT hZ w4) hy (backOf (W := W) M hZ w4 w3 hf hl) (g := mkF m pc Ls st) rfl hsz (Steps.refl _) (a := a) (by rw [eT]; exact qa) qb (argsL := argsL) (rest := rest) hlen hst (by show 2 * 0 + _ ≤ _; omega) hd (fun _ _ => ⟨has, eT, hc, hs⟩)
  dsimp only [Pt.U, Pt.locs, Pt.cells, Pt.slots] at X1 l1 y1 z1 stp hQ
  subst l1 y1 z1
  exact Go.of (fun _ q => stp.trans q) (k v T1 Lc X1 hQ)
/-! conditions -/
theorem cZlt {x y : Int64} (q : x < y) : ifCond.holds .lt (lcmpW x y) = true ∧ ifCond.holds .ge (lcmpW x y) = false := ⟨(if0 _ _).trans (tlt ((lw_lt x y).mpr q)).1, (if0 _ _).trans (tlt ((lw_lt x y).mpr q)).2.1⟩
theorem cFlt {x y : Int64} (q : ¬ x < y) : ifCond.holds .lt (lcmpW x y) = false ∧ ifCond.holds .ge (lcmpW x y) = true := ⟨(if0 _ _).trans (flt (fun r => q ((lw_lt x y).mp r))).1, (if0 _ _).trans (flt (fun r => q ((lw_lt x y).mp r))).2.1⟩
theorem cZgt {x y : Int64} (q : y < x) : ifCond.holds .gt (lcmpW x y) = true ∧ ifCond.holds .le (lcmpW x y) = false := ⟨(if0 _ _).trans (tlt ((lw_gt x y).mpr q)).2.2.1, (if0 _ _).trans (tlt ((lw_gt x y).mpr q)).2.2.2⟩
theorem cFgt {x y : Int64} (q : ¬ y < x) : ifCond.holds .gt (lcmpW x y) = false ∧ ifCond.holds .le (lcmpW x y) = true := ⟨(if0 _ _).trans (flt (fun r => q ((lw_gt x y).mp r))).2.2.1, (if0 _ _).trans (flt (fun r => q ((lw_gt x y).mp r))).2.2.2⟩
theorem cZeq {x y : Int64} (q : x = y) : ifCond.holds .eq (lcmpW x y) = true ∧ ifCond.holds .ne (lcmpW x y) = false := ⟨(if0 _ _).trans (teq ((lw_eq x y).mpr q)).1, (if0 _ _).trans (teq ((lw_eq x y).mpr q)).2⟩
theorem cFeq {x y : Int64} (q : ¬ x = y) : ifCond.holds .eq (lcmpW x y) = false ∧ ifCond.holds .ne (lcmpW x y) = true := ⟨(if0 _ _).trans (feq (fun r => q ((lw_eq x y).mp r))).1, (if0 _ _).trans (feq (fun r => q ((lw_eq x y).mp r))).2⟩
end Kit
theorem own_ni0 {a : Addr}  : a ∉ ([] : List Addr) := by simp [*]
theorem own_all0 {P : Addr → Prop} {b0 : Addr}  : ∀ x ∈ ([] : List Addr), P x := by intro x hx; cases hx
theorem own_ni1 {a b0 : Addr} (q0 : a ≠ b0) : a ∉ ([b0] : List Addr) := by simp [*]
theorem own_all1 {P : Addr → Prop} {b0 : Addr} (q0 : P b0) : ∀ x ∈ ([b0] : List Addr), P x := by intro x hx; simp only [List.mem_cons, List.not_mem_nil, or_false] at hx; subst hx; assumption
theorem own_ni2 {a b0 b1 : Addr} (q0 : a ≠ b0) (q1 : a ≠ b1) : a ∉ ([b0, b1] : List Addr) := by simp [*]
theorem own_all2 {P : Addr → Prop} {b0 b1 : Addr} (q0 : P b0) (q1 : P b1) : ∀ x ∈ ([b0, b1] : List Addr), P x := by intro x hx; simp only [List.mem_cons, List.not_mem_nil, or_false] at hx; rcases hx with rfl | rfl <;> assumption
theorem own_ni3 {a b0 b1 b2 : Addr} (q0 : a ≠ b0) (q1 : a ≠ b1) (q2 : a ≠ b2) : a ∉ ([b0, b1, b2] : List Addr) := by simp [*]
theorem own_all3 {P : Addr → Prop} {b0 b1 b2 : Addr} (q0 : P b0) (q1 : P b1) (q2 : P b2) : ∀ x ∈ ([b0, b1, b2] : List Addr), P x := by intro x hx; simp only [List.mem_cons, List.not_mem_nil, or_false] at hx; rcases hx with rfl | rfl | rfl <;> assumption
theorem own_ni4 {a b0 b1 b2 b3 : Addr} (q0 : a ≠ b0) (q1 : a ≠ b1) (q2 : a ≠ b2) (q3 : a ≠ b3) : a ∉ ([b0, b1, b2, b3] : List Addr) := by simp [*]
theorem own_all4 {P : Addr → Prop} {b0 b1 b2 b3 : Addr} (q0 : P b0) (q1 : P b1) (q2 : P b2) (q3 : P b3) : ∀ x ∈ ([b0, b1, b2, b3] : List Addr), P x := by intro x hx; simp only [List.mem_cons, List.not_mem_nil, or_false] at hx; rcases hx with rfl | rfl | rfl | rfl <;> assumption
theorem own_ni5 {a b0 b1 b2 b3 b4 : Addr} (q0 : a ≠ b0) (q1 : a ≠ b1) (q2 : a ≠ b2) (q3 : a ≠ b3) (q4 : a ≠ b4) : a ∉ ([b0, b1, b2, b3, b4] : List Addr) := by simp [*]
theorem own_all5 {P : Addr → Prop} {b0 b1 b2 b3 b4 : Addr} (q0 : P b0) (q1 : P b1) (q2 : P b2) (q3 : P b3) (q4 : P b4) : ∀ x ∈ ([b0, b1, b2, b3, b4] : List Addr), P x := by intro x hx; simp only [List.mem_cons, List.not_mem_nil, or_false] at hx; rcases hx with rfl | rfl | rfl | rfl | rfl <;> assumption
theorem own_ni6 {a b0 b1 b2 b3 b4 b5 : Addr} (q0 : a ≠ b0) (q1 : a ≠ b1) (q2 : a ≠ b2) (q3 : a ≠ b3) (q4 : a ≠ b4) (q5 : a ≠ b5) : a ∉ ([b0, b1, b2, b3, b4, b5] : List Addr) := by simp [*]
theorem own_all6 {P : Addr → Prop} {b0 b1 b2 b3 b4 b5 : Addr} (q0 : P b0) (q1 : P b1) (q2 : P b2) (q3 : P b3) (q4 : P b4) (q5 : P b5) : ∀ x ∈ ([b0, b1, b2, b3, b4, b5] : List Addr), P x := by intro x hx; simp only [List.mem_cons, List.not_mem_nil, or_false] at hx; rcases hx with rfl | rfl | rfl | rfl | rfl | rfl <;> assumption
theorem own_ni7 {a b0 b1 b2 b3 b4 b5 b6 : Addr} (q0 : a ≠ b0) (q1 : a ≠ b1) (q2 : a ≠ b2) (q3 : a ≠ b3) (q4 : a ≠ b4) (q5 : a ≠ b5) (q6 : a ≠ b6) : a ∉ ([b0, b1, b2, b3, b4, b5, b6] : List Addr) := by simp [*]
theorem own_all7 {P : Addr → Prop} {b0 b1 b2 b3 b4 b5 b6 : Addr} (q0 : P b0) (q1 : P b1) (q2 : P b2) (q3 : P b3) (q4 : P b4) (q5 : P b5) (q6 : P b6) : ∀ x ∈ ([b0, b1, b2, b3, b4, b5, b6] : List Addr), P x := by intro x hx; simp only [List.mem_cons, List.not_mem_nil, or_false] at hx; rcases hx with rfl | rfl | rfl | rfl | rfl | rfl | rfl <;> assumption

open Jvm.Kit
def TH (Z : State) (h : Heap) (a r sc d : Addr) (top k : Int32) (tt : Int64) (cap : Nat) (Rk : Nat → Int64) (Sc : Nat → UInt64) (Dc : Nat → Int64) : Prop := Fld Z h a "org/segmentry/search/TopHits" "m_top" "I" (.int top) ∧ Fld Z h a "org/segmentry/search/TopHits" "m_ranks" "[J" (.ref r) ∧ Fld Z h a "org/segmentry/search/TopHits" "m_scores" "[D" (.ref sc) ∧ Fld Z h a "org/segmentry/search/TopHits" "m_documents" "[J" (.ref d) ∧ Fld Z h a "org/segmentry/search/TopHits" "m_kept" "I" (.int k) ∧ Fld Z h a "org/segmentry/search/TopHits" "m_total" "J" (.long tt) ∧ AV Z h r .long cap (fun j => .long (Rk j)) ∧ AV Z h sc .double cap (fun j => .double (Sc j)) ∧ AV Z h d .long cap (fun j => .long (Dc j))
def own_worse (q1 d1 q2 d2 : Int64) : Int32 := if q2 < q1 then 1 else if q1 = q2 then (if d2 < d1 then 1 else 0) else 0
def own_max (x y : Int64) : Int64 := if x < y then y else x
def own_min (x y : Int64) : Int64 := if y < x then y else x
def own_minI (x y : Int32) : Int32 := if y < x then y else x
def own_adm (k top : Int32) (q x : Int64) : Int32 := if k < top then 1 else if 0 < top then (if q < x then 1 else 0) else 0
def own_worst (n top : Int32) (a b c : Int64) : Int64 := if n = 1 then a else if n = 2 then (if top = 1 then own_min a b else own_max a b) else if top = 1 then own_min (own_min a b) c else if top = 3 then own_max (own_max a b) c else a + b + c - own_min (own_min a b) c - own_max (own_max a b) c
theorem own_up1 {q1 d1 q2 d2 : Int64} (h : ¬ own_worse q1 d1 q2 d2 = 0) : own_max q2 q1 = q1 ∧ own_min q2 q1 = q2 := by
  unfold own_worse at h
  unfold own_max own_min
  by_cases c : q2 < q1
  · rw [if_pos c, if_neg (Int64.lt_asymm c)]; exact ⟨rfl, rfl⟩
  · rw [if_neg c] at h
    by_cases e : q1 = q2
    · subst e; simp
    · rw [if_neg e] at h; exact absurd rfl h
theorem own_up0 {q1 d1 q2 d2 : Int64} (h : own_worse q1 d1 q2 d2 = 0) : own_max q2 q1 = q2 ∧ own_min q2 q1 = q1 := by
  unfold own_worse at h
  unfold own_max own_min
  by_cases c : q2 < q1
  · rw [if_pos c] at h; exact absurd h (by decide)
  · rw [if_neg c]
    refine ⟨rfl, ?_⟩
    by_cases e : q1 < q2
    · rw [if_pos e]
    · rw [if_neg e]
      rw [Int64.lt_iff_toInt_lt] at c e
      exact Int64.toInt_inj.mp (by omega)
theorem own_mid (a b c : Int64) : (if c < own_max a b then own_max (own_min a b) c else own_max a b) = a + b + c - own_min (own_min a b) c - own_max (own_max a b) c := by
  have cm : ∀ x y z : Int64, x + y + z - x - z = y := fun x y z => by rw [Int64.add_assoc, Int64.add_comm x, Int64.add_sub_cancel, Int64.add_sub_cancel]
  have e1 : ∀ x y z : Int64, x + y + z = x + z + y := fun x y z => by rw [Int64.add_assoc, Int64.add_comm y z, Int64.add_assoc]
  have e2 : ∀ x y z : Int64, x + y + z = y + x + z := fun x y z => by rw [Int64.add_comm x y]
  unfold own_max own_min
  by_cases h1 : a < b
  · have n1 : ¬ b < a := Int64.lt_asymm h1
    simp only [if_pos h1, if_neg n1]
    by_cases h2 : c < b
    · have n2 : ¬ b < c := Int64.lt_asymm h2
      simp only [if_pos h2, if_neg n2]
      by_cases h3 : c < a
      · have n3 : ¬ a < c := Int64.lt_asymm h3
        simp only [if_pos h3, if_neg n3]
        rw [e1 a b c, e2 a c b, cm]
      · simp only [if_neg h3]
        by_cases h4 : a < c
        · simp only [if_pos h4]; rw [e1 a b c, cm]
        · have : a = c := Int64.toInt_inj.mp (by rw [Int64.lt_iff_toInt_lt] at h3 h4; omega)
          subst this; simp only [if_neg h4]; rw [e1 a b a, cm]
    · have n3 : ¬ c < a := by rw [Int64.lt_iff_toInt_lt] at h1 h2 ⊢; omega
      simp only [if_neg h2, if_neg n3]
      by_cases h5 : b < c
      · simp only [if_pos h5]; rw [cm]
      · have : b = c := Int64.toInt_inj.mp (by rw [Int64.lt_iff_toInt_lt] at h2 h5; omega)
        subst this; simp only [if_neg h5]; rw [cm]
  · simp only [if_neg h1]
    by_cases h6 : b < a
    · simp only [if_pos h6]
      by_cases h2 : c < a
      · have n2 : ¬ a < c := Int64.lt_asymm h2
        simp only [if_pos h2, if_neg n2]
        by_cases h3 : c < b
        · have n3 : ¬ b < c := Int64.lt_asymm h3
          simp only [if_pos h3, if_neg n3]
          rw [Int64.add_comm (a + b) c, ← Int64.add_assoc, e1 c a b, cm]
        · simp only [if_neg h3]
          by_cases h4 : b < c
          · simp only [if_pos h4]; rw [e2 a b c, e1 b a c, cm]
          · have : b = c := Int64.toInt_inj.mp (by rw [Int64.lt_iff_toInt_lt] at h3 h4; omega)
            subst this; simp only [if_neg h4]; rw [e2 a b b, e1 b a b, cm]
      · have n3 : ¬ c < b := by rw [Int64.lt_iff_toInt_lt] at h2 h6 ⊢; omega
        simp only [if_neg h2, if_neg n3]
        by_cases h5 : a < c
        · simp only [if_pos h5]; rw [e2 a b c, cm]
        · have : a = c := Int64.toInt_inj.mp (by rw [Int64.lt_iff_toInt_lt] at h2 h5; omega)
          subst this; simp only [if_neg h5]; rw [e2 a b a, cm]
    · have ab : a = b := Int64.toInt_inj.mp (by rw [Int64.lt_iff_toInt_lt] at h1 h6; omega)
      subst ab
      simp only [if_neg h1]
      by_cases h2 : c < a
      · have n2 : ¬ a < c := Int64.lt_asymm h2
        simp only [if_pos h2, if_neg n2]
        rw [Int64.add_comm (a + a) c, ← Int64.add_assoc, cm]
      · simp only [if_neg h2]
        by_cases h5 : a < c
        · simp only [if_pos h5]; rw [cm]
        · have : a = c := Int64.toInt_inj.mp (by rw [Int64.lt_iff_toInt_lt] at h2 h5; omega)
          subst this; simp only [if_neg h5]; rw [cm]
theorem own_mx1 {q1 d1 q2 d2 : Int64} (h : ¬ own_worse q1 d1 q2 d2 = 0) : own_max q1 q2 = q1 := by
  have := own_up1 h
  unfold own_max own_min at *
  by_cases c : q1 < q2
  · have n : ¬ q2 < q1 := Int64.lt_asymm c
    rw [if_neg n] at this; rw [if_pos c]; exact this.1
  · rw [if_neg c]
theorem own_mx0 {q1 d1 q2 d2 : Int64} (h : own_worse q1 d1 q2 d2 = 0) : own_max q1 q2 = q2 := by
  have := own_up0 h
  unfold own_max own_min at *
  by_cases c : q1 < q2
  · rw [if_pos c]
  · rw [if_neg c]; rw [if_neg c] at this; exact this.2.symm.trans rfl |>.symm ▸ rfl
theorem own_a1 {k top : Int32} {q x : Int64} (h : ¬ own_adm k top q x = 0) (hk : ¬ k < top := by decide) (ht : 0 < top := by decide) : q < x := by
  unfold own_adm at h
  rw [if_neg hk, if_pos ht] at h
  by_cases c : q < x
  · exact c
  · rw [if_neg c] at h; exact absurd rfl h
theorem own_a0 {k top : Int32} {q x : Int64} (h : own_adm k top q x = 0) (hk : ¬ k < top := by decide) (ht : 0 < top := by decide) : ¬ q < x := fun c => by
  unfold own_adm at h
  rw [if_neg hk, if_pos ht, if_pos c] at h
  exact absurd h (by decide)
theorem own_k1 {k top : Int32} {q x : Int64} (h : ¬ own_adm k top q x = 0) (hk : ¬ k < top := by decide) (ht : 0 < top := by decide) : q = own_min x q := by
  have := own_a1 h hk ht
  unfold own_min; rw [if_pos this]
theorem own_k0 {k top : Int32} {q x : Int64} (h : own_adm k top q x = 0) (hk : ¬ k < top := by decide) (ht : 0 < top := by decide) : x = own_min x q := by
  have := own_a0 h hk ht
  unfold own_min; rw [if_neg this]
theorem pd0 : parseMethodDescriptor "(JJ)J" = some ⟨[.long, .long], some .long⟩ := by decide +kernel
theorem pd1 : parseMethodDescriptor "(II)I" = some ⟨[.int, .int], some .int⟩ := by decide +kernel
theorem pd2 : parseMethodDescriptor "(IJDJ)V" = some ⟨[.int, .long, .double, .long], none⟩ := by decide +kernel
theorem pd3 : parseMethodDescriptor "(JJJJ)Z" = some ⟨[.long, .long, .long, .long], some .boolean⟩ := by decide +kernel
theorem pd4 : parseMethodDescriptor "(II)V" = some ⟨[.int, .int], none⟩ := by decide +kernel
theorem pd5 : parseMethodDescriptor "(J)Z" = some ⟨[.long], some .boolean⟩ := by decide +kernel
theorem pd6 : parseMethodDescriptor "()V" = some ⟨[], none⟩ := by decide +kernel
theorem pd7 : parseMethodDescriptor "(JDII)Z" = some ⟨[.long, .double, .int, .int], some .boolean⟩ := by decide +kernel
theorem pd8 : parseMethodDescriptor "(JDJ)V" = some ⟨[.long, .double, .long], none⟩ := by decide +kernel
theorem pd9 : parseMethodDescriptor "(I)V" = some ⟨[.int], none⟩ := by decide +kernel
theorem pd10 : parseMethodDescriptor "(IIJJJ)J" = some ⟨[.int, .int, .long, .long, .long], some .long⟩ := by decide +kernel
theorem pd11 : parseMethodDescriptor "(JII)Z" = some ⟨[.long, .int, .int], some .boolean⟩ := by decide +kernel
theorem d3_0 : decode jdk_29_method_69_code 0 = .ok (.iload_n 0, 1) := by decide +kernel
theorem d3_1 : decode jdk_29_method_69_code 1 = .ok (.iload_n 1, 1) := by decide +kernel
theorem d3_2 : decode jdk_29_method_69_code 2 = .ok (.if_icmp .gt 7, 3) := by decide +kernel
theorem d3_5 : decode jdk_29_method_69_code 5 = .ok (.iload_n 0, 1) := by decide +kernel
theorem d3_6 : decode jdk_29_method_69_code 6 = .ok (.goto 4, 3) := by decide +kernel
theorem d3_9 : decode jdk_29_method_69_code 9 = .ok (.iload_n 1, 1) := by decide +kernel
theorem d3_10 : decode jdk_29_method_69_code 10 = .ok (.ireturn, 1) := by decide +kernel
theorem pn3 : plainFor (⟨"java/lang/Math", "min", "(II)I"⟩ : MethodName) = true := Jvm.Free.JP.mathPlain rfl (by decide +kernel)
theorem ef_rmMinI (m : MethodId) (x0 : Int32) (x1 : Int32) : entryFrame m #[(.int x0), (.int x1)] 2 = mkF m 0 #[.val (.int x0), .val (.int x1)] [] := by first | (simp [entryFrame, mkF, argsToLocals, Value.category]; done) | rfl
set_option maxRecDepth 65536 in
set_option maxHeartbeats 40000000 in
theorem rmMinI {l : Launch} {Z : State} {a0 : Array Value} (hw : ∀ d ∈ tables_1, d.before a0 Z = true) (p1 p2 : Int32) (h0 : Heap) (n0 : Nat)  :
    Met l Z (⟨"java/lang/Math", "min", "(II)I"⟩ : MethodName) jdk_29_method_69_code 2 (some .int) [] ({ frames := 0, cells := 0, slots := 0, locals := 0 } : Room) #[(.int p1), (.int p2)] h0 (fun v h L => v = some (.int (own_minI p1 p2)) ∧ Fr n0 L ∧ h = h0) := by
  refine Met.mk pn3 ?_
  intro p e s m below meth c T hx hby hml hown hnm hret hlk hZ X eT
  refine Go.cast (ef_rmMinI m p1 p2) ?_
  have N := Fr.nil n0
  show Go p e below s _ _ T (mkF m 0 #[.val (.int p1), .val (.int p2)] [])
  refine Go.of (fun _ kq => XS.iloadN X.here hx rfl (hb hby d3_0) rfl kq) ?_
  show Go p e below s _ _ T (mkF m 1 #[.val (.int p1), .val (.int p2)] [(.int p1)])
  refine Go.of (fun _ kq => XS.iloadN X.here hx rfl (hb hby d3_1) rfl kq) ?_
  show Go p e below s _ _ T (mkF m 2 #[.val (.int p1), .val (.int p2)] [(.int p2), (.int p1)])
  by_cases hc2 : p2 < p1
  · refine Go.of (fun _ kq => XS.icmpYes X.here hx rfl (pc0 := 2) (pc' := 9) rfl (hb hby d3_2) rfl (tlt hc2).2.2.1 (by decide) (by decide) kq) ?_
    show Go p e below s _ _ T (mkF m 9 #[.val (.int p1), .val (.int p2)] [])
    refine Go.of (fun _ kq => XS.iloadN X.here hx rfl (hb hby d3_9) rfl kq) ?_
    show Go p e below s _ _ T (mkF m 10 #[.val (.int p1), .val (.int p2)] [(.int p2)])
    refine Go.retI X hx hret hlk (hb hby d3_10) (by decide) (by decide) ?_
    try rw [eT]
    exact ⟨by rw [show own_minI p1 p2 = p2 by simp [own_minI, hc2]], N, rfl⟩
  · refine Go.of (fun _ kq => XS.icmpNo X.here hx rfl (hb hby d3_2) rfl (flt hc2).2.2.1 kq) ?_
    show Go p e below s _ _ T (mkF m 5 #[.val (.int p1), .val (.int p2)] [])
    refine Go.of (fun _ kq => XS.iloadN X.here hx rfl (hb hby d3_5) rfl kq) ?_
    show Go p e below s _ _ T (mkF m 6 #[.val (.int p1), .val (.int p2)] [(.int p1)])
    refine Go.of (fun _ kq => XS.goto X.here hx rfl (pc0 := 6) (pc' := 10) rfl (hb hby d3_6) (by decide) (by decide) kq) ?_
    show Go p e below s _ _ T (mkF m 10 #[.val (.int p1), .val (.int p2)] [(.int p1)])
    refine Go.retI X hx hret hlk (hb hby d3_10) (by decide) (by decide) ?_
    try rw [eT]
    exact ⟨by rw [show own_minI p1 p2 = p1 by simp [own_minI, hc2]], N, rfl⟩
theorem d14_0 : decode jdk_29_method_70_code 0 = .ok (.lload_n 0, 1) := by decide +kernel
theorem d14_1 : decode jdk_29_method_70_code 1 = .ok (.lload_n 2, 1) := by decide +kernel
theorem d14_2 : decode jdk_29_method_70_code 2 = .ok (.lcmp, 1) := by decide +kernel
theorem d14_3 : decode jdk_29_method_70_code 3 = .ok (.ifCond .gt 7, 3) := by decide +kernel
theorem d14_6 : decode jdk_29_method_70_code 6 = .ok (.lload_n 0, 1) := by decide +kernel
theorem d14_7 : decode jdk_29_method_70_code 7 = .ok (.goto 4, 3) := by decide +kernel
theorem d14_10 : decode jdk_29_method_70_code 10 = .ok (.lload_n 2, 1) := by decide +kernel
theorem d14_11 : decode jdk_29_method_70_code 11 = .ok (.lreturn, 1) := by decide +kernel
theorem pn14 : plainFor (⟨"java/lang/Math", "min", "(JJ)J"⟩ : MethodName) = true := Jvm.Free.JP.mathPlain rfl (by decide +kernel)
theorem ef_rmMinJ (m : MethodId) (x0 : Int64) (x1 : Int64) : entryFrame m #[(.long x0), (.long x1)] 4 = mkF m 0 #[.val (.long x0), .second, .val (.long x1), .second] [] := by first | (simp [entryFrame, mkF, argsToLocals, Value.category]; done) | rfl
set_option maxRecDepth 65536 in
set_option maxHeartbeats 40000000 in
theorem rmMinJ {l : Launch} {Z : State} {a0 : Array Value} (hw : ∀ d ∈ tables_1, d.before a0 Z = true) (q1 q2 : Int64) (h0 : Heap) (n0 : Nat)  :
    Met l Z (⟨"java/lang/Math", "min", "(JJ)J"⟩ : MethodName) jdk_29_method_70_code 4 (some .long) [] ({ frames := 0, cells := 0, slots := 0, locals := 0 } : Room) #[(.long q1), (.long q2)] h0 (fun v h L => v = some (.long (own_min q1 q2)) ∧ Fr n0 L ∧ h = h0) := by
  refine Met.mk pn14 ?_
  intro p e s m below meth c T hx hby hml hown hnm hret hlk hZ X eT
  refine Go.cast (ef_rmMinJ m q1 q2) ?_
  have N := Fr.nil n0
  show Go p e below s _ _ T (mkF m 0 #[.val (.long q1), .second, .val (.long q2), .second] [])
  refine Go.of (fun _ kq => XS.lloadN X.here hx rfl (hb hby d14_0) rfl kq) ?_
  show Go p e below s _ _ T (mkF m 1 #[.val (.long q1), .second, .val (.long q2), .second] [(.long q1)])
  refine Go.of (fun _ kq => XS.lloadN X.here hx rfl (hb hby d14_1) rfl kq) ?_
  show Go p e below s _ _ T (mkF m 2 #[.val (.long q1), .second, .val (.long q2), .second] [(.long q2), (.long q1)])
  refine Go.of (fun _ kq => XS.lcmp X.here hx rfl (hb hby d14_2) rfl kq) ?_
  show Go p e below s _ _ T (mkF m 3 #[.val (.long q1), .second, .val (.long q2), .second] [(.int (lcmpW q1 q2))])
  by_cases hc3 : q2 < q1
  · refine Go.of (fun _ kq => XS.ifYes X.here hx rfl (pc0 := 3) (pc' := 10) rfl (hb hby d14_3) rfl (cZgt hc3).1 (by decide) (by decide) kq) ?_
    show Go p e below s _ _ T (mkF m 10 #[.val (.long q1), .second, .val (.long q2), .second] [])
    refine Go.of (fun _ kq => XS.lloadN X.here hx rfl (hb hby d14_10) rfl kq) ?_
    show Go p e below s _ _ T (mkF m 11 #[.val (.long q1), .second, .val (.long q2), .second] [(.long q2)])
    refine Go.retJ X hx hret hlk (hb hby d14_11) (by decide) (by decide) ?_
    try rw [eT]
    exact ⟨by rw [show own_min q1 q2 = q2 by simp [own_min, hc3]], N, rfl⟩
  · refine Go.of (fun _ kq => XS.ifNo X.here hx rfl (hb hby d14_3) rfl (cFgt hc3).1 kq) ?_
    show Go p e below s _ _ T (mkF m 6 #[.val (.long q1), .second, .val (.long q2), .second] [])
    refine Go.of (fun _ kq => XS.lloadN X.here hx rfl (hb hby d14_6) rfl kq) ?_
    show Go p e below s _ _ T (mkF m 7 #[.val (.long q1), .second, .val (.long q2), .second] [(.long q1)])
    refine Go.of (fun _ kq => XS.goto X.here hx rfl (pc0 := 7) (pc' := 11) rfl (hb hby d14_7) (by decide) (by decide) kq) ?_
    show Go p e below s _ _ T (mkF m 11 #[.val (.long q1), .second, .val (.long q2), .second] [(.long q1)])
    refine Go.retJ X hx hret hlk (hb hby d14_11) (by decide) (by decide) ?_
    try rw [eT]
    exact ⟨by rw [show own_min q1 q2 = q1 by simp [own_min, hc3]], N, rfl⟩
theorem d13_0 : decode jdk_29_method_66_code 0 = .ok (.lload_n 0, 1) := by decide +kernel
theorem d13_1 : decode jdk_29_method_66_code 1 = .ok (.lload_n 2, 1) := by decide +kernel
theorem d13_2 : decode jdk_29_method_66_code 2 = .ok (.lcmp, 1) := by decide +kernel
theorem d13_3 : decode jdk_29_method_66_code 3 = .ok (.ifCond .lt 7, 3) := by decide +kernel
theorem d13_6 : decode jdk_29_method_66_code 6 = .ok (.lload_n 0, 1) := by decide +kernel
theorem d13_7 : decode jdk_29_method_66_code 7 = .ok (.goto 4, 3) := by decide +kernel
theorem d13_10 : decode jdk_29_method_66_code 10 = .ok (.lload_n 2, 1) := by decide +kernel
theorem d13_11 : decode jdk_29_method_66_code 11 = .ok (.lreturn, 1) := by decide +kernel
theorem pn13 : plainFor (⟨"java/lang/Math", "max", "(JJ)J"⟩ : MethodName) = true := Jvm.Free.JP.mathPlain rfl (by decide +kernel)
theorem ef_rmMaxJ (m : MethodId) (x0 : Int64) (x1 : Int64) : entryFrame m #[(.long x0), (.long x1)] 4 = mkF m 0 #[.val (.long x0), .second, .val (.long x1), .second] [] := by first | (simp [entryFrame, mkF, argsToLocals, Value.category]; done) | rfl
set_option maxRecDepth 65536 in
set_option maxHeartbeats 40000000 in
theorem rmMaxJ {l : Launch} {Z : State} {a0 : Array Value} (hw : ∀ d ∈ tables_1, d.before a0 Z = true) (q1 q2 : Int64) (h0 : Heap) (n0 : Nat)  :
    Met l Z (⟨"java/lang/Math", "max", "(JJ)J"⟩ : MethodName) jdk_29_method_66_code 4 (some .long) [] ({ frames := 0, cells := 0, slots := 0, locals := 0 } : Room) #[(.long q1), (.long q2)] h0 (fun v h L => v = some (.long (own_max q1 q2)) ∧ Fr n0 L ∧ h = h0) := by
  refine Met.mk pn13 ?_
  intro p e s m below meth c T hx hby hml hown hnm hret hlk hZ X eT
  refine Go.cast (ef_rmMaxJ m q1 q2) ?_
  have N := Fr.nil n0
  show Go p e below s _ _ T (mkF m 0 #[.val (.long q1), .second, .val (.long q2), .second] [])
  refine Go.of (fun _ kq => XS.lloadN X.here hx rfl (hb hby d13_0) rfl kq) ?_
  show Go p e below s _ _ T (mkF m 1 #[.val (.long q1), .second, .val (.long q2), .second] [(.long q1)])
  refine Go.of (fun _ kq => XS.lloadN X.here hx rfl (hb hby d13_1) rfl kq) ?_
  show Go p e below s _ _ T (mkF m 2 #[.val (.long q1), .second, .val (.long q2), .second] [(.long q2), (.long q1)])
  refine Go.of (fun _ kq => XS.lcmp X.here hx rfl (hb hby d13_2) rfl kq) ?_
  show Go p e below s _ _ T (mkF m 3 #[.val (.long q1), .second, .val (.long q2), .second] [(.int (lcmpW q1 q2))])
  by_cases hc3 : q1 < q2
  · refine Go.of (fun _ kq => XS.ifYes X.here hx rfl (pc0 := 3) (pc' := 10) rfl (hb hby d13_3) rfl (cZlt hc3).1 (by decide) (by decide) kq) ?_
    show Go p e below s _ _ T (mkF m 10 #[.val (.long q1), .second, .val (.long q2), .second] [])
    refine Go.of (fun _ kq => XS.lloadN X.here hx rfl (hb hby d13_10) rfl kq) ?_
    show Go p e below s _ _ T (mkF m 11 #[.val (.long q1), .second, .val (.long q2), .second] [(.long q2)])
    refine Go.retJ X hx hret hlk (hb hby d13_11) (by decide) (by decide) ?_
    try rw [eT]
    exact ⟨by rw [show own_max q1 q2 = q2 by simp [own_max, hc3]], N, rfl⟩
  · refine Go.of (fun _ kq => XS.ifNo X.here hx rfl (hb hby d13_3) rfl (cFlt hc3).1 kq) ?_
    show Go p e below s _ _ T (mkF m 6 #[.val (.long q1), .second, .val (.long q2), .second] [])
    refine Go.of (fun _ kq => XS.lloadN X.here hx rfl (hb hby d13_6) rfl kq) ?_
    show Go p e below s _ _ T (mkF m 7 #[.val (.long q1), .second, .val (.long q2), .second] [(.long q1)])
    refine Go.of (fun _ kq => XS.goto X.here hx rfl (pc0 := 7) (pc' := 11) rfl (hb hby d13_7) (by decide) (by decide) kq) ?_
    show Go p e below s _ _ T (mkF m 11 #[.val (.long q1), .second, .val (.long q2), .second] [(.long q1)])
    refine Go.retJ X hx hret hlk (hb hby d13_11) (by decide) (by decide) ?_
    try rw [eT]
    exact ⟨by rw [show own_max q1 q2 = q1 by simp [own_max, hc3]], N, rfl⟩
theorem d12_0 : decode method_3_code 0 = .ok (.iload_n 0, 1) := by decide +kernel
theorem d12_1 : decode method_3_code 1 = .ok (.iconst 1, 1) := by decide +kernel
theorem d12_2 : decode method_3_code 2 = .ok (.if_icmp .ne 5, 3) := by decide +kernel
theorem d12_5 : decode method_3_code 5 = .ok (.lload_n 2, 1) := by decide +kernel
theorem d12_6 : decode method_3_code 6 = .ok (.lreturn, 1) := by decide +kernel
theorem d12_7 : decode method_3_code 7 = .ok (.iload_n 0, 1) := by decide +kernel
theorem d12_8 : decode method_3_code 8 = .ok (.iconst 2, 1) := by decide +kernel
theorem d12_9 : decode method_3_code 9 = .ok (.if_icmp .ne 24, 3) := by decide +kernel
theorem d12_12 : decode method_3_code 12 = .ok (.iload_n 1, 1) := by decide +kernel
theorem d12_13 : decode method_3_code 13 = .ok (.iconst 1, 1) := by decide +kernel
theorem d12_14 : decode method_3_code 14 = .ok (.if_icmp .ne 12, 3) := by decide +kernel
theorem d12_17 : decode method_3_code 17 = .ok (.lload_n 2, 1) := by decide +kernel
theorem d12_18 : decode method_3_code 18 = .ok (.lload 4, 2) := by decide +kernel
theorem d12_20 : decode method_3_code 20 = .ok (.invokestatic 32, 3) := by decide +kernel
theorem d12_23 : decode method_3_code 23 = .ok (.goto 9, 3) := by decide +kernel
theorem d12_26 : decode method_3_code 26 = .ok (.lload_n 2, 1) := by decide +kernel
theorem d12_27 : decode method_3_code 27 = .ok (.lload 4, 2) := by decide +kernel
theorem d12_29 : decode method_3_code 29 = .ok (.invokestatic 35, 3) := by decide +kernel
theorem d12_32 : decode method_3_code 32 = .ok (.lreturn, 1) := by decide +kernel
theorem d12_33 : decode method_3_code 33 = .ok (.lload_n 2, 1) := by decide +kernel
theorem d12_34 : decode method_3_code 34 = .ok (.lload 4, 2) := by decide +kernel
theorem d12_36 : decode method_3_code 36 = .ok (.invokestatic 32, 3) := by decide +kernel
theorem d12_39 : decode method_3_code 39 = .ok (.lload 6, 2) := by decide +kernel
theorem d12_41 : decode method_3_code 41 = .ok (.invokestatic 32, 3) := by decide +kernel
theorem d12_44 : decode method_3_code 44 = .ok (.lstore 8, 2) := by decide +kernel
theorem d12_46 : decode method_3_code 46 = .ok (.lload_n 2, 1) := by decide +kernel
theorem d12_47 : decode method_3_code 47 = .ok (.lload 4, 2) := by decide +kernel
theorem d12_49 : decode method_3_code 49 = .ok (.invokestatic 35, 3) := by decide +kernel
theorem d12_52 : decode method_3_code 52 = .ok (.lload 6, 2) := by decide +kernel
theorem d12_54 : decode method_3_code 54 = .ok (.invokestatic 35, 3) := by decide +kernel
theorem d12_57 : decode method_3_code 57 = .ok (.lstore 10, 2) := by decide +kernel
theorem d12_59 : decode method_3_code 59 = .ok (.iload_n 1, 1) := by decide +kernel
theorem d12_60 : decode method_3_code 60 = .ok (.iconst 1, 1) := by decide +kernel
theorem d12_61 : decode method_3_code 61 = .ok (.if_icmp .ne 6, 3) := by decide +kernel
theorem d12_64 : decode method_3_code 64 = .ok (.lload 8, 2) := by decide +kernel
theorem d12_66 : decode method_3_code 66 = .ok (.lreturn, 1) := by decide +kernel
theorem d12_67 : decode method_3_code 67 = .ok (.iload_n 1, 1) := by decide +kernel
theorem d12_68 : decode method_3_code 68 = .ok (.iconst 3, 1) := by decide +kernel
theorem d12_69 : decode method_3_code 69 = .ok (.if_icmp .ne 6, 3) := by decide +kernel
theorem d12_72 : decode method_3_code 72 = .ok (.lload 10, 2) := by decide +kernel
theorem d12_74 : decode method_3_code 74 = .ok (.lreturn, 1) := by decide +kernel
theorem d12_75 : decode method_3_code 75 = .ok (.lload_n 2, 1) := by decide +kernel
theorem d12_76 : decode method_3_code 76 = .ok (.lload 4, 2) := by decide +kernel
theorem d12_78 : decode method_3_code 78 = .ok (.ladd, 1) := by decide +kernel
theorem d12_79 : decode method_3_code 79 = .ok (.lload 6, 2) := by decide +kernel
theorem d12_81 : decode method_3_code 81 = .ok (.ladd, 1) := by decide +kernel
theorem d12_82 : decode method_3_code 82 = .ok (.lload 8, 2) := by decide +kernel
theorem d12_84 : decode method_3_code 84 = .ok (.lsub, 1) := by decide +kernel
theorem d12_85 : decode method_3_code 85 = .ok (.lload 10, 2) := by decide +kernel
theorem d12_87 : decode method_3_code 87 = .ok (.lsub, 1) := by decide +kernel
theorem d12_88 : decode method_3_code 88 = .ok (.lreturn, 1) := by decide +kernel
theorem pn12 : plainFor (⟨"org/segmentry/search/TopHitsAdmitsPinLaw", "worst", "(IIJJJ)J"⟩ : MethodName) = true := plainFor_of_name (by first | (simp [plainName, overriddenIn]; done) | decide +kernel)
theorem ef_rmWorst (m : MethodId) (x0 : Int32) (x1 : Int32) (x2 : Int64) (x3 : Int64) (x4 : Int64) : entryFrame m #[(.int x0), (.int x1), (.long x2), (.long x3), (.long x4)] 12 = mkF m 0 #[.val (.int x0), .val (.int x1), .val (.long x2), .second, .val (.long x3), .second, .val (.long x4), .second, .unset, .unset, .unset, .unset] [] := by first | (simp [entryFrame, mkF, argsToLocals, Value.category]; done) | rfl
set_option maxRecDepth 65536 in
set_option maxHeartbeats 40000000 in
theorem rmWorst {l : Launch} {Z : State} {a0 : Array Value} (hw : ∀ d ∈ tables_1, d.before a0 Z = true) (n top : Int32) (q1 q2 q3 : Int64) (h0 : Heap) (n0 : Nat)  :
    Met l Z (⟨"org/segmentry/search/TopHitsAdmitsPinLaw", "worst", "(IIJJJ)J"⟩ : MethodName) method_3_code 12 (some .long) [] ({ frames := 1, cells := 0, slots := 0, locals := 19 } : Room) #[(.int n), (.int top), (.long q1), (.long q2), (.long q3)] h0 (fun v h L => v = some (.long (own_worst n top q1 q2 q3)) ∧ Fr n0 L ∧ h = h0) := by
  refine Met.mk pn12 ?_
  intro p e s m below meth c T hx hby hml hown hnm hret hlk hZ X eT
  refine Go.cast (ef_rmWorst m n top q1 q2 q3) ?_
  have N := Fr.nil n0
  show Go p e below s _ _ T (mkF m 0 #[.val (.int n), .val (.int top), .val (.long q1), .second, .val (.long q2), .second, .val (.long q3), .second, .unset, .unset, .unset, .unset] [])
  refine Go.of (fun _ kq => XS.iloadN X.here hx rfl (hb hby d12_0) rfl kq) ?_
  show Go p e below s _ _ T (mkF m 1 #[.val (.int n), .val (.int top), .val (.long q1), .second, .val (.long q2), .second, .val (.long q3), .second, .unset, .unset, .unset, .unset] [(.int n)])
  refine Go.of (fun _ kq => XS.iconst X.here hx rfl (hb hby d12_1) kq) ?_
  show Go p e below s _ _ T (mkF m 2 #[.val (.int n), .val (.int top), .val (.long q1), .second, .val (.long q2), .second, .val (.long q3), .second, .unset, .unset, .unset, .unset] [(.int (1 : Int32)), (.int n)])
  by_cases hc2 : n = (1 : Int32)
  · refine Go.of (fun _ kq => XS.icmpNo X.here hx rfl (hb hby d12_2) rfl (teq hc2).2 kq) ?_
    show Go p e below s _ _ T (mkF m 5 #[.val (.int n), .val (.int top), .val (.long q1), .second, .val (.long q2), .second, .val (.long q3), .second, .unset, .unset, .unset, .unset] [])
    refine Go.of (fun _ kq => XS.lloadN X.here hx rfl (hb hby d12_5) rfl kq) ?_
    show Go p e below s _ _ T (mkF m 6 #[.val (.int n), .val (.int top), .val (.long q1), .second, .val (.long q2), .second, .val (.long q3), .second, .unset, .unset, .unset, .unset] [(.long q1)])
    refine Go.retJ X hx hret hlk (hb hby d12_6) (by decide) (by decide) ?_
    try rw [eT]
    exact ⟨by simp only [own_worst, if_pos hc2], N, rfl⟩
  · refine Go.of (fun _ kq => XS.icmpYes X.here hx rfl (pc0 := 2) (pc' := 7) rfl (hb hby d12_2) rfl (feq hc2).2 (by decide) (by decide) kq) ?_
    show Go p e below s _ _ T (mkF m 7 #[.val (.int n), .val (.int top), .val (.long q1), .second, .val (.long q2), .second, .val (.long q3), .second, .unset, .unset, .unset, .unset] [])
    refine Go.of (fun _ kq => XS.iloadN X.here hx rfl (hb hby d12_7) rfl kq) ?_
    show Go p e below s _ _ T (mkF m 8 #[.val (.int n), .val (.int top), .val (.long q1), .second, .val (.long q2), .second, .val (.long q3), .second, .unset, .unset, .unset, .unset] [(.int n)])
    refine Go.of (fun _ kq => XS.iconst X.here hx rfl (hb hby d12_8) kq) ?_
    show Go p e below s _ _ T (mkF m 9 #[.val (.int n), .val (.int top), .val (.long q1), .second, .val (.long q2), .second, .val (.long q3), .second, .unset, .unset, .unset, .unset] [(.int (2 : Int32)), (.int n)])
    by_cases hc9 : n = (2 : Int32)
    · refine Go.of (fun _ kq => XS.icmpNo X.here hx rfl (hb hby d12_9) rfl (teq hc9).2 kq) ?_
      show Go p e below s _ _ T (mkF m 12 #[.val (.int n), .val (.int top), .val (.long q1), .second, .val (.long q2), .second, .val (.long q3), .second, .unset, .unset, .unset, .unset] [])
      refine Go.of (fun _ kq => XS.iloadN X.here hx rfl (hb hby d12_12) rfl kq) ?_
      show Go p e below s _ _ T (mkF m 13 #[.val (.int n), .val (.int top), .val (.long q1), .second, .val (.long q2), .second, .val (.long q3), .second, .unset, .unset, .unset, .unset] [(.int top)])
      refine Go.of (fun _ kq => XS.iconst X.here hx rfl (hb hby d12_13) kq) ?_
      show Go p e below s _ _ T (mkF m 14 #[.val (.int n), .val (.int top), .val (.long q1), .second, .val (.long q2), .second, .val (.long q3), .second, .unset, .unset, .unset, .unset] [(.int (1 : Int32)), (.int top)])
      by_cases hc14 : top = (1 : Int32)
      · refine Go.of (fun _ kq => XS.icmpNo X.here hx rfl (hb hby d12_14) rfl (teq hc14).2 kq) ?_
        show Go p e below s _ _ T (mkF m 17 #[.val (.int n), .val (.int top), .val (.long q1), .second, .val (.long q2), .second, .val (.long q3), .second, .unset, .unset, .unset, .unset] [])
        refine Go.of (fun _ kq => XS.lloadN X.here hx rfl (hb hby d12_17) rfl kq) ?_
        show Go p e below s _ _ T (mkF m 18 #[.val (.int n), .val (.int top), .val (.long q1), .second, .val (.long q2), .second, .val (.long q3), .second, .unset, .unset, .unset, .unset] [(.long q1)])
        refine Go.of (fun _ kq => XS.lload X.here hx rfl (hb hby d12_18) rfl kq) ?_
        show Go p e below s _ _ T (mkF m 20 #[.val (.int n), .val (.int top), .val (.long q1), .second, .val (.long q2), .second, .val (.long q3), .second, .unset, .unset, .unset, .unset] [(.long q2), (.long q1)])
        refine Go.static X hx hZ hown (hw _ (List.mem_of_getElem? (i := 70) rfl)) (hw _ (List.mem_of_getElem? (i := 71) rfl)) (hw _ (List.mem_of_getElem? (i := 13) rfl)) (hw _ (List.mem_of_getElem? (i := 72) rfl)) (by decide) (rmMinJ hw q1 q2 _ n0) eT 0 (by decide) (by decide) (by decide) (by decide) (by rw [hml]; rfl) (argsL := [(.long q1), (.long q2)]) [] (lenOf pd0 rfl) rfl rfl (Nat.le_of_eq rfl) (hb hby d12_20) ?_
        intro v T L' X hQ
        obtain ⟨rfl, N', eT⟩ := hQ
        have N := Fr.app N N'
        show Go p e below s _ _ T (mkF m 23 #[.val (.int n), .val (.int top), .val (.long q1), .second, .val (.long q2), .second, .val (.long q3), .second, .unset, .unset, .unset, .unset] [(.long (own_min q1 q2))])
        refine Go.of (fun _ kq => XS.goto X.here hx rfl (pc0 := 23) (pc' := 32) rfl (hb hby d12_23) (by decide) (by decide) kq) ?_
        show Go p e below s _ _ T (mkF m 32 #[.val (.int n), .val (.int top), .val (.long q1), .second, .val (.long q2), .second, .val (.long q3), .second, .unset, .unset, .unset, .unset] [(.long (own_min q1 q2))])
        refine Go.retJ X hx hret hlk (hb hby d12_32) (by decide) (by decide) ?_
        try rw [eT]
        exact ⟨by simp only [own_worst, if_neg hc2, if_pos hc9, if_pos hc14], N, rfl⟩
      · refine Go.of (fun _ kq => XS.icmpYes X.here hx rfl (pc0 := 14) (pc' := 26) rfl (hb hby d12_14) rfl (feq hc14).2 (by decide) (by decide) kq) ?_
        show Go p e below s _ _ T (mkF m 26 #[.val (.int n), .val (.int top), .val (.long q1), .second, .val (.long q2), .second, .val (.long q3), .second, .unset, .unset, .unset, .unset] [])
        refine Go.of (fun _ kq => XS.lloadN X.here hx rfl (hb hby d12_26) rfl kq) ?_
        show Go p e below s _ _ T (mkF m 27 #[.val (.int n), .val (.int top), .val (.long q1), .second, .val (.long q2), .second, .val (.long q3), .second, .unset, .unset, .unset, .unset] [(.long q1)])
        refine Go.of (fun _ kq => XS.lload X.here hx rfl (hb hby d12_27) rfl kq) ?_
        show Go p e below s _ _ T (mkF m 29 #[.val (.int n), .val (.int top), .val (.long q1), .second, .val (.long q2), .second, .val (.long q3), .second, .unset, .unset, .unset, .unset] [(.long q2), (.long q1)])
        refine Go.static X hx hZ hown (hw _ (List.mem_of_getElem? (i := 67) rfl)) (hw _ (List.mem_of_getElem? (i := 68) rfl)) (hw _ (List.mem_of_getElem? (i := 13) rfl)) (hw _ (List.mem_of_getElem? (i := 69) rfl)) (by decide) (rmMaxJ hw q1 q2 _ n0) eT 0 (by decide) (by decide) (by decide) (by decide) (by rw [hml]; rfl) (argsL := [(.long q1), (.long q2)]) [] (lenOf pd0 rfl) rfl rfl (Nat.le_of_eq rfl) (hb hby d12_29) ?_
        intro v T L' X hQ
        obtain ⟨rfl, N', eT⟩ := hQ
        have N := Fr.app N N'
        show Go p e below s _ _ T (mkF m 32 #[.val (.int n), .val (.int top), .val (.long q1), .second, .val (.long q2), .second, .val (.long q3), .second, .unset, .unset, .unset, .unset] [(.long (own_max q1 q2))])
        refine Go.retJ X hx hret hlk (hb hby d12_32) (by decide) (by decide) ?_
        try rw [eT]
        exact ⟨by simp only [own_worst, if_neg hc2, if_pos hc9, if_neg hc14], N, rfl⟩
    · refine Go.of (fun _ kq => XS.icmpYes X.here hx rfl (pc0 := 9) (pc' := 33) rfl (hb hby d12_9) rfl (feq hc9).2 (by decide) (by decide) kq) ?_
      show Go p e below s _ _ T (mkF m 33 #[.val (.int n), .val (.int top), .val (.long q1), .second, .val (.long q2), .second, .val (.long q3), .second, .unset, .unset, .unset, .unset] [])
      refine Go.of (fun _ kq => XS.lloadN X.here hx rfl (hb hby d12_33) rfl kq) ?_
      show Go p e below s _ _ T (mkF m 34 #[.val (.int n), .val (.int top), .val (.long q1), .second, .val (.long q2), .second, .val (.long q3), .second, .unset, .unset, .unset, .unset] [(.long q1)])
      refine Go.of (fun _ kq => XS.lload X.here hx rfl (hb hby d12_34) rfl kq) ?_
      show Go p e below s _ _ T (mkF m 36 #[.val (.int n), .val (.int top), .val (.long q1), .second, .val (.long q2), .second, .val (.long q3), .second, .unset, .unset, .unset, .unset] [(.long q2), (.long q1)])
      refine Go.static X hx hZ hown (hw _ (List.mem_of_getElem? (i := 70) rfl)) (hw _ (List.mem_of_getElem? (i := 71) rfl)) (hw _ (List.mem_of_getElem? (i := 13) rfl)) (hw _ (List.mem_of_getElem? (i := 72) rfl)) (by decide) (rmMinJ hw q1 q2 _ n0) eT 0 (by decide) (by decide) (by decide) (by decide) (by rw [hml]; rfl) (argsL := [(.long q1), (.long q2)]) [] (lenOf pd0 rfl) rfl rfl (Nat.le_of_eq rfl) (hb hby d12_36) ?_
      intro v T L' X hQ
      obtain ⟨rfl, N', eT⟩ := hQ
      have N := Fr.app N N'
      show Go p e below s _ _ T (mkF m 39 #[.val (.int n), .val (.int top), .val (.long q1), .second, .val (.long q2), .second, .val (.long q3), .second, .unset, .unset, .unset, .unset] [(.long (own_min q1 q2))])
      refine Go.of (fun _ kq => XS.lload X.here hx rfl (hb hby d12_39) rfl kq) ?_
      show Go p e below s _ _ T (mkF m 41 #[.val (.int n), .val (.int top), .val (.long q1), .second, .val (.long q2), .second, .val (.long q3), .second, .unset, .unset, .unset, .unset] [(.long q3), (.long (own_min q1 q2))])
      refine Go.static X hx hZ hown (hw _ (List.mem_of_getElem? (i := 70) rfl)) (hw _ (List.mem_of_getElem? (i := 71) rfl)) (hw _ (List.mem_of_getElem? (i := 13) rfl)) (hw _ (List.mem_of_getElem? (i := 72) rfl)) (by decide) (rmMinJ hw (own_min q1 q2) q3 _ n0) eT 0 (by decide) (by decide) (by decide) (by decide) (by rw [hml]; rfl) (argsL := [(.long (own_min q1 q2)), (.long q3)]) [] (lenOf pd0 rfl) rfl rfl (Nat.le_of_eq rfl) (hb hby d12_41) ?_
      intro v T L' X hQ
      obtain ⟨rfl, N', eT⟩ := hQ
      have N := Fr.app N N'
      show Go p e below s _ _ T (mkF m 44 #[.val (.int n), .val (.int top), .val (.long q1), .second, .val (.long q2), .second, .val (.long q3), .second, .unset, .unset, .unset, .unset] [(.long (own_min (own_min q1 q2) q3))])
      refine Go.of (fun _ kq => XS.lstore X.here hx rfl (hb hby d12_44) rfl (l' := #[.val (.int n), .val (.int top), .val (.long q1), .second, .val (.long q2), .second, .val (.long q3), .second, .val (.long (own_min (own_min q1 q2) q3)), .second, .unset, .unset]) rfl kq) ?_
      show Go p e below s _ _ T (mkF m 46 #[.val (.int n), .val (.int top), .val (.long q1), .second, .val (.long q2), .second, .val (.long q3), .second, .val (.long (own_min (own_min q1 q2) q3)), .second, .unset, .unset] [])
      refine Go.of (fun _ kq => XS.lloadN X.here hx rfl (hb hby d12_46) rfl kq) ?_
      show Go p e below s _ _ T (mkF m 47 #[.val (.int n), .val (.int top), .val (.long q1), .second, .val (.long q2), .second, .val (.long q3), .second, .val (.long (own_min (own_min q1 q2) q3)), .second, .unset, .unset] [(.long q1)])
      refine Go.of (fun _ kq => XS.lload X.here hx rfl (hb hby d12_47) rfl kq) ?_
      show Go p e below s _ _ T (mkF m 49 #[.val (.int n), .val (.int top), .val (.long q1), .second, .val (.long q2), .second, .val (.long q3), .second, .val (.long (own_min (own_min q1 q2) q3)), .second, .unset, .unset] [(.long q2), (.long q1)])
      refine Go.static X hx hZ hown (hw _ (List.mem_of_getElem? (i := 67) rfl)) (hw _ (List.mem_of_getElem? (i := 68) rfl)) (hw _ (List.mem_of_getElem? (i := 13) rfl)) (hw _ (List.mem_of_getElem? (i := 69) rfl)) (by decide) (rmMaxJ hw q1 q2 _ n0) eT 0 (by decide) (by decide) (by decide) (by decide) (by rw [hml]; rfl) (argsL := [(.long q1), (.long q2)]) [] (lenOf pd0 rfl) rfl rfl (Nat.le_of_eq rfl) (hb hby d12_49) ?_
      intro v T L' X hQ
      obtain ⟨rfl, N', eT⟩ := hQ
      have N := Fr.app N N'
      show Go p e below s _ _ T (mkF m 52 #[.val (.int n), .val (.int top), .val (.long q1), .second, .val (.long q2), .second, .val (.long q3), .second, .val (.long (own_min (own_min q1 q2) q3)), .second, .unset, .unset] [(.long (own_max q1 q2))])
      refine Go.of (fun _ kq => XS.lload X.here hx rfl (hb hby d12_52) rfl kq) ?_
      show Go p e below s _ _ T (mkF m 54 #[.val (.int n), .val (.int top), .val (.long q1), .second, .val (.long q2), .second, .val (.long q3), .second, .val (.long (own_min (own_min q1 q2) q3)), .second, .unset, .unset] [(.long q3), (.long (own_max q1 q2))])
      refine Go.static X hx hZ hown (hw _ (List.mem_of_getElem? (i := 67) rfl)) (hw _ (List.mem_of_getElem? (i := 68) rfl)) (hw _ (List.mem_of_getElem? (i := 13) rfl)) (hw _ (List.mem_of_getElem? (i := 69) rfl)) (by decide) (rmMaxJ hw (own_max q1 q2) q3 _ n0) eT 0 (by decide) (by decide) (by decide) (by decide) (by rw [hml]; rfl) (argsL := [(.long (own_max q1 q2)), (.long q3)]) [] (lenOf pd0 rfl) rfl rfl (Nat.le_of_eq rfl) (hb hby d12_54) ?_
      intro v T L' X hQ
      obtain ⟨rfl, N', eT⟩ := hQ
      have N := Fr.app N N'
      show Go p e below s _ _ T (mkF m 57 #[.val (.int n), .val (.int top), .val (.long q1), .second, .val (.long q2), .second, .val (.long q3), .second, .val (.long (own_min (own_min q1 q2) q3)), .second, .unset, .unset] [(.long (own_max (own_max q1 q2) q3))])
      refine Go.of (fun _ kq => XS.lstore X.here hx rfl (hb hby d12_57) rfl (l' := #[.val (.int n), .val (.int top), .val (.long q1), .second, .val (.long q2), .second, .val (.long q3), .second, .val (.long (own_min (own_min q1 q2) q3)), .second, .val (.long (own_max (own_max q1 q2) q3)), .second]) rfl kq) ?_
      show Go p e below s _ _ T (mkF m 59 #[.val (.int n), .val (.int top), .val (.long q1), .second, .val (.long q2), .second, .val (.long q3), .second, .val (.long (own_min (own_min q1 q2) q3)), .second, .val (.long (own_max (own_max q1 q2) q3)), .second] [])
      refine Go.of (fun _ kq => XS.iloadN X.here hx rfl (hb hby d12_59) rfl kq) ?_
      show Go p e below s _ _ T (mkF m 60 #[.val (.int n), .val (.int top), .val (.long q1), .second, .val (.long q2), .second, .val (.long q3), .second, .val (.long (own_min (own_min q1 q2) q3)), .second, .val (.long (own_max (own_max q1 q2) q3)), .second] [(.int top)])
      refine Go.of (fun _ kq => XS.iconst X.here hx rfl (hb hby d12_60) kq) ?_
      show Go p e below s _ _ T (mkF m 61 #[.val (.int n), .val (.int top), .val (.long q1), .second, .val (.long q2), .second, .val (.long q3), .second, .val (.long (own_min (own_min q1 q2) q3)), .second, .val (.long (own_max (own_max q1 q2) q3)), .second] [(.int (1 : Int32)), (.int top)])
      by_cases hc61 : top = (1 : Int32)
      · refine Go.of (fun _ kq => XS.icmpNo X.here hx rfl (hb hby d12_61) rfl (teq hc61).2 kq) ?_
        show Go p e below s _ _ T (mkF m 64 #[.val (.int n), .val (.int top), .val (.long q1), .second, .val (.long q2), .second, .val (.long q3), .second, .val (.long (own_min (own_min q1 q2) q3)), .second, .val (.long (own_max (own_max q1 q2) q3)), .second] [])
        refine Go.of (fun _ kq => XS.lload X.here hx rfl (hb hby d12_64) rfl kq) ?_
        show Go p e below s _ _ T (mkF m 66 #[.val (.int n), .val (.int top), .val (.long q1), .second, .val (.long q2), .second, .val (.long q3), .second, .val (.long (own_min (own_min q1 q2) q3)), .second, .val (.long (own_max (own_max q1 q2) q3)), .second] [(.long (own_min (own_min q1 q2) q3))])
        refine Go.retJ X hx hret hlk (hb hby d12_66) (by decide) (by decide) ?_
        try rw [eT]
        exact ⟨by simp only [own_worst, if_neg hc2, if_neg hc9, if_pos hc61], N, rfl⟩
      · refine Go.of (fun _ kq => XS.icmpYes X.here hx rfl (pc0 := 61) (pc' := 67) rfl (hb hby d12_61) rfl (feq hc61).2 (by decide) (by decide) kq) ?_
        show Go p e below s _ _ T (mkF m 67 #[.val (.int n), .val (.int top), .val (.long q1), .second, .val (.long q2), .second, .val (.long q3), .second, .val (.long (own_min (own_min q1 q2) q3)), .second, .val (.long (own_max (own_max q1 q2) q3)), .second] [])
        refine Go.of (fun _ kq => XS.iloadN X.here hx rfl (hb hby d12_67) rfl kq) ?_
        show Go p e below s _ _ T (mkF m 68 #[.val (.int n), .val (.int top), .val (.long q1), .second, .val (.long q2), .second, .val (.long q3), .second, .val (.long (own_min (own_min q1 q2) q3)), .second, .val (.long (own_max (own_max q1 q2) q3)), .second] [(.int top)])
        refine Go.of (fun _ kq => XS.iconst X.here hx rfl (hb hby d12_68) kq) ?_
        show Go p e below s _ _ T (mkF m 69 #[.val (.int n), .val (.int top), .val (.long q1), .second, .val (.long q2), .second, .val (.long q3), .second, .val (.long (own_min (own_min q1 q2) q3)), .second, .val (.long (own_max (own_max q1 q2) q3)), .second] [(.int (3 : Int32)), (.int top)])
        by_cases hc69 : top = (3 : Int32)
        · refine Go.of (fun _ kq => XS.icmpNo X.here hx rfl (hb hby d12_69) rfl (teq hc69).2 kq) ?_
          show Go p e below s _ _ T (mkF m 72 #[.val (.int n), .val (.int top), .val (.long q1), .second, .val (.long q2), .second, .val (.long q3), .second, .val (.long (own_min (own_min q1 q2) q3)), .second, .val (.long (own_max (own_max q1 q2) q3)), .second] [])
          refine Go.of (fun _ kq => XS.lload X.here hx rfl (hb hby d12_72) rfl kq) ?_
          show Go p e below s _ _ T (mkF m 74 #[.val (.int n), .val (.int top), .val (.long q1), .second, .val (.long q2), .second, .val (.long q3), .second, .val (.long (own_min (own_min q1 q2) q3)), .second, .val (.long (own_max (own_max q1 q2) q3)), .second] [(.long (own_max (own_max q1 q2) q3))])
          refine Go.retJ X hx hret hlk (hb hby d12_74) (by decide) (by decide) ?_
          try rw [eT]
          exact ⟨by simp only [own_worst, if_neg hc2, if_neg hc9, if_neg hc61, if_pos hc69], N, rfl⟩
        · refine Go.of (fun _ kq => XS.icmpYes X.here hx rfl (pc0 := 69) (pc' := 75) rfl (hb hby d12_69) rfl (feq hc69).2 (by decide) (by decide) kq) ?_
          show Go p e below s _ _ T (mkF m 75 #[.val (.int n), .val (.int top), .val (.long q1), .second, .val (.long q2), .second, .val (.long q3), .second, .val (.long (own_min (own_min q1 q2) q3)), .second, .val (.long (own_max (own_max q1 q2) q3)), .second] [])
          refine Go.of (fun _ kq => XS.lloadN X.here hx rfl (hb hby d12_75) rfl kq) ?_
          show Go p e below s _ _ T (mkF m 76 #[.val (.int n), .val (.int top), .val (.long q1), .second, .val (.long q2), .second, .val (.long q3), .second, .val (.long (own_min (own_min q1 q2) q3)), .second, .val (.long (own_max (own_max q1 q2) q3)), .second] [(.long q1)])
          refine Go.of (fun _ kq => XS.lload X.here hx rfl (hb hby d12_76) rfl kq) ?_
          show Go p e below s _ _ T (mkF m 78 #[.val (.int n), .val (.int top), .val (.long q1), .second, .val (.long q2), .second, .val (.long q3), .second, .val (.long (own_min (own_min q1 q2) q3)), .second, .val (.long (own_max (own_max q1 q2) q3)), .second] [(.long q2), (.long q1)])
          refine Go.of (fun _ kq => XS.ladd X.here hx rfl (hb hby d12_78) rfl kq) ?_
          show Go p e below s _ _ T (mkF m 79 #[.val (.int n), .val (.int top), .val (.long q1), .second, .val (.long q2), .second, .val (.long q3), .second, .val (.long (own_min (own_min q1 q2) q3)), .second, .val (.long (own_max (own_max q1 q2) q3)), .second] [(.long (q1 + q2))])
          refine Go.of (fun _ kq => XS.lload X.here hx rfl (hb hby d12_79) rfl kq) ?_
          show Go p e below s _ _ T (mkF m 81 #[.val (.int n), .val (.int top), .val (.long q1), .second, .val (.long q2), .second, .val (.long q3), .second, .val (.long (own_min (own_min q1 q2) q3)), .second, .val (.long (own_max (own_max q1 q2) q3)), .second] [(.long q3), (.long (q1 + q2))])
          refine Go.of (fun _ kq => XS.ladd X.here hx rfl (hb hby d12_81) rfl kq) ?_
          show Go p e below s _ _ T (mkF m 82 #[.val (.int n), .val (.int top), .val (.long q1), .second, .val (.long q2), .second, .val (.long q3), .second, .val (.long (own_min (own_min q1 q2) q3)), .second, .val (.long (own_max (own_max q1 q2) q3)), .second] [(.long ((q1 + q2) + q3))])
          refine Go.of (fun _ kq => XS.lload X.here hx rfl (hb hby d12_82) rfl kq) ?_
          show Go p e below s _ _ T (mkF m 84 #[.val (.int n), .val (.int top), .val (.long q1), .second, .val (.long q2), .second, .val (.long q3), .second, .val (.long (own_min (own_min q1 q2) q3)), .second, .val (.long (own_max (own_max q1 q2) q3)), .second] [(.long (own_min (own_min q1 q2) q3)), (.long ((q1 + q2) + q3))])
          refine Go.of (fun _ kq => XS.lsub X.here hx rfl (hb hby d12_84) rfl kq) ?_
          show Go p e below s _ _ T (mkF m 85 #[.val (.int n), .val (.int top), .val (.long q1), .second, .val (.long q2), .second, .val (.long q3), .second, .val (.long (own_min (own_min q1 q2) q3)), .second, .val (.long (own_max (own_max q1 q2) q3)), .second] [(.long (((q1 + q2) + q3) - (own_min (own_min q1 q2) q3)))])
          refine Go.of (fun _ kq => XS.lload X.here hx rfl (hb hby d12_85) rfl kq) ?_
          show Go p e below s _ _ T (mkF m 87 #[.val (.int n), .val (.int top), .val (.long q1), .second, .val (.long q2), .second, .val (.long q3), .second, .val (.long (own_min (own_min q1 q2) q3)), .second, .val (.long (own_max (own_max q1 q2) q3)), .second] [(.long (own_max (own_max q1 q2) q3)), (.long (((q1 + q2) + q3) - (own_min (own_min q1 q2) q3)))])
          refine Go.of (fun _ kq => XS.lsub X.here hx rfl (hb hby d12_87) rfl kq) ?_
          show Go p e below s _ _ T (mkF m 88 #[.val (.int n), .val (.int top), .val (.long q1), .second, .val (.long q2), .second, .val (.long q3), .second, .val (.long (own_min (own_min q1 q2) q3)), .second, .val (.long (own_max (own_max q1 q2) q3)), .second] [(.long ((((q1 + q2) + q3) - (own_min (own_min q1 q2) q3)) - (own_max (own_max q1 q2) q3)))])
          refine Go.retJ X hx hret hlk (hb hby d12_88) (by decide) (by decide) ?_
          try rw [eT]
          exact ⟨by simp only [own_worst, if_neg hc2, if_neg hc9, if_neg hc61, if_neg hc69], N, rfl⟩
theorem d10_0 : decode prog_94_method_15_code 0 = .ok (.lload_n 0, 1) := by decide +kernel
theorem d10_1 : decode prog_94_method_15_code 1 = .ok (.lload 4, 2) := by decide +kernel
theorem d10_3 : decode prog_94_method_15_code 3 = .ok (.lcmp, 1) := by decide +kernel
theorem d10_4 : decode prog_94_method_15_code 4 = .ok (.ifCond .gt 17, 3) := by decide +kernel
theorem d10_7 : decode prog_94_method_15_code 7 = .ok (.lload_n 0, 1) := by decide +kernel
theorem d10_8 : decode prog_94_method_15_code 8 = .ok (.lload 4, 2) := by decide +kernel
theorem d10_10 : decode prog_94_method_15_code 10 = .ok (.lcmp, 1) := by decide +kernel
theorem d10_11 : decode prog_94_method_15_code 11 = .ok (.ifCond .ne 14, 3) := by decide +kernel
theorem d10_14 : decode prog_94_method_15_code 14 = .ok (.lload_n 2, 1) := by decide +kernel
theorem d10_15 : decode prog_94_method_15_code 15 = .ok (.lload 6, 2) := by decide +kernel
theorem d10_17 : decode prog_94_method_15_code 17 = .ok (.lcmp, 1) := by decide +kernel
theorem d10_18 : decode prog_94_method_15_code 18 = .ok (.ifCond .le 7, 3) := by decide +kernel
theorem d10_21 : decode prog_94_method_15_code 21 = .ok (.iconst 1, 1) := by decide +kernel
theorem d10_22 : decode prog_94_method_15_code 22 = .ok (.goto 4, 3) := by decide +kernel
theorem d10_25 : decode prog_94_method_15_code 25 = .ok (.iconst 0, 1) := by decide +kernel
theorem d10_26 : decode prog_94_method_15_code 26 = .ok (.ireturn, 1) := by decide +kernel
theorem pn10 : plainFor (⟨"org/segmentry/search/TopHits", "worse", "(JJJJ)Z"⟩ : MethodName) = true := plainFor_of_name (by first | (simp [plainName, overriddenIn]; done) | decide +kernel)
theorem ef_rmWorse (m : MethodId) (x0 : Int64) (x1 : Int64) (x2 : Int64) (x3 : Int64) : entryFrame m #[(.long x0), (.long x1), (.long x2), (.long x3)] 8 = mkF m 0 #[.val (.long x0), .second, .val (.long x1), .second, .val (.long x2), .second, .val (.long x3), .second] [] := by first | (simp [entryFrame, mkF, argsToLocals, Value.category]; done) | rfl
set_option maxRecDepth 65536 in
set_option maxHeartbeats 40000000 in
theorem rmWorse {l : Launch} {Z : State} {a0 : Array Value} (hw : ∀ d ∈ tables_1, d.before a0 Z = true) (q1 d1 q2 d2 : Int64) (h0 : Heap) (n0 : Nat)  :
    Met l Z (⟨"org/segmentry/search/TopHits", "worse", "(JJJJ)Z"⟩ : MethodName) prog_94_method_15_code 8 (some .boolean) [] ({ frames := 0, cells := 0, slots := 0, locals := 0 } : Room) #[(.long q1), (.long d1), (.long q2), (.long d2)] h0 (fun v h L => v = some (.int (own_worse q1 d1 q2 d2)) ∧ Fr n0 L ∧ h = h0) := by
  refine Met.mk pn10 ?_
  intro p e s m below meth c T hx hby hml hown hnm hret hlk hZ X eT
  refine Go.cast (ef_rmWorse m q1 d1 q2 d2) ?_
  have N := Fr.nil n0
  show Go p e below s _ _ T (mkF m 0 #[.val (.long q1), .second, .val (.long d1), .second, .val (.long q2), .second, .val (.long d2), .second] [])
  refine Go.of (fun _ kq => XS.lloadN X.here hx rfl (hb hby d10_0) rfl kq) ?_
  show Go p e below s _ _ T (mkF m 1 #[.val (.long q1), .second, .val (.long d1), .second, .val (.long q2), .second, .val (.long d2), .second] [(.long q1)])
  refine Go.of (fun _ kq => XS.lload X.here hx rfl (hb hby d10_1) rfl kq) ?_
  show Go p e below s _ _ T (mkF m 3 #[.val (.long q1), .second, .val (.long d1), .second, .val (.long q2), .second, .val (.long d2), .second] [(.long q2), (.long q1)])
  refine Go.of (fun _ kq => XS.lcmp X.here hx rfl (hb hby d10_3) rfl kq) ?_
  show Go p e below s _ _ T (mkF m 4 #[.val (.long q1), .second, .val (.long d1), .second, .val (.long q2), .second, .val (.long d2), .second] [(.int (lcmpW q1 q2))])
  by_cases hc4 : q2 < q1
  · refine Go.of (fun _ kq => XS.ifYes X.here hx rfl (pc0 := 4) (pc' := 21) rfl (hb hby d10_4) rfl (cZgt hc4).1 (by decide) (by decide) kq) ?_
    show Go p e below s _ _ T (mkF m 21 #[.val (.long q1), .second, .val (.long d1), .second, .val (.long q2), .second, .val (.long d2), .second] [])
    refine Go.of (fun _ kq => XS.iconst X.here hx rfl (hb hby d10_21) kq) ?_
    show Go p e below s _ _ T (mkF m 22 #[.val (.long q1), .second, .val (.long d1), .second, .val (.long q2), .second, .val (.long d2), .second] [(.int (1 : Int32))])
    refine Go.of (fun _ kq => XS.goto X.here hx rfl (pc0 := 22) (pc' := 26) rfl (hb hby d10_22) (by decide) (by decide) kq) ?_
    show Go p e below s _ _ T (mkF m 26 #[.val (.long q1), .second, .val (.long d1), .second, .val (.long q2), .second, .val (.long d2), .second] [(.int (1 : Int32))])
    refine Go.retN X hx hret (by simp) hlk (hb hby d10_26) (by decide) (by decide) ?_
    try rw [eT]
    exact ⟨by rw [show own_worse q1 d1 q2 d2 = (1 : Int32) by simp [own_worse, hc4]]; rfl, N, rfl⟩
  · refine Go.of (fun _ kq => XS.ifNo X.here hx rfl (hb hby d10_4) rfl (cFgt hc4).1 kq) ?_
    show Go p e below s _ _ T (mkF m 7 #[.val (.long q1), .second, .val (.long d1), .second, .val (.long q2), .second, .val (.long d2), .second] [])
    refine Go.of (fun _ kq => XS.lloadN X.here hx rfl (hb hby d10_7) rfl kq) ?_
    show Go p e below s _ _ T (mkF m 8 #[.val (.long q1), .second, .val (.long d1), .second, .val (.long q2), .second, .val (.long d2), .second] [(.long q1)])
    refine Go.of (fun _ kq => XS.lload X.here hx rfl (hb hby d10_8) rfl kq) ?_
    show Go p e below s _ _ T (mkF m 10 #[.val (.long q1), .second, .val (.long d1), .second, .val (.long q2), .second, .val (.long d2), .second] [(.long q2), (.long q1)])
    refine Go.of (fun _ kq => XS.lcmp X.here hx rfl (hb hby d10_10) rfl kq) ?_
    show Go p e below s _ _ T (mkF m 11 #[.val (.long q1), .second, .val (.long d1), .second, .val (.long q2), .second, .val (.long d2), .second] [(.int (lcmpW q1 q2))])
    by_cases hc11 : q1 = q2
    · refine Go.of (fun _ kq => XS.ifNo X.here hx rfl (hb hby d10_11) rfl (cZeq hc11).2 kq) ?_
      show Go p e below s _ _ T (mkF m 14 #[.val (.long q1), .second, .val (.long d1), .second, .val (.long q2), .second, .val (.long d2), .second] [])
      refine Go.of (fun _ kq => XS.lloadN X.here hx rfl (hb hby d10_14) rfl kq) ?_
      show Go p e below s _ _ T (mkF m 15 #[.val (.long q1), .second, .val (.long d1), .second, .val (.long q2), .second, .val (.long d2), .second] [(.long d1)])
      refine Go.of (fun _ kq => XS.lload X.here hx rfl (hb hby d10_15) rfl kq) ?_
      show Go p e below s _ _ T (mkF m 17 #[.val (.long q1), .second, .val (.long d1), .second, .val (.long q2), .second, .val (.long d2), .second] [(.long d2), (.long d1)])
      refine Go.of (fun _ kq => XS.lcmp X.here hx rfl (hb hby d10_17) rfl kq) ?_
      show Go p e below s _ _ T (mkF m 18 #[.val (.long q1), .second, .val (.long d1), .second, .val (.long q2), .second, .val (.long d2), .second] [(.int (lcmpW d1 d2))])
      by_cases hc18 : d2 < d1
      · refine Go.of (fun _ kq => XS.ifNo X.here hx rfl (hb hby d10_18) rfl (cZgt hc18).2 kq) ?_
        show Go p e below s _ _ T (mkF m 21 #[.val (.long q1), .second, .val (.long d1), .second, .val (.long q2), .second, .val (.long d2), .second] [])
        refine Go.of (fun _ kq => XS.iconst X.here hx rfl (hb hby d10_21) kq) ?_
        show Go p e below s _ _ T (mkF m 22 #[.val (.long q1), .second, .val (.long d1), .second, .val (.long q2), .second, .val (.long d2), .second] [(.int (1 : Int32))])
        refine Go.of (fun _ kq => XS.goto X.here hx rfl (pc0 := 22) (pc' := 26) rfl (hb hby d10_22) (by decide) (by decide) kq) ?_
        show Go p e below s _ _ T (mkF m 26 #[.val (.long q1), .second, .val (.long d1), .second, .val (.long q2), .second, .val (.long d2), .second] [(.int (1 : Int32))])
        refine Go.retN X hx hret (by simp) hlk (hb hby d10_26) (by decide) (by decide) ?_
        try rw [eT]
        exact ⟨by rw [show own_worse q1 d1 q2 d2 = (1 : Int32) by simp [own_worse, hc4, hc11, hc18]]; rfl, N, rfl⟩
      · refine Go.of (fun _ kq => XS.ifYes X.here hx rfl (pc0 := 18) (pc' := 25) rfl (hb hby d10_18) rfl (cFgt hc18).2 (by decide) (by decide) kq) ?_
        show Go p e below s _ _ T (mkF m 25 #[.val (.long q1), .second, .val (.long d1), .second, .val (.long q2), .second, .val (.long d2), .second] [])
        refine Go.of (fun _ kq => XS.iconst X.here hx rfl (hb hby d10_25) kq) ?_
        show Go p e below s _ _ T (mkF m 26 #[.val (.long q1), .second, .val (.long d1), .second, .val (.long q2), .second, .val (.long d2), .second] [(.int (0 : Int32))])
        refine Go.retN X hx hret (by simp) hlk (hb hby d10_26) (by decide) (by decide) ?_
        try rw [eT]
        exact ⟨by rw [show own_worse q1 d1 q2 d2 = (0 : Int32) by simp [own_worse, hc4, hc11, hc18]]; rfl, N, rfl⟩
    · refine Go.of (fun _ kq => XS.ifYes X.here hx rfl (pc0 := 11) (pc' := 25) rfl (hb hby d10_11) rfl (cFeq hc11).2 (by decide) (by decide) kq) ?_
      show Go p e below s _ _ T (mkF m 25 #[.val (.long q1), .second, .val (.long d1), .second, .val (.long q2), .second, .val (.long d2), .second] [])
      refine Go.of (fun _ kq => XS.iconst X.here hx rfl (hb hby d10_25) kq) ?_
      show Go p e below s _ _ T (mkF m 26 #[.val (.long q1), .second, .val (.long d1), .second, .val (.long q2), .second, .val (.long d2), .second] [(.int (0 : Int32))])
      refine Go.retN X hx hret (by simp) hlk (hb hby d10_26) (by decide) (by decide) ?_
      try rw [eT]
      exact ⟨by rw [show own_worse q1 d1 q2 d2 = (0 : Int32) by simp [own_worse, hc4, hc11]]; rfl, N, rfl⟩
theorem d1_0 : decode prog_94_method_2_code 0 = .ok (.aload_n 0, 1) := by decide +kernel
theorem d1_1 : decode prog_94_method_2_code 1 = .ok (.invokespecial 25, 3) := by decide +kernel
theorem d1_4 : decode prog_94_method_2_code 4 = .ok (.aload_n 0, 1) := by decide +kernel
theorem d1_5 : decode prog_94_method_2_code 5 = .ok (.iload_n 1, 1) := by decide +kernel
theorem d1_6 : decode prog_94_method_2_code 6 = .ok (.putfield 31, 3) := by decide +kernel
theorem d1_9 : decode prog_94_method_2_code 9 = .ok (.aload_n 0, 1) := by decide +kernel
theorem d1_10 : decode prog_94_method_2_code 10 = .ok (.iload_n 1, 1) := by decide +kernel
theorem d1_11 : decode prog_94_method_2_code 11 = .ok (.bipush 16, 2) := by decide +kernel
theorem d1_13 : decode prog_94_method_2_code 13 = .ok (.invokestatic 37, 3) := by decide +kernel
theorem d1_16 : decode prog_94_method_2_code 16 = .ok (.newarray .long, 2) := by decide +kernel
theorem d1_18 : decode prog_94_method_2_code 18 = .ok (.putfield 42, 3) := by decide +kernel
theorem d1_21 : decode prog_94_method_2_code 21 = .ok (.aload_n 0, 1) := by decide +kernel
theorem d1_22 : decode prog_94_method_2_code 22 = .ok (.aload_n 0, 1) := by decide +kernel
theorem d1_23 : decode prog_94_method_2_code 23 = .ok (.getfield 42, 3) := by decide +kernel
theorem d1_26 : decode prog_94_method_2_code 26 = .ok (.arraylength, 1) := by decide +kernel
theorem d1_27 : decode prog_94_method_2_code 27 = .ok (.newarray .double, 2) := by decide +kernel
theorem d1_29 : decode prog_94_method_2_code 29 = .ok (.putfield 46, 3) := by decide +kernel
theorem d1_32 : decode prog_94_method_2_code 32 = .ok (.aload_n 0, 1) := by decide +kernel
theorem d1_33 : decode prog_94_method_2_code 33 = .ok (.aload_n 0, 1) := by decide +kernel
theorem d1_34 : decode prog_94_method_2_code 34 = .ok (.getfield 42, 3) := by decide +kernel
theorem d1_37 : decode prog_94_method_2_code 37 = .ok (.arraylength, 1) := by decide +kernel
theorem d1_38 : decode prog_94_method_2_code 38 = .ok (.newarray .long, 2) := by decide +kernel
theorem d1_40 : decode prog_94_method_2_code 40 = .ok (.putfield 50, 3) := by decide +kernel
theorem d1_43 : decode prog_94_method_2_code 43 = .ok (.return_, 1) := by decide +kernel
theorem pn1 : plainFor (⟨"org/segmentry/search/TopHits", "<init>", "(I)V"⟩ : MethodName) = true := plainFor_of_name (by first | (simp [plainName, overriddenIn]; done) | decide +kernel)
theorem ef_rmIni (m : MethodId) (x0 : Addr) (x1 : Int32) : entryFrame m #[(.ref x0), (.int x1)] 2 = mkF m 0 #[.val (.ref x0), .val (.int x1)] [] := by first | (simp [entryFrame, mkF, argsToLocals, Value.category]; done) | rfl
set_option maxRecDepth 65536 in
set_option maxHeartbeats 40000000 in
theorem rmIni {l : Launch} {Z : State} {a0 : Array Value} (hw : ∀ d ∈ tables_1, d.before a0 Z = true) (a : Addr) (top c0 : Int32) (h0 : Heap) (n0 : Nat) (Z0 : n0 ≤ h0.size) (g_a : n0 ≤ a) (hc0 : c0 = own_minI top 16) (hneg : ¬ c0 < 0) (hle : c0.toNatClampNeg ≤ 16) (E_a : Exa Z h0 a "org/segmentry/search/TopHits") (F_m_top_a : Fld Z h0 a "org/segmentry/search/TopHits" "m_top" "I" (.int (0 : Int32))) (F_m_ranks_a : Fld Z h0 a "org/segmentry/search/TopHits" "m_ranks" "[J" .null) (F_m_scores_a : Fld Z h0 a "org/segmentry/search/TopHits" "m_scores" "[D" .null) (F_m_documents_a : Fld Z h0 a "org/segmentry/search/TopHits" "m_documents" "[J" .null) (F_m_kept_a : Fld Z h0 a "org/segmentry/search/TopHits" "m_kept" "I" (.int (0 : Int32))) (F_m_total_a : Fld Z h0 a "org/segmentry/search/TopHits" "m_total" "J" (.long (0 : Int64))) :
    Met l Z (⟨"org/segmentry/search/TopHits", "<init>", "(I)V"⟩ : MethodName) prog_94_method_2_code 2 none [] ({ frames := 1, cells := 3, slots := 48, locals := 14 } : Room) #[(.ref a), (.int top)] h0 (fun v h L => v = none ∧ Fr n0 L ∧ Keep h0 h [a] ∧ ∃ r sc d : Addr, h0.size ≤ r ∧ h0.size ≤ sc ∧ h0.size ≤ d ∧ a ≠ r ∧ a ≠ sc ∧ a ≠ d ∧ r ≠ sc ∧ r ≠ d ∧ sc ≠ d ∧ TH Z h a r sc d top 0 0 c0.toNatClampNeg (fun _ => 0) (fun _ => 0) (fun _ => 0)) := by
  refine Met.mk pn1 ?_
  intro p e s m below meth c T hx hby hml hown hnm hret hlk hZ X eT
  refine Go.cast (ef_rmIni m a top) ?_
  have N := Fr.nil n0
  have K := Keep.refl h0 [a]
  show Go p e below s _ _ T (mkF m 0 #[.val (.ref a), .val (.int top)] [])
  refine Go.of (fun _ kq => XS.aloadN X.here hx rfl (hb hby d1_0) rfl rfl kq) ?_
  show Go p e below s _ _ T (mkF m 1 #[.val (.ref a), .val (.int top)] [(.ref a)])
  refine Go.initO X hx hZ hown (hw _ (List.mem_of_getElem? (i := 6) rfl)) (hw _ (List.mem_of_getElem? (i := 7) rfl)) (hw _ (List.mem_of_getElem? (i := 8) rfl)) eT (by rw [hml]; rfl) (hb hby d1_1) (by decide) 0 (Nat.le_of_eq rfl) (by decide) ?_
  intro T X eT
  show Go p e below s _ _ T (mkF m 4 #[.val (.ref a), .val (.int top)] [])
  refine Go.of (fun _ kq => XS.aloadN X.here hx rfl (hb hby d1_4) rfl rfl kq) ?_
  show Go p e below s _ _ T (mkF m 5 #[.val (.ref a), .val (.int top)] [(.ref a)])
  refine Go.of (fun _ kq => XS.iloadN X.here hx rfl (hb hby d1_5) rfl kq) ?_
  show Go p e below s _ _ T (mkF m 6 #[.val (.ref a), .val (.int top)] [(.int top), (.ref a)])
  refine Go.putF X hx hZ hown (hw _ (List.mem_of_getElem? (i := 9) rfl)) Via.refl eT F_m_top_a E_a (Or.inr ⟨(hw _ (List.mem_of_getElem? (i := 10) rfl)), rfl, hnm⟩) (hw _ (List.mem_of_getElem? (i := 1) rfl)) (ty := .int) (by decide) rfl rfl (hb hby d1_6) ?_
  intro T h X eT wr
  have N := Fr.snoc X N g_a
  have K := K.wr wr (Or.inl (List.mem_of_getElem? (i := 0) rfl))
  have E_a := E_a.wr wr
  have F_m_top_a := F_m_top_a.same wr
  have F_m_ranks_a := F_m_ranks_a.other wr (Or.inr (slot_ne (Or.inl (hw _ (List.mem_of_getElem? (i := 17) rfl))) (Or.inr (hw _ (List.mem_of_getElem? (i := 10) rfl))) (by decide) (t := (.array .long)) (t' := .int) (by decide) (by decide)))
  have F_m_scores_a := F_m_scores_a.other wr (Or.inr (slot_ne (Or.inl (hw _ (List.mem_of_getElem? (i := 20) rfl))) (Or.inr (hw _ (List.mem_of_getElem? (i := 10) rfl))) (by decide) (t := (.array .double)) (t' := .int) (by decide) (by decide)))
  have F_m_documents_a := F_m_documents_a.other wr (Or.inr (slot_ne (Or.inl (hw _ (List.mem_of_getElem? (i := 22) rfl))) (Or.inr (hw _ (List.mem_of_getElem? (i := 10) rfl))) (by decide) (t := (.array .long)) (t' := .int) (by decide) (by decide)))
  have F_m_kept_a := F_m_kept_a.other wr (Or.inr (slot_ne (Or.inl (hw _ (List.mem_of_getElem? (i := 30) rfl))) (Or.inr (hw _ (List.mem_of_getElem? (i := 10) rfl))) (by decide) (t := .int) (t' := .int) (by decide) (by decide)))
  have F_m_total_a := F_m_total_a.other wr (Or.inr (slot_ne (Or.inl (hw _ (List.mem_of_getElem? (i := 42) rfl))) (Or.inr (hw _ (List.mem_of_getElem? (i := 10) rfl))) (by decide) (t := .long) (t' := .int) (by decide) (by decide)))
  show Go p e below s _ _ T (mkF m 9 #[.val (.ref a), .val (.int top)] [])
  refine Go.of (fun _ kq => XS.aloadN X.here hx rfl (hb hby d1_9) rfl rfl kq) ?_
  show Go p e below s _ _ T (mkF m 10 #[.val (.ref a), .val (.int top)] [(.ref a)])
  refine Go.of (fun _ kq => XS.iloadN X.here hx rfl (hb hby d1_10) rfl kq) ?_
  show Go p e below s _ _ T (mkF m 11 #[.val (.ref a), .val (.int top)] [(.int top), (.ref a)])
  refine Go.of (fun _ kq => XS.bipush X.here hx rfl (hb hby d1_11) kq) ?_
  show Go p e below s _ _ T (mkF m 13 #[.val (.ref a), .val (.int top)] [(.int (16 : Int32)), (.int top), (.ref a)])
  refine Go.static X hx hZ hown (hw _ (List.mem_of_getElem? (i := 11) rfl)) (hw _ (List.mem_of_getElem? (i := 12) rfl)) (hw _ (List.mem_of_getElem? (i := 13) rfl)) (hw _ (List.mem_of_getElem? (i := 14) rfl)) (by decide) (rmMinI hw top (16 : Int32) _ n0) eT 1 (by decide) (by decide) (by decide) (by decide) (by rw [hml]; rfl) (argsL := [(.int top), (.int (16 : Int32))]) [(.ref a)] (lenOf pd1 rfl) rfl rfl (Nat.le_of_eq rfl) (hb hby d1_13) ?_
  intro v T L' X hQ
  obtain ⟨rfl, N', eT⟩ := hQ
  have N := Fr.app N N'
  rw [← hc0]
  show Go p e below s _ _ T (mkF m 16 #[.val (.ref a), .val (.int top)] [(.int c0), (.ref a)])
  refine Go.newP X hx hZ (hw _ (List.mem_of_getElem? (i := 15) rfl)) eT (hb hby d1_16) hneg 16 hle (by decide) (by decide) (by decide) ?_
  intro T h b16 X eT E ha V_b16
  have ne_a_b16 : a ≠ b16 := by rw [ha]; exact Nat.ne_of_lt E_a.lt
  have z_b16 : h0.size ≤ b16 := by rw [ha]; exact K.1
  have g_b16 : n0 ≤ b16 := Nat.le_trans Z0 z_b16
  have K := K.ext E
  have E_a := E_a.ext E
  have F_m_top_a := F_m_top_a.ext E
  have F_m_ranks_a := F_m_ranks_a.ext E
  have F_m_scores_a := F_m_scores_a.ext E
  have F_m_documents_a := F_m_documents_a.ext E
  have F_m_kept_a := F_m_kept_a.ext E
  have F_m_total_a := F_m_total_a.ext E
  have V_b16 : AV Z h b16 .long c0.toNatClampNeg (fun _ => .long 0) := V_b16
  show Go p e below s _ _ T (mkF m 18 #[.val (.ref a), .val (.int top)] [(.ref b16), (.ref a)])
  refine Go.putF X hx hZ hown (hw _ (List.mem_of_getElem? (i := 16) rfl)) Via.refl eT F_m_ranks_a E_a (Or.inl (hw _ (List.mem_of_getElem? (i := 17) rfl))) (hw _ (List.mem_of_getElem? (i := 1) rfl)) (ty := (.array .long)) (by decide) rfl rfl (hb hby d1_18) ?_
  intro T h X eT wr
  have N := Fr.snoc X N g_a
  have K := K.wr wr (Or.inl (List.mem_of_getElem? (i := 0) rfl))
  have E_a := E_a.wr wr
  have F_m_top_a := F_m_top_a.other wr (Or.inr (slot_ne (Or.inr (hw _ (List.mem_of_getElem? (i := 10) rfl))) (Or.inl (hw _ (List.mem_of_getElem? (i := 17) rfl))) (by decide) (t := .int) (t' := (.array .long)) (by decide) (by decide)))
  have F_m_ranks_a := F_m_ranks_a.same wr
  have F_m_scores_a := F_m_scores_a.other wr (Or.inr (slot_ne (Or.inl (hw _ (List.mem_of_getElem? (i := 20) rfl))) (Or.inl (hw _ (List.mem_of_getElem? (i := 17) rfl))) (by decide) (t := (.array .double)) (t' := (.array .long)) (by decide) (by decide)))
  have F_m_documents_a := F_m_documents_a.other wr (Or.inr (slot_ne (Or.inl (hw _ (List.mem_of_getElem? (i := 22) rfl))) (Or.inl (hw _ (List.mem_of_getElem? (i := 17) rfl))) (by decide) (t := (.array .long)) (t' := (.array .long)) (by decide) (by decide)))
  have F_m_kept_a := F_m_kept_a.other wr (Or.inr (slot_ne (Or.inl (hw _ (List.mem_of_getElem? (i := 30) rfl))) (Or.inl (hw _ (List.mem_of_getElem? (i := 17) rfl))) (by decide) (t := .int) (t' := (.array .long)) (by decide) (by decide)))
  have F_m_total_a := F_m_total_a.other wr (Or.inr (slot_ne (Or.inl (hw _ (List.mem_of_getElem? (i := 42) rfl))) (Or.inl (hw _ (List.mem_of_getElem? (i := 17) rfl))) (by decide) (t := .long) (t' := (.array .long)) (by decide) (by decide)))
  have V_b16 := V_b16.other wr (Ne.symm ne_a_b16)
  show Go p e below s _ _ T (mkF m 21 #[.val (.ref a), .val (.int top)] [])
  refine Go.of (fun _ kq => XS.aloadN X.here hx rfl (hb hby d1_21) rfl rfl kq) ?_
  show Go p e below s _ _ T (mkF m 22 #[.val (.ref a), .val (.int top)] [(.ref a)])
  refine Go.of (fun _ kq => XS.aloadN X.here hx rfl (hb hby d1_22) rfl rfl kq) ?_
  show Go p e below s _ _ T (mkF m 23 #[.val (.ref a), .val (.int top)] [(.ref a), (.ref a)])
  refine Go.getF X hx hZ hown (hw _ (List.mem_of_getElem? (i := 16) rfl)) Via.refl eT F_m_ranks_a (hb hby d1_23) ?_
  intro T X eT
  show Go p e below s _ _ T (mkF m 26 #[.val (.ref a), .val (.int top)] [(.ref b16), (.ref a)])
  refine Go.alen c0 X hx hZ eT V_b16 (back32 hneg).1 (hb hby d1_26) ?_
  show Go p e below s _ _ T (mkF m 27 #[.val (.ref a), .val (.int top)] [(.int c0), (.ref a)])
  refine Go.newP X hx hZ (hw _ (List.mem_of_getElem? (i := 18) rfl)) eT (hb hby d1_27) hneg 16 hle (by decide) (by decide) (by decide) ?_
  intro T h b27 X eT E ha V_b27
  have ne_a_b27 : a ≠ b27 := by rw [ha]; exact Nat.ne_of_lt E_a.lt
  have ne_b16_b27 : b16 ≠ b27 := by rw [ha]; exact Nat.ne_of_lt V_b16.lt
  have z_b27 : h0.size ≤ b27 := by rw [ha]; exact K.1
  have g_b27 : n0 ≤ b27 := Nat.le_trans Z0 z_b27
  have K := K.ext E
  have E_a := E_a.ext E
  have F_m_top_a := F_m_top_a.ext E
  have F_m_ranks_a := F_m_ranks_a.ext E
  have F_m_scores_a := F_m_scores_a.ext E
  have F_m_documents_a := F_m_documents_a.ext E
  have F_m_kept_a := F_m_kept_a.ext E
  have F_m_total_a := F_m_total_a.ext E
  have V_b16 := V_b16.ext E
  have V_b27 : AV Z h b27 .double c0.toNatClampNeg (fun _ => .double 0) := V_b27
  show Go p e below s _ _ T (mkF m 29 #[.val (.ref a), .val (.int top)] [(.ref b27), (.ref a)])
  refine Go.putF X hx hZ hown (hw _ (List.mem_of_getElem? (i := 19) rfl)) Via.refl eT F_m_scores_a E_a (Or.inl (hw _ (List.mem_of_getElem? (i := 20) rfl))) (hw _ (List.mem_of_getElem? (i := 1) rfl)) (ty := (.array .double)) (by decide) rfl rfl (hb hby d1_29) ?_
  intro T h X eT wr
  have N := Fr.snoc X N g_a
  have K := K.wr wr (Or.inl (List.mem_of_getElem? (i := 0) rfl))
  have E_a := E_a.wr wr
  have F_m_top_a := F_m_top_a.other wr (Or.inr (slot_ne (Or.inr (hw _ (List.mem_of_getElem? (i := 10) rfl))) (Or.inl (hw _ (List.mem_of_getElem? (i := 20) rfl))) (by decide) (t := .int) (t' := (.array .double)) (by decide) (by decide)))
  have F_m_ranks_a := F_m_ranks_a.other wr (Or.inr (slot_ne (Or.inl (hw _ (List.mem_of_getElem? (i := 17) rfl))) (Or.inl (hw _ (List.mem_of_getElem? (i := 20) rfl))) (by decide) (t := (.array .long)) (t' := (.array .double)) (by decide) (by decide)))
  have F_m_scores_a := F_m_scores_a.same wr
  have F_m_documents_a := F_m_documents_a.other wr (Or.inr (slot_ne (Or.inl (hw _ (List.mem_of_getElem? (i := 22) rfl))) (Or.inl (hw _ (List.mem_of_getElem? (i := 20) rfl))) (by decide) (t := (.array .long)) (t' := (.array .double)) (by decide) (by decide)))
  have F_m_kept_a := F_m_kept_a.other wr (Or.inr (slot_ne (Or.inl (hw _ (List.mem_of_getElem? (i := 30) rfl))) (Or.inl (hw _ (List.mem_of_getElem? (i := 20) rfl))) (by decide) (t := .int) (t' := (.array .double)) (by decide) (by decide)))
  have F_m_total_a := F_m_total_a.other wr (Or.inr (slot_ne (Or.inl (hw _ (List.mem_of_getElem? (i := 42) rfl))) (Or.inl (hw _ (List.mem_of_getElem? (i := 20) rfl))) (by decide) (t := .long) (t' := (.array .double)) (by decide) (by decide)))
  have V_b16 := V_b16.other wr (Ne.symm ne_a_b16)
  have V_b27 := V_b27.other wr (Ne.symm ne_a_b27)
  show Go p e below s _ _ T (mkF m 32 #[.val (.ref a), .val (.int top)] [])
  refine Go.of (fun _ kq => XS.aloadN X.here hx rfl (hb hby d1_32) rfl rfl kq) ?_
  show Go p e below s _ _ T (mkF m 33 #[.val (.ref a), .val (.int top)] [(.ref a)])
  refine Go.of (fun _ kq => XS.aloadN X.here hx rfl (hb hby d1_33) rfl rfl kq) ?_
  show Go p e below s _ _ T (mkF m 34 #[.val (.ref a), .val (.int top)] [(.ref a), (.ref a)])
  refine Go.getF X hx hZ hown (hw _ (List.mem_of_getElem? (i := 16) rfl)) Via.refl eT F_m_ranks_a (hb hby d1_34) ?_
  intro T X eT
  show Go p e below s _ _ T (mkF m 37 #[.val (.ref a), .val (.int top)] [(.ref b16), (.ref a)])
  refine Go.alen c0 X hx hZ eT V_b16 (back32 hneg).1 (hb hby d1_37) ?_
  show Go p e below s _ _ T (mkF m 38 #[.val (.ref a), .val (.int top)] [(.int c0), (.ref a)])
  refine Go.newP X hx hZ (hw _ (List.mem_of_getElem? (i := 15) rfl)) eT (hb hby d1_38) hneg 16 hle (by decide) (by decide) (by decide) ?_
  intro T h b38 X eT E ha V_b38
  have ne_a_b38 : a ≠ b38 := by rw [ha]; exact Nat.ne_of_lt E_a.lt
  have ne_b16_b38 : b16 ≠ b38 := by rw [ha]; exact Nat.ne_of_lt V_b16.lt
  have ne_b27_b38 : b27 ≠ b38 := by rw [ha]; exact Nat.ne_of_lt V_b27.lt
  have z_b38 : h0.size ≤ b38 := by rw [ha]; exact K.1
  have g_b38 : n0 ≤ b38 := Nat.le_trans Z0 z_b38
  have K := K.ext E
  have E_a := E_a.ext E
  have F_m_top_a := F_m_top_a.ext E
  have F_m_ranks_a := F_m_ranks_a.ext E
  have F_m_scores_a := F_m_scores_a.ext E
  have F_m_documents_a := F_m_documents_a.ext E
  have F_m_kept_a := F_m_kept_a.ext E
  have F_m_total_a := F_m_total_a.ext E
  have V_b16 := V_b16.ext E
  have V_b27 := V_b27.ext E
  have V_b38 : AV Z h b38 .long c0.toNatClampNeg (fun _ => .long 0) := V_b38
  show Go p e below s _ _ T (mkF m 40 #[.val (.ref a), .val (.int top)] [(.ref b38), (.ref a)])
  refine Go.putF X hx hZ hown (hw _ (List.mem_of_getElem? (i := 21) rfl)) Via.refl eT F_m_documents_a E_a (Or.inl (hw _ (List.mem_of_getElem? (i := 22) rfl))) (hw _ (List.mem_of_getElem? (i := 1) rfl)) (ty := (.array .long)) (by decide) rfl rfl (hb hby d1_40) ?_
  intro T h X eT wr
  have N := Fr.snoc X N g_a
  have K := K.wr wr (Or.inl (List.mem_of_getElem? (i := 0) rfl))
  have E_a := E_a.wr wr
  have F_m_top_a := F_m_top_a.other wr (Or.inr (slot_ne (Or.inr (hw _ (List.mem_of_getElem? (i := 10) rfl))) (Or.inl (hw _ (List.mem_of_getElem? (i := 22) rfl))) (by decide) (t := .int) (t' := (.array .long)) (by decide) (by decide)))
  have F_m_ranks_a := F_m_ranks_a.other wr (Or.inr (slot_ne (Or.inl (hw _ (List.mem_of_getElem? (i := 17) rfl))) (Or.inl (hw _ (List.mem_of_getElem? (i := 22) rfl))) (by decide) (t := (.array .long)) (t' := (.array .long)) (by decide) (by decide)))
  have F_m_scores_a := F_m_scores_a.other wr (Or.inr (slot_ne (Or.inl (hw _ (List.mem_of_getElem? (i := 20) rfl))) (Or.inl (hw _ (List.mem_of_getElem? (i := 22) rfl))) (by decide) (t := (.array .double)) (t' := (.array .long)) (by decide) (by decide)))
  have F_m_documents_a := F_m_documents_a.same wr
  have F_m_kept_a := F_m_kept_a.other wr (Or.inr (slot_ne (Or.inl (hw _ (List.mem_of_getElem? (i := 30) rfl))) (Or.inl (hw _ (List.mem_of_getElem? (i := 22) rfl))) (by decide) (t := .int) (t' := (.array .long)) (by decide) (by decide)))
  have F_m_total_a := F_m_total_a.other wr (Or.inr (slot_ne (Or.inl (hw _ (List.mem_of_getElem? (i := 42) rfl))) (Or.inl (hw _ (List.mem_of_getElem? (i := 22) rfl))) (by decide) (t := .long) (t' := (.array .long)) (by decide) (by decide)))
  have V_b16 := V_b16.other wr (Ne.symm ne_a_b16)
  have V_b27 := V_b27.other wr (Ne.symm ne_a_b27)
  have V_b38 := V_b38.other wr (Ne.symm ne_a_b38)
  show Go p e below s _ _ T (mkF m 43 #[.val (.ref a), .val (.int top)] [])
  refine Go.retV X hx hret hlk (hb hby d1_43) (by decide) (by decide) ?_
  try rw [eT]
  exact ⟨rfl, N, K, b16, b27, b38, z_b16, z_b27, z_b38, ne_a_b16, ne_a_b27, ne_a_b38, ne_b16_b27, ne_b16_b38, ne_b27_b38, F_m_top_a, F_m_ranks_a, F_m_scores_a, F_m_documents_a, F_m_kept_a, F_m_total_a, V_b16, V_b27, V_b38⟩
theorem d4_0 : decode prog_94_method_6_code 0 = .ok (.aload_n 0, 1) := by decide +kernel
theorem d4_1 : decode prog_94_method_6_code 1 = .ok (.getfield 72, 3) := by decide +kernel
theorem d4_4 : decode prog_94_method_6_code 4 = .ok (.aload_n 0, 1) := by decide +kernel
theorem d4_5 : decode prog_94_method_6_code 5 = .ok (.getfield 31, 3) := by decide +kernel
theorem d4_8 : decode prog_94_method_6_code 8 = .ok (.if_icmp .lt 21, 3) := by decide +kernel
theorem d4_11 : decode prog_94_method_6_code 11 = .ok (.aload_n 0, 1) := by decide +kernel
theorem d4_12 : decode prog_94_method_6_code 12 = .ok (.getfield 31, 3) := by decide +kernel
theorem d4_15 : decode prog_94_method_6_code 15 = .ok (.ifCond .le 18, 3) := by decide +kernel
theorem d4_18 : decode prog_94_method_6_code 18 = .ok (.lload_n 1, 1) := by decide +kernel
theorem d4_19 : decode prog_94_method_6_code 19 = .ok (.aload_n 0, 1) := by decide +kernel
theorem d4_20 : decode prog_94_method_6_code 20 = .ok (.getfield 42, 3) := by decide +kernel
theorem d4_23 : decode prog_94_method_6_code 23 = .ok (.iconst 0, 1) := by decide +kernel
theorem d4_24 : decode prog_94_method_6_code 24 = .ok (.laload, 1) := by decide +kernel
theorem d4_25 : decode prog_94_method_6_code 25 = .ok (.lcmp, 1) := by decide +kernel
theorem d4_26 : decode prog_94_method_6_code 26 = .ok (.ifCond .ge 7, 3) := by decide +kernel
theorem d4_29 : decode prog_94_method_6_code 29 = .ok (.iconst 1, 1) := by decide +kernel
theorem d4_30 : decode prog_94_method_6_code 30 = .ok (.goto 4, 3) := by decide +kernel
theorem d4_33 : decode prog_94_method_6_code 33 = .ok (.iconst 0, 1) := by decide +kernel
theorem d4_34 : decode prog_94_method_6_code 34 = .ok (.ireturn, 1) := by decide +kernel
theorem pn4 : plainFor (⟨"org/segmentry/search/TopHits", "admits", "(J)Z"⟩ : MethodName) = true := plainFor_of_name (by first | (simp [plainName, overriddenIn]; done) | decide +kernel)
theorem ef_rmAdm (m : MethodId) (x0 : Addr) (x1 : Int64) : entryFrame m #[(.ref x0), (.long x1)] 3 = mkF m 0 #[.val (.ref x0), .val (.long x1), .second] [] := by first | (simp [entryFrame, mkF, argsToLocals, Value.category]; done) | rfl
set_option maxRecDepth 65536 in
set_option maxHeartbeats 40000000 in
theorem rmAdm {l : Launch} {Z : State} {a0 : Array Value} (hw : ∀ d ∈ tables_1, d.before a0 Z = true) (q : Int64) (x : Int64) (a r sc d : Addr) (top k : Int32) (tt : Int64) (cap : Nat) (Rk : Nat → Int64) (Sc : Nat → UInt64) (Dc : Nat → Int64) (h0 : Heap) (n0 : Nat) (TT : TH Z h0 a r sc d top k tt cap Rk Sc Dc) (hx_ : ¬ k < top → 0 < top → 0 < cap) (hR : Rk 0 = x) :
    Met l Z (⟨"org/segmentry/search/TopHits", "admits", "(J)Z"⟩ : MethodName) prog_94_method_6_code 3 (some .boolean) [] ({ frames := 0, cells := 0, slots := 0, locals := 0 } : Room) #[(.ref a), (.long q)] h0 (fun v h L => v = some (.int (own_adm k top q x)) ∧ Fr n0 L ∧ h = h0) := by
  refine Met.mk pn4 ?_
  intro p e s m below meth c T hx hby hml hown hnm hret hlk hZ X eT
  refine Go.cast (ef_rmAdm m a q) ?_
  have N := Fr.nil n0
  obtain ⟨F_m_top_a, F_m_ranks_a, F_m_scores_a, F_m_documents_a, F_m_kept_a, F_m_total_a, V_r, V_sc, V_d⟩ := TT
  show Go p e below s _ _ T (mkF m 0 #[.val (.ref a), .val (.long q), .second] [])
  refine Go.of (fun _ kq => XS.aloadN X.here hx rfl (hb hby d4_0) rfl rfl kq) ?_
  show Go p e below s _ _ T (mkF m 1 #[.val (.ref a), .val (.long q), .second] [(.ref a)])
  refine Go.getF X hx hZ hown (hw _ (List.mem_of_getElem? (i := 29) rfl)) Via.refl eT F_m_kept_a (hb hby d4_1) ?_
  intro T X eT
  show Go p e below s _ _ T (mkF m 4 #[.val (.ref a), .val (.long q), .second] [(.int k)])
  refine Go.of (fun _ kq => XS.aloadN X.here hx rfl (hb hby d4_4) rfl rfl kq) ?_
  show Go p e below s _ _ T (mkF m 5 #[.val (.ref a), .val (.long q), .second] [(.ref a), (.int k)])
  refine Go.getF X hx hZ hown (hw _ (List.mem_of_getElem? (i := 9) rfl)) Via.refl eT F_m_top_a (hb hby d4_5) ?_
  intro T X eT
  show Go p e below s _ _ T (mkF m 8 #[.val (.ref a), .val (.long q), .second] [(.int top), (.int k)])
  by_cases hc8 : k < top
  · refine Go.of (fun _ kq => XS.icmpYes X.here hx rfl (pc0 := 8) (pc' := 29) rfl (hb hby d4_8) rfl (tlt hc8).1 (by decide) (by decide) kq) ?_
    show Go p e below s _ _ T (mkF m 29 #[.val (.ref a), .val (.long q), .second] [])
    refine Go.of (fun _ kq => XS.iconst X.here hx rfl (hb hby d4_29) kq) ?_
    show Go p e below s _ _ T (mkF m 30 #[.val (.ref a), .val (.long q), .second] [(.int (1 : Int32))])
    refine Go.of (fun _ kq => XS.goto X.here hx rfl (pc0 := 30) (pc' := 34) rfl (hb hby d4_30) (by decide) (by decide) kq) ?_
    show Go p e below s _ _ T (mkF m 34 #[.val (.ref a), .val (.long q), .second] [(.int (1 : Int32))])
    refine Go.retN X hx hret (by simp) hlk (hb hby d4_34) (by decide) (by decide) ?_
    try rw [eT]
    exact ⟨by rw [show own_adm k top q x = (1 : Int32) by simp [own_adm, hc8]]; rfl, N, rfl⟩
  · refine Go.of (fun _ kq => XS.icmpNo X.here hx rfl (hb hby d4_8) rfl (flt hc8).1 kq) ?_
    show Go p e below s _ _ T (mkF m 11 #[.val (.ref a), .val (.long q), .second] [])
    refine Go.of (fun _ kq => XS.aloadN X.here hx rfl (hb hby d4_11) rfl rfl kq) ?_
    show Go p e below s _ _ T (mkF m 12 #[.val (.ref a), .val (.long q), .second] [(.ref a)])
    refine Go.getF X hx hZ hown (hw _ (List.mem_of_getElem? (i := 9) rfl)) Via.refl eT F_m_top_a (hb hby d4_12) ?_
    intro T X eT
    show Go p e below s _ _ T (mkF m 15 #[.val (.ref a), .val (.long q), .second] [(.int top)])
    by_cases hc15 : (0 : Int32) < top
    · refine Go.of (fun _ kq => XS.ifNo X.here hx rfl (hb hby d4_15) rfl ((if0 _ _).trans (tlt hc15).2.2.2) kq) ?_
      show Go p e below s _ _ T (mkF m 18 #[.val (.ref a), .val (.long q), .second] [])
      refine Go.of (fun _ kq => XS.lloadN X.here hx rfl (hb hby d4_18) rfl kq) ?_
      show Go p e below s _ _ T (mkF m 19 #[.val (.ref a), .val (.long q), .second] [(.long q)])
      refine Go.of (fun _ kq => XS.aloadN X.here hx rfl (hb hby d4_19) rfl rfl kq) ?_
      show Go p e below s _ _ T (mkF m 20 #[.val (.ref a), .val (.long q), .second] [(.ref a), (.long q)])
      refine Go.getF X hx hZ hown (hw _ (List.mem_of_getElem? (i := 16) rfl)) Via.refl eT F_m_ranks_a (hb hby d4_20) ?_
      intro T X eT
      show Go p e below s _ _ T (mkF m 23 #[.val (.ref a), .val (.long q), .second] [(.ref r), (.long q)])
      refine Go.of (fun _ kq => XS.iconst X.here hx rfl (hb hby d4_23) kq) ?_
      show Go p e below s _ _ T (mkF m 24 #[.val (.ref a), .val (.long q), .second] [(.int (0 : Int32)), (.ref r), (.long q)])
      refine Go.ldJ (.long x) X hx hZ eT V_r (show Inb (0 : Int32) cap from ⟨by decide, hx_ hc8 hc15⟩) (by rw [← hR]; rfl) (hb hby d4_24) ?_
      show Go p e below s _ _ T (mkF m 25 #[.val (.ref a), .val (.long q), .second] [(.long x), (.long q)])
      refine Go.of (fun _ kq => XS.lcmp X.here hx rfl (hb hby d4_25) rfl kq) ?_
      show Go p e below s _ _ T (mkF m 26 #[.val (.ref a), .val (.long q), .second] [(.int (lcmpW q x))])
      by_cases hc26 : q < x
      · refine Go.of (fun _ kq => XS.ifNo X.here hx rfl (hb hby d4_26) rfl (cZlt hc26).2 kq) ?_
        show Go p e below s _ _ T (mkF m 29 #[.val (.ref a), .val (.long q), .second] [])
        refine Go.of (fun _ kq => XS.iconst X.here hx rfl (hb hby d4_29) kq) ?_
        show Go p e below s _ _ T (mkF m 30 #[.val (.ref a), .val (.long q), .second] [(.int (1 : Int32))])
        refine Go.of (fun _ kq => XS.goto X.here hx rfl (pc0 := 30) (pc' := 34) rfl (hb hby d4_30) (by decide) (by decide) kq) ?_
        show Go p e below s _ _ T (mkF m 34 #[.val (.ref a), .val (.long q), .second] [(.int (1 : Int32))])
        refine Go.retN X hx hret (by simp) hlk (hb hby d4_34) (by decide) (by decide) ?_
        try rw [eT]
        exact ⟨by rw [show own_adm k top q x = (1 : Int32) by simp [own_adm, hc8, hc15, hc26]]; rfl, N, rfl⟩
      · refine Go.of (fun _ kq => XS.ifYes X.here hx rfl (pc0 := 26) (pc' := 33) rfl (hb hby d4_26) rfl (cFlt hc26).2 (by decide) (by decide) kq) ?_
        show Go p e below s _ _ T (mkF m 33 #[.val (.ref a), .val (.long q), .second] [])
        refine Go.of (fun _ kq => XS.iconst X.here hx rfl (hb hby d4_33) kq) ?_
        show Go p e below s _ _ T (mkF m 34 #[.val (.ref a), .val (.long q), .second] [(.int (0 : Int32))])
        refine Go.retN X hx hret (by simp) hlk (hb hby d4_34) (by decide) (by decide) ?_
        try rw [eT]
        exact ⟨by rw [show own_adm k top q x = (0 : Int32) by simp [own_adm, hc8, hc15, hc26]]; rfl, N, rfl⟩
    · refine Go.of (fun _ kq => XS.ifYes X.here hx rfl (pc0 := 15) (pc' := 33) rfl (hb hby d4_15) rfl ((if0 _ _).trans (flt hc15).2.2.2) (by decide) (by decide) kq) ?_
      show Go p e below s _ _ T (mkF m 33 #[.val (.ref a), .val (.long q), .second] [])
      refine Go.of (fun _ kq => XS.iconst X.here hx rfl (hb hby d4_33) kq) ?_
      show Go p e below s _ _ T (mkF m 34 #[.val (.ref a), .val (.long q), .second] [(.int (0 : Int32))])
      refine Go.retN X hx hret (by simp) hlk (hb hby d4_34) (by decide) (by decide) ?_
      try rw [eT]
      exact ⟨by rw [show own_adm k top q x = (0 : Int32) by simp [own_adm, hc8, hc15]]; rfl, N, rfl⟩
theorem d9_0 : decode prog_94_method_13_code 0 = .ok (.aload_n 0, 1) := by decide +kernel
theorem d9_1 : decode prog_94_method_13_code 1 = .ok (.getfield 42, 3) := by decide +kernel
theorem d9_4 : decode prog_94_method_13_code 4 = .ok (.iload_n 1, 1) := by decide +kernel
theorem d9_5 : decode prog_94_method_13_code 5 = .ok (.lload_n 2, 1) := by decide +kernel
theorem d9_6 : decode prog_94_method_13_code 6 = .ok (.lastore, 1) := by decide +kernel
theorem d9_7 : decode prog_94_method_13_code 7 = .ok (.aload_n 0, 1) := by decide +kernel
theorem d9_8 : decode prog_94_method_13_code 8 = .ok (.getfield 46, 3) := by decide +kernel
theorem d9_11 : decode prog_94_method_13_code 11 = .ok (.iload_n 1, 1) := by decide +kernel
theorem d9_12 : decode prog_94_method_13_code 12 = .ok (.dload 4, 2) := by decide +kernel
theorem d9_14 : decode prog_94_method_13_code 14 = .ok (.dastore, 1) := by decide +kernel
theorem d9_15 : decode prog_94_method_13_code 15 = .ok (.aload_n 0, 1) := by decide +kernel
theorem d9_16 : decode prog_94_method_13_code 16 = .ok (.getfield 50, 3) := by decide +kernel
theorem d9_19 : decode prog_94_method_13_code 19 = .ok (.iload_n 1, 1) := by decide +kernel
theorem d9_20 : decode prog_94_method_13_code 20 = .ok (.lload 6, 2) := by decide +kernel
theorem d9_22 : decode prog_94_method_13_code 22 = .ok (.lastore, 1) := by decide +kernel
theorem d9_23 : decode prog_94_method_13_code 23 = .ok (.return_, 1) := by decide +kernel
theorem pn9 : plainFor (⟨"org/segmentry/search/TopHits", "put", "(IJDJ)V"⟩ : MethodName) = true := plainFor_of_name (by first | (simp [plainName, overriddenIn]; done) | decide +kernel)
theorem ef_rmPut (m : MethodId) (x0 : Addr) (x1 : Int32) (x2 : Int64) (x3 : UInt64) (x4 : Int64) : entryFrame m #[(.ref x0), (.int x1), (.long x2), (.double x3), (.long x4)] 8 = mkF m 0 #[.val (.ref x0), .val (.int x1), .val (.long x2), .second, .val (.double x3), .second, .val (.long x4), .second] [] := by first | (simp [entryFrame, mkF, argsToLocals, Value.category]; done) | rfl
set_option maxRecDepth 65536 in
set_option maxHeartbeats 40000000 in
theorem rmPut {l : Launch} {Z : State} {a0 : Array Value} (hw : ∀ d ∈ tables_1, d.before a0 Z = true) (i : Int32) (q : Int64) (x : UInt64) (dd : Int64) (a r sc d : Addr) (top k : Int32) (tt : Int64) (cap : Nat) (Rk : Nat → Int64) (Sc : Nat → UInt64) (Dc : Nat → Int64) (h0 : Heap) (n0 : Nat) (g_a : n0 ≤ a) (g_r : n0 ≤ r) (g_sc : n0 ≤ sc) (g_d : n0 ≤ d) (ne_a_r : a ≠ r) (ne_a_sc : a ≠ sc) (ne_a_d : a ≠ d) (ne_r_sc : r ≠ sc) (ne_r_d : r ≠ d) (ne_sc_d : sc ≠ d) (hi : Inb i cap) (E_a : Exa Z h0 a "org/segmentry/search/TopHits") (TT : TH Z h0 a r sc d top k tt cap Rk Sc Dc) :
    Met l Z (⟨"org/segmentry/search/TopHits", "put", "(IJDJ)V"⟩ : MethodName) prog_94_method_13_code 8 none [] ({ frames := 0, cells := 0, slots := 0, locals := 0 } : Room) #[(.ref a), (.int i), (.long q), (.double x), (.long dd)] h0 (fun v h L => v = none ∧ Fr n0 L ∧ Keep h0 h [r, sc, d] ∧ TH Z h a r sc d top k tt cap (updJ Rk i.toNatClampNeg q) (updD Sc i.toNatClampNeg x) (updJ Dc i.toNatClampNeg dd)) := by
  refine Met.mk pn9 ?_
  intro p e s m below meth c T hx hby hml hown hnm hret hlk hZ X eT
  refine Go.cast (ef_rmPut m a i q x dd) ?_
  have N := Fr.nil n0
  have K := Keep.refl h0 [r, sc, d]
  obtain ⟨F_m_top_a, F_m_ranks_a, F_m_scores_a, F_m_documents_a, F_m_kept_a, F_m_total_a, V_r, V_sc, V_d⟩ := TT
  show Go p e below s _ _ T (mkF m 0 #[.val (.ref a), .val (.int i), .val (.long q), .second, .val (.double x), .second, .val (.long dd), .second] [])
  refine Go.of (fun _ kq => XS.aloadN X.here hx rfl (hb hby d9_0) rfl rfl kq) ?_
  show Go p e below s _ _ T (mkF m 1 #[.val (.ref a), .val (.int i), .val (.long q), .second, .val (.double x), .second, .val (.long dd), .second] [(.ref a)])
  refine Go.getF X hx hZ hown (hw _ (List.mem_of_getElem? (i := 16) rfl)) Via.refl eT F_m_ranks_a (hb hby d9_1) ?_
  intro T X eT
  show Go p e below s _ _ T (mkF m 4 #[.val (.ref a), .val (.int i), .val (.long q), .second, .val (.double x), .second, .val (.long dd), .second] [(.ref r)])
  refine Go.of (fun _ kq => XS.iloadN X.here hx rfl (hb hby d9_4) rfl kq) ?_
  show Go p e below s _ _ T (mkF m 5 #[.val (.ref a), .val (.int i), .val (.long q), .second, .val (.double x), .second, .val (.long dd), .second] [(.int i), (.ref r)])
  refine Go.of (fun _ kq => XS.lloadN X.here hx rfl (hb hby d9_5) rfl kq) ?_
  show Go p e below s _ _ T (mkF m 6 #[.val (.ref a), .val (.int i), .val (.long q), .second, .val (.double x), .second, .val (.long dd), .second] [(.long q), (.int i), (.ref r)])
  have hin : Inb i cap := hi
  refine Go.stJ X hx hZ eT V_r hin (hb hby d9_6) ?_
  intro T h X eT wr
  have N := Fr.snoc X N g_r
  have K := K.wr wr (Or.inl (List.mem_of_getElem? (i := 0) rfl))
  have E_a := E_a.wr wr
  have F_m_top_a := F_m_top_a.other wr (Or.inl ne_a_r)
  have F_m_ranks_a := F_m_ranks_a.other wr (Or.inl ne_a_r)
  have F_m_scores_a := F_m_scores_a.other wr (Or.inl ne_a_r)
  have F_m_documents_a := F_m_documents_a.other wr (Or.inl ne_a_r)
  have F_m_kept_a := F_m_kept_a.other wr (Or.inl ne_a_r)
  have F_m_total_a := F_m_total_a.other wr (Or.inl ne_a_r)
  have V_r : AV Z h r .long cap (fun j => .long ((updJ Rk i.toNatClampNeg q) j)) := V_r.setJ wr hin.2
  have V_sc := V_sc.other wr (Ne.symm ne_r_sc)
  have V_d := V_d.other wr (Ne.symm ne_r_d)
  show Go p e below s _ _ T (mkF m 7 #[.val (.ref a), .val (.int i), .val (.long q), .second, .val (.double x), .second, .val (.long dd), .second] [])
  refine Go.of (fun _ kq => XS.aloadN X.here hx rfl (hb hby d9_7) rfl rfl kq) ?_
  show Go p e below s _ _ T (mkF m 8 #[.val (.ref a), .val (.int i), .val (.long q), .second, .val (.double x), .second, .val (.long dd), .second] [(.ref a)])
  refine Go.getF X hx hZ hown (hw _ (List.mem_of_getElem? (i := 19) rfl)) Via.refl eT F_m_scores_a (hb hby d9_8) ?_
  intro T X eT
  show Go p e below s _ _ T (mkF m 11 #[.val (.ref a), .val (.int i), .val (.long q), .second, .val (.double x), .second, .val (.long dd), .second] [(.ref sc)])
  refine Go.of (fun _ kq => XS.iloadN X.here hx rfl (hb hby d9_11) rfl kq) ?_
  show Go p e below s _ _ T (mkF m 12 #[.val (.ref a), .val (.int i), .val (.long q), .second, .val (.double x), .second, .val (.long dd), .second] [(.int i), (.ref sc)])
  refine Go.of (fun _ kq => XS.dload X.here hx rfl (hb hby d9_12) rfl kq) ?_
  show Go p e below s _ _ T (mkF m 14 #[.val (.ref a), .val (.int i), .val (.long q), .second, .val (.double x), .second, .val (.long dd), .second] [(.double x), (.int i), (.ref sc)])
  have hin : Inb i cap := hi
  refine Go.stD X hx hZ eT V_sc hin (hb hby d9_14) ?_
  intro T h X eT wr
  have N := Fr.snoc X N g_sc
  have K := K.wr wr (Or.inl (List.mem_of_getElem? (i := 1) rfl))
  have E_a := E_a.wr wr
  have F_m_top_a := F_m_top_a.other wr (Or.inl ne_a_sc)
  have F_m_ranks_a := F_m_ranks_a.other wr (Or.inl ne_a_sc)
  have F_m_scores_a := F_m_scores_a.other wr (Or.inl ne_a_sc)
  have F_m_documents_a := F_m_documents_a.other wr (Or.inl ne_a_sc)
  have F_m_kept_a := F_m_kept_a.other wr (Or.inl ne_a_sc)
  have F_m_total_a := F_m_total_a.other wr (Or.inl ne_a_sc)
  have V_r := V_r.other wr ne_r_sc
  have V_sc : AV Z h sc .double cap (fun j => .double ((updD Sc i.toNatClampNeg x) j)) := V_sc.setD wr hin.2
  have V_d := V_d.other wr (Ne.symm ne_sc_d)
  show Go p e below s _ _ T (mkF m 15 #[.val (.ref a), .val (.int i), .val (.long q), .second, .val (.double x), .second, .val (.long dd), .second] [])
  refine Go.of (fun _ kq => XS.aloadN X.here hx rfl (hb hby d9_15) rfl rfl kq) ?_
  show Go p e below s _ _ T (mkF m 16 #[.val (.ref a), .val (.int i), .val (.long q), .second, .val (.double x), .second, .val (.long dd), .second] [(.ref a)])
  refine Go.getF X hx hZ hown (hw _ (List.mem_of_getElem? (i := 21) rfl)) Via.refl eT F_m_documents_a (hb hby d9_16) ?_
  intro T X eT
  show Go p e below s _ _ T (mkF m 19 #[.val (.ref a), .val (.int i), .val (.long q), .second, .val (.double x), .second, .val (.long dd), .second] [(.ref d)])
  refine Go.of (fun _ kq => XS.iloadN X.here hx rfl (hb hby d9_19) rfl kq) ?_
  show Go p e below s _ _ T (mkF m 20 #[.val (.ref a), .val (.int i), .val (.long q), .second, .val (.double x), .second, .val (.long dd), .second] [(.int i), (.ref d)])
  refine Go.of (fun _ kq => XS.lload X.here hx rfl (hb hby d9_20) rfl kq) ?_
  show Go p e below s _ _ T (mkF m 22 #[.val (.ref a), .val (.int i), .val (.long q), .second, .val (.double x), .second, .val (.long dd), .second] [(.long dd), (.int i), (.ref d)])
  have hin : Inb i cap := hi
  refine Go.stJ X hx hZ eT V_d hin (hb hby d9_22) ?_
  intro T h X eT wr
  have N := Fr.snoc X N g_d
  have K := K.wr wr (Or.inl (List.mem_of_getElem? (i := 2) rfl))
  have E_a := E_a.wr wr
  have F_m_top_a := F_m_top_a.other wr (Or.inl ne_a_d)
  have F_m_ranks_a := F_m_ranks_a.other wr (Or.inl ne_a_d)
  have F_m_scores_a := F_m_scores_a.other wr (Or.inl ne_a_d)
  have F_m_documents_a := F_m_documents_a.other wr (Or.inl ne_a_d)
  have F_m_kept_a := F_m_kept_a.other wr (Or.inl ne_a_d)
  have F_m_total_a := F_m_total_a.other wr (Or.inl ne_a_d)
  have V_r := V_r.other wr ne_r_d
  have V_sc := V_sc.other wr ne_sc_d
  have V_d : AV Z h d .long cap (fun j => .long ((updJ Dc i.toNatClampNeg dd) j)) := V_d.setJ wr hin.2
  show Go p e below s _ _ T (mkF m 23 #[.val (.ref a), .val (.int i), .val (.long q), .second, .val (.double x), .second, .val (.long dd), .second] [])
  refine Go.retV X hx hret hlk (hb hby d9_23) (by decide) (by decide) ?_
  try rw [eT]
  exact ⟨rfl, N, K, F_m_top_a, F_m_ranks_a, F_m_scores_a, F_m_documents_a, F_m_kept_a, F_m_total_a, V_r, V_sc, V_d⟩
theorem d11_0 : decode prog_94_method_14_code 0 = .ok (.aload_n 0, 1) := by decide +kernel
theorem d11_1 : decode prog_94_method_14_code 1 = .ok (.iload_n 2, 1) := by decide +kernel
theorem d11_2 : decode prog_94_method_14_code 2 = .ok (.aload_n 0, 1) := by decide +kernel
theorem d11_3 : decode prog_94_method_14_code 3 = .ok (.getfield 42, 3) := by decide +kernel
theorem d11_6 : decode prog_94_method_14_code 6 = .ok (.iload_n 1, 1) := by decide +kernel
theorem d11_7 : decode prog_94_method_14_code 7 = .ok (.laload, 1) := by decide +kernel
theorem d11_8 : decode prog_94_method_14_code 8 = .ok (.aload_n 0, 1) := by decide +kernel
theorem d11_9 : decode prog_94_method_14_code 9 = .ok (.getfield 46, 3) := by decide +kernel
theorem d11_12 : decode prog_94_method_14_code 12 = .ok (.iload_n 1, 1) := by decide +kernel
theorem d11_13 : decode prog_94_method_14_code 13 = .ok (.daload, 1) := by decide +kernel
theorem d11_14 : decode prog_94_method_14_code 14 = .ok (.aload_n 0, 1) := by decide +kernel
theorem d11_15 : decode prog_94_method_14_code 15 = .ok (.getfield 50, 3) := by decide +kernel
theorem d11_18 : decode prog_94_method_14_code 18 = .ok (.iload_n 1, 1) := by decide +kernel
theorem d11_19 : decode prog_94_method_14_code 19 = .ok (.laload, 1) := by decide +kernel
theorem d11_20 : decode prog_94_method_14_code 20 = .ok (.invokevirtual 131, 3) := by decide +kernel
theorem d11_23 : decode prog_94_method_14_code 23 = .ok (.return_, 1) := by decide +kernel
theorem pn11 : plainFor (⟨"org/segmentry/search/TopHits", "move", "(II)V"⟩ : MethodName) = true := plainFor_of_name (by first | (simp [plainName, overriddenIn]; done) | decide +kernel)
theorem ef_rmMove (m : MethodId) (x0 : Addr) (x1 : Int32) (x2 : Int32) : entryFrame m #[(.ref x0), (.int x1), (.int x2)] 3 = mkF m 0 #[.val (.ref x0), .val (.int x1), .val (.int x2)] [] := by first | (simp [entryFrame, mkF, argsToLocals, Value.category]; done) | rfl
set_option maxRecDepth 65536 in
set_option maxHeartbeats 40000000 in
theorem rmMove {l : Launch} {Z : State} {a0 : Array Value} (hw : ∀ d ∈ tables_1, d.before a0 Z = true) (i j : Int32) (a r sc d : Addr) (top k : Int32) (tt : Int64) (cap : Nat) (Rk : Nat → Int64) (Sc : Nat → UInt64) (Dc : Nat → Int64) (h0 : Heap) (n0 : Nat) (g_a : n0 ≤ a) (g_r : n0 ≤ r) (g_sc : n0 ≤ sc) (g_d : n0 ≤ d) (ne_a_r : a ≠ r) (ne_a_sc : a ≠ sc) (ne_a_d : a ≠ d) (ne_r_sc : r ≠ sc) (ne_r_d : r ≠ d) (ne_sc_d : sc ≠ d) (hi : Inb i cap) (hj : Inb j cap) (E_a : Exa Z h0 a "org/segmentry/search/TopHits") (TT : TH Z h0 a r sc d top k tt cap Rk Sc Dc) :
    Met l Z (⟨"org/segmentry/search/TopHits", "move", "(II)V"⟩ : MethodName) prog_94_method_14_code 3 none [] ({ frames := 1, cells := 0, slots := 0, locals := 19 } : Room) #[(.ref a), (.int i), (.int j)] h0 (fun v h L => v = none ∧ Fr n0 L ∧ Keep h0 h [r, sc, d] ∧ TH Z h a r sc d top k tt cap (updJ Rk j.toNatClampNeg (Rk i.toNatClampNeg)) (updD Sc j.toNatClampNeg (Sc i.toNatClampNeg)) (updJ Dc j.toNatClampNeg (Dc i.toNatClampNeg))) := by
  refine Met.mk pn11 ?_
  intro p e s m below meth c T hx hby hml hown hnm hret hlk hZ X eT
  refine Go.cast (ef_rmMove m a i j) ?_
  have N := Fr.nil n0
  have K := Keep.refl h0 [r, sc, d]
  obtain ⟨F_m_top_a, F_m_ranks_a, F_m_scores_a, F_m_documents_a, F_m_kept_a, F_m_total_a, V_r, V_sc, V_d⟩ := id TT
  show Go p e below s _ _ T (mkF m 0 #[.val (.ref a), .val (.int i), .val (.int j)] [])
  refine Go.of (fun _ kq => XS.aloadN X.here hx rfl (hb hby d11_0) rfl rfl kq) ?_
  show Go p e below s _ _ T (mkF m 1 #[.val (.ref a), .val (.int i), .val (.int j)] [(.ref a)])
  refine Go.of (fun _ kq => XS.iloadN X.here hx rfl (hb hby d11_1) rfl kq) ?_
  show Go p e below s _ _ T (mkF m 2 #[.val (.ref a), .val (.int i), .val (.int j)] [(.int j), (.ref a)])
  refine Go.of (fun _ kq => XS.aloadN X.here hx rfl (hb hby d11_2) rfl rfl kq) ?_
  show Go p e below s _ _ T (mkF m 3 #[.val (.ref a), .val (.int i), .val (.int j)] [(.ref a), (.int j), (.ref a)])
  refine Go.getF X hx hZ hown (hw _ (List.mem_of_getElem? (i := 16) rfl)) Via.refl eT F_m_ranks_a (hb hby d11_3) ?_
  intro T X eT
  show Go p e below s _ _ T (mkF m 6 #[.val (.ref a), .val (.int i), .val (.int j)] [(.ref r), (.int j), (.ref a)])
  refine Go.of (fun _ kq => XS.iloadN X.here hx rfl (hb hby d11_6) rfl kq) ?_
  show Go p e below s _ _ T (mkF m 7 #[.val (.ref a), .val (.int i), .val (.int j)] [(.int i), (.ref r), (.int j), (.ref a)])
  refine Go.ldJ (.long (Rk i.toNatClampNeg)) X hx hZ eT V_r (show Inb i cap from hi) rfl (hb hby d11_7) ?_
  show Go p e below s _ _ T (mkF m 8 #[.val (.ref a), .val (.int i), .val (.int j)] [(.long (Rk i.toNatClampNeg)), (.int j), (.ref a)])
  refine Go.of (fun _ kq => XS.aloadN X.here hx rfl (hb hby d11_8) rfl rfl kq) ?_
  show Go p e below s _ _ T (mkF m 9 #[.val (.ref a), .val (.int i), .val (.int j)] [(.ref a), (.long (Rk i.toNatClampNeg)), (.int j), (.ref a)])
  refine Go.getF X hx hZ hown (hw _ (List.mem_of_getElem? (i := 19) rfl)) Via.refl eT F_m_scores_a (hb hby d11_9) ?_
  intro T X eT
  show Go p e below s _ _ T (mkF m 12 #[.val (.ref a), .val (.int i), .val (.int j)] [(.ref sc), (.long (Rk i.toNatClampNeg)), (.int j), (.ref a)])
  refine Go.of (fun _ kq => XS.iloadN X.here hx rfl (hb hby d11_12) rfl kq) ?_
  show Go p e below s _ _ T (mkF m 13 #[.val (.ref a), .val (.int i), .val (.int j)] [(.int i), (.ref sc), (.long (Rk i.toNatClampNeg)), (.int j), (.ref a)])
  refine Go.ldD (.double (Sc i.toNatClampNeg)) X hx hZ eT V_sc (show Inb i cap from hi) rfl (hb hby d11_13) ?_
  show Go p e below s _ _ T (mkF m 14 #[.val (.ref a), .val (.int i), .val (.int j)] [(.double (Sc i.toNatClampNeg)), (.long (Rk i.toNatClampNeg)), (.int j), (.ref a)])
  refine Go.of (fun _ kq => XS.aloadN X.here hx rfl (hb hby d11_14) rfl rfl kq) ?_
  show Go p e below s _ _ T (mkF m 15 #[.val (.ref a), .val (.int i), .val (.int j)] [(.ref a), (.double (Sc i.toNatClampNeg)), (.long (Rk i.toNatClampNeg)), (.int j), (.ref a)])
  refine Go.getF X hx hZ hown (hw _ (List.mem_of_getElem? (i := 21) rfl)) Via.refl eT F_m_documents_a (hb hby d11_15) ?_
  intro T X eT
  show Go p e below s _ _ T (mkF m 18 #[.val (.ref a), .val (.int i), .val (.int j)] [(.ref d), (.double (Sc i.toNatClampNeg)), (.long (Rk i.toNatClampNeg)), (.int j), (.ref a)])
  refine Go.of (fun _ kq => XS.iloadN X.here hx rfl (hb hby d11_18) rfl kq) ?_
  show Go p e below s _ _ T (mkF m 19 #[.val (.ref a), .val (.int i), .val (.int j)] [(.int i), (.ref d), (.double (Sc i.toNatClampNeg)), (.long (Rk i.toNatClampNeg)), (.int j), (.ref a)])
  refine Go.ldJ (.long (Dc i.toNatClampNeg)) X hx hZ eT V_d (show Inb i cap from hi) rfl (hb hby d11_19) ?_
  show Go p e below s _ _ T (mkF m 20 #[.val (.ref a), .val (.int i), .val (.int j)] [(.long (Dc i.toNatClampNeg)), (.double (Sc i.toNatClampNeg)), (.long (Rk i.toNatClampNeg)), (.int j), (.ref a)])
  refine Go.priv (a := a) X hx hZ hown (hw _ (List.mem_of_getElem? (i := 52) rfl)) (hw _ (List.mem_of_getElem? (i := 53) rfl)) (hw _ (List.mem_of_getElem? (i := 1) rfl)) (hw _ (List.mem_of_getElem? (i := 54) rfl)) (hw _ (List.mem_of_getElem? (i := 2) rfl)) (hw _ (List.mem_of_getElem? (i := 55) rfl)) (by decide) (rmPut hw j (Rk i.toNatClampNeg) (Sc i.toNatClampNeg) (Dc i.toNatClampNeg) a r sc d top k tt cap Rk Sc Dc _ n0 g_a g_r g_sc g_d ne_a_r ne_a_sc ne_a_d ne_r_sc ne_r_d ne_sc_d hj E_a TT) eT E_a 0 (by decide) (by decide) (by decide) (by decide) (by rw [hml]; rfl) (argsL := [(.int j), (.long (Rk i.toNatClampNeg)), (.double (Sc i.toNatClampNeg)), (.long (Dc i.toNatClampNeg))]) [] (lenOf pd2 rfl) rfl rfl (Nat.le_of_eq rfl) (hb hby d11_20) ?_
  intro v T L' X hQ
  obtain ⟨h, eT⟩ : ∃ z, T.heap = z := ⟨_, rfl⟩
  rw [eT] at hQ
  obtain ⟨rfl, N', K', TT⟩ := hQ
  have N := Fr.app N N'
  have K := K.trans K' (own_all3 (Or.inl (List.mem_of_getElem? (i := 0) rfl)) (Or.inl (List.mem_of_getElem? (i := 1) rfl)) (Or.inl (List.mem_of_getElem? (i := 2) rfl)))
  have E_a := E_a.keep K'
  have F_m_top_a := F_m_top_a.keep K' (own_ni3 ne_a_r ne_a_sc ne_a_d)
  have F_m_ranks_a := F_m_ranks_a.keep K' (own_ni3 ne_a_r ne_a_sc ne_a_d)
  have F_m_scores_a := F_m_scores_a.keep K' (own_ni3 ne_a_r ne_a_sc ne_a_d)
  have F_m_documents_a := F_m_documents_a.keep K' (own_ni3 ne_a_r ne_a_sc ne_a_d)
  have F_m_kept_a := F_m_kept_a.keep K' (own_ni3 ne_a_r ne_a_sc ne_a_d)
  have F_m_total_a := F_m_total_a.keep K' (own_ni3 ne_a_r ne_a_sc ne_a_d)
  have TT : TH Z h a r sc d top k tt cap (updJ Rk j.toNatClampNeg (Rk i.toNatClampNeg)) (updD Sc j.toNatClampNeg (Sc i.toNatClampNeg)) (updJ Dc j.toNatClampNeg (Dc i.toNatClampNeg)) := TT
  show Go p e below s _ _ T (mkF m 23 #[.val (.ref a), .val (.int i), .val (.int j)] [])
  refine Go.retV X hx hret hlk (hb hby d11_23) (by decide) (by decide) ?_
  try rw [eT]
  exact ⟨rfl, N, K, TT⟩
theorem d8_0 : decode prog_94_method_11_code 0 = .ok (.iload_n 1, 1) := by decide +kernel
theorem d8_1 : decode prog_94_method_11_code 1 = .ok (.ifCond .le 49, 3) := by decide +kernel
theorem d8_50 : decode prog_94_method_11_code 50 = .ok (.aload_n 0, 1) := by decide +kernel
theorem d8_51 : decode prog_94_method_11_code 51 = .ok (.iload_n 1, 1) := by decide +kernel
theorem d8_52 : decode prog_94_method_11_code 52 = .ok (.lload_n 2, 1) := by decide +kernel
theorem d8_53 : decode prog_94_method_11_code 53 = .ok (.dload 4, 2) := by decide +kernel
theorem d8_55 : decode prog_94_method_11_code 55 = .ok (.lload 6, 2) := by decide +kernel
theorem d8_57 : decode prog_94_method_11_code 57 = .ok (.invokevirtual 131, 3) := by decide +kernel
theorem d8_60 : decode prog_94_method_11_code 60 = .ok (.return_, 1) := by decide +kernel
theorem pn8 : plainFor (⟨"org/segmentry/search/TopHits", "siftUp", "(IJDJ)V"⟩ : MethodName) = true := plainFor_of_name (by first | (simp [plainName, overriddenIn]; done) | decide +kernel)
theorem ef_rmUp0 (m : MethodId) (x0 : Addr) (x1 : Int32) (x2 : Int64) (x3 : UInt64) (x4 : Int64) : entryFrame m #[(.ref x0), (.int x1), (.long x2), (.double x3), (.long x4)] 9 = mkF m 0 #[.val (.ref x0), .val (.int x1), .val (.long x2), .second, .val (.double x3), .second, .val (.long x4), .second, .unset] [] := by first | (simp [entryFrame, mkF, argsToLocals, Value.category]; done) | rfl
set_option maxRecDepth 65536 in
set_option maxHeartbeats 40000000 in
theorem rmUp0 {l : Launch} {Z : State} {a0 : Array Value} (hw : ∀ d ∈ tables_1, d.before a0 Z = true) (q : Int64) (x : UInt64) (dd : Int64) (a r sc d : Addr) (top k : Int32) (tt : Int64) (cap : Nat) (Rk : Nat → Int64) (Sc : Nat → UInt64) (Dc : Nat → Int64) (h0 : Heap) (n0 : Nat) (g_a : n0 ≤ a) (g_r : n0 ≤ r) (g_sc : n0 ≤ sc) (g_d : n0 ≤ d) (ne_a_r : a ≠ r) (ne_a_sc : a ≠ sc) (ne_a_d : a ≠ d) (ne_r_sc : r ≠ sc) (ne_r_d : r ≠ d) (ne_sc_d : sc ≠ d) (h0_ : 0 < cap) (hp_ : 0 < cap) (E_a : Exa Z h0 a "org/segmentry/search/TopHits") (TT : TH Z h0 a r sc d top k tt cap Rk Sc Dc) :
    Met l Z (⟨"org/segmentry/search/TopHits", "siftUp", "(IJDJ)V"⟩ : MethodName) prog_94_method_11_code 9 none [] ({ frames := 2, cells := 0, slots := 0, locals := 33 } : Room) #[(.ref a), (.int (0 : Int32)), (.long q), (.double x), (.long dd)] h0 (fun v h L => v = none ∧ Fr n0 L ∧ Keep h0 h [r, sc, d] ∧ ∃ (Rk' : Nat → Int64) (Sc' : Nat → UInt64) (Dc' : Nat → Int64), TH Z h a r sc d top k tt cap Rk' Sc' Dc' ∧ Rk' 0 = q) := by
  refine Met.mk pn8 ?_
  intro p e s m below meth c T hx hby hml hown hnm hret hlk hZ X eT
  refine Go.cast (ef_rmUp0 m a (0 : Int32) q x dd) ?_
  have N := Fr.nil n0
  have K := Keep.refl h0 [r, sc, d]
  obtain ⟨F_m_top_a, F_m_ranks_a, F_m_scores_a, F_m_documents_a, F_m_kept_a, F_m_total_a, V_r, V_sc, V_d⟩ := id TT
  show Go p e below s _ _ T (mkF m 0 #[.val (.ref a), .val (.int (0 : Int32)), .val (.long q), .second, .val (.double x), .second, .val (.long dd), .second, .unset] [])
  refine Go.of (fun _ kq => XS.iloadN X.here hx rfl (hb hby d8_0) rfl kq) ?_
  show Go p e below s _ _ T (mkF m 1 #[.val (.ref a), .val (.int (0 : Int32)), .val (.long q), .second, .val (.double x), .second, .val (.long dd), .second, .unset] [(.int (0 : Int32))])
  refine Go.of (fun _ kq => XS.ifYes X.here hx rfl (pc0 := 1) (pc' := 50) rfl (hb hby d8_1) rfl ((if0 _ _).trans (flt (by decide)).2.2.2) (by decide) (by decide) kq) ?_
  show Go p e below s _ _ T (mkF m 50 #[.val (.ref a), .val (.int (0 : Int32)), .val (.long q), .second, .val (.double x), .second, .val (.long dd), .second, .unset] [])
  refine Go.of (fun _ kq => XS.aloadN X.here hx rfl (hb hby d8_50) rfl rfl kq) ?_
  show Go p e below s _ _ T (mkF m 51 #[.val (.ref a), .val (.int (0 : Int32)), .val (.long q), .second, .val (.double x), .second, .val (.long dd), .second, .unset] [(.ref a)])
  refine Go.of (fun _ kq => XS.iloadN X.here hx rfl (hb hby d8_51) rfl kq) ?_
  show Go p e below s _ _ T (mkF m 52 #[.val (.ref a), .val (.int (0 : Int32)), .val (.long q), .second, .val (.double x), .second, .val (.long dd), .second, .unset] [(.int (0 : Int32)), (.ref a)])
  refine Go.of (fun _ kq => XS.lloadN X.here hx rfl (hb hby d8_52) rfl kq) ?_
  show Go p e below s _ _ T (mkF m 53 #[.val (.ref a), .val (.int (0 : Int32)), .val (.long q), .second, .val (.double x), .second, .val (.long dd), .second, .unset] [(.long q), (.int (0 : Int32)), (.ref a)])
  refine Go.of (fun _ kq => XS.dload X.here hx rfl (hb hby d8_53) rfl kq) ?_
  show Go p e below s _ _ T (mkF m 55 #[.val (.ref a), .val (.int (0 : Int32)), .val (.long q), .second, .val (.double x), .second, .val (.long dd), .second, .unset] [(.double x), (.long q), (.int (0 : Int32)), (.ref a)])
  refine Go.of (fun _ kq => XS.lload X.here hx rfl (hb hby d8_55) rfl kq) ?_
  show Go p e below s _ _ T (mkF m 57 #[.val (.ref a), .val (.int (0 : Int32)), .val (.long q), .second, .val (.double x), .second, .val (.long dd), .second, .unset] [(.long dd), (.double x), (.long q), (.int (0 : Int32)), (.ref a)])
  refine Go.priv (a := a) X hx hZ hown (hw _ (List.mem_of_getElem? (i := 52) rfl)) (hw _ (List.mem_of_getElem? (i := 53) rfl)) (hw _ (List.mem_of_getElem? (i := 1) rfl)) (hw _ (List.mem_of_getElem? (i := 54) rfl)) (hw _ (List.mem_of_getElem? (i := 2) rfl)) (hw _ (List.mem_of_getElem? (i := 55) rfl)) (by decide) (rmPut hw (0 : Int32) q x dd a r sc d top k tt cap Rk Sc Dc _ n0 g_a g_r g_sc g_d ne_a_r ne_a_sc ne_a_d ne_r_sc ne_r_d ne_sc_d ⟨by decide, h0_⟩ E_a TT) eT E_a 0 (by decide) (by decide) (by decide) (by decide) (by rw [hml]; rfl) (argsL := [(.int (0 : Int32)), (.long q), (.double x), (.long dd)]) [] (lenOf pd2 rfl) rfl rfl (Nat.le_of_eq rfl) (hb hby d8_57) ?_
  intro v T L' X hQ
  obtain ⟨h, eT⟩ : ∃ z, T.heap = z := ⟨_, rfl⟩
  rw [eT] at hQ
  obtain ⟨rfl, N', K', TT⟩ := hQ
  have N := Fr.app N N'
  have K := K.trans K' (own_all3 (Or.inl (List.mem_of_getElem? (i := 0) rfl)) (Or.inl (List.mem_of_getElem? (i := 1) rfl)) (Or.inl (List.mem_of_getElem? (i := 2) rfl)))
  have E_a := E_a.keep K'
  have F_m_top_a := F_m_top_a.keep K' (own_ni3 ne_a_r ne_a_sc ne_a_d)
  have F_m_ranks_a := F_m_ranks_a.keep K' (own_ni3 ne_a_r ne_a_sc ne_a_d)
  have F_m_scores_a := F_m_scores_a.keep K' (own_ni3 ne_a_r ne_a_sc ne_a_d)
  have F_m_documents_a := F_m_documents_a.keep K' (own_ni3 ne_a_r ne_a_sc ne_a_d)
  have F_m_kept_a := F_m_kept_a.keep K' (own_ni3 ne_a_r ne_a_sc ne_a_d)
  have F_m_total_a := F_m_total_a.keep K' (own_ni3 ne_a_r ne_a_sc ne_a_d)
  have TT : TH Z h a r sc d top k tt cap (updJ Rk 0 q) (updD Sc 0 x) (updJ Dc 0 dd) := TT
  show Go p e below s _ _ T (mkF m 60 #[.val (.ref a), .val (.int (0 : Int32)), .val (.long q), .second, .val (.double x), .second, .val (.long dd), .second, .unset] [])
  refine Go.retV X hx hret hlk (hb hby d8_60) (by decide) (by decide) ?_
  try rw [eT]
  exact ⟨rfl, N, K, _, _, _, TT, rfl⟩
theorem d8_4 : decode prog_94_method_11_code 4 = .ok (.iload_n 1, 1) := by decide +kernel
theorem d8_5 : decode prog_94_method_11_code 5 = .ok (.iconst 1, 1) := by decide +kernel
theorem d8_6 : decode prog_94_method_11_code 6 = .ok (.isub, 1) := by decide +kernel
theorem d8_7 : decode prog_94_method_11_code 7 = .ok (.iconst 1, 1) := by decide +kernel
theorem d8_8 : decode prog_94_method_11_code 8 = .ok (.iushr, 1) := by decide +kernel
theorem d8_9 : decode prog_94_method_11_code 9 = .ok (.istore 8, 2) := by decide +kernel
theorem d8_11 : decode prog_94_method_11_code 11 = .ok (.lload_n 2, 1) := by decide +kernel
theorem d8_12 : decode prog_94_method_11_code 12 = .ok (.lload 6, 2) := by decide +kernel
theorem d8_14 : decode prog_94_method_11_code 14 = .ok (.aload_n 0, 1) := by decide +kernel
theorem d8_15 : decode prog_94_method_11_code 15 = .ok (.getfield 42, 3) := by decide +kernel
theorem d8_18 : decode prog_94_method_11_code 18 = .ok (.iload 8, 2) := by decide +kernel
theorem d8_20 : decode prog_94_method_11_code 20 = .ok (.laload, 1) := by decide +kernel
theorem d8_21 : decode prog_94_method_11_code 21 = .ok (.aload_n 0, 1) := by decide +kernel
theorem d8_22 : decode prog_94_method_11_code 22 = .ok (.getfield 50, 3) := by decide +kernel
theorem d8_25 : decode prog_94_method_11_code 25 = .ok (.iload 8, 2) := by decide +kernel
theorem d8_27 : decode prog_94_method_11_code 27 = .ok (.laload, 1) := by decide +kernel
theorem d8_28 : decode prog_94_method_11_code 28 = .ok (.invokestatic 123, 3) := by decide +kernel
theorem d8_31 : decode prog_94_method_11_code 31 = .ok (.ifCond .ne 6, 3) := by decide +kernel
theorem d8_34 : decode prog_94_method_11_code 34 = .ok (.goto 16, 3) := by decide +kernel
theorem d8_37 : decode prog_94_method_11_code 37 = .ok (.aload_n 0, 1) := by decide +kernel
theorem d8_38 : decode prog_94_method_11_code 38 = .ok (.iload 8, 2) := by decide +kernel
theorem d8_40 : decode prog_94_method_11_code 40 = .ok (.iload_n 1, 1) := by decide +kernel
theorem d8_41 : decode prog_94_method_11_code 41 = .ok (.invokevirtual 127, 3) := by decide +kernel
theorem d8_44 : decode prog_94_method_11_code 44 = .ok (.iload 8, 2) := by decide +kernel
theorem d8_46 : decode prog_94_method_11_code 46 = .ok (.istore_n 1, 1) := by decide +kernel
theorem d8_47 : decode prog_94_method_11_code 47 = .ok (.goto (-47), 3) := by decide +kernel
theorem ef_rmUp1 (m : MethodId) (x0 : Addr) (x1 : Int32) (x2 : Int64) (x3 : UInt64) (x4 : Int64) : entryFrame m #[(.ref x0), (.int x1), (.long x2), (.double x3), (.long x4)] 9 = mkF m 0 #[.val (.ref x0), .val (.int x1), .val (.long x2), .second, .val (.double x3), .second, .val (.long x4), .second, .unset] [] := by first | (simp [entryFrame, mkF, argsToLocals, Value.category]; done) | rfl
set_option maxRecDepth 65536 in
set_option maxHeartbeats 40000000 in
theorem rmUp1 {l : Launch} {Z : State} {a0 : Array Value} (hw : ∀ d ∈ tables_1, d.before a0 Z = true) (q : Int64) (x : UInt64) (dd : Int64) (a r sc d : Addr) (top k : Int32) (tt : Int64) (cap : Nat) (Rk : Nat → Int64) (Sc : Nat → UInt64) (Dc : Nat → Int64) (h0 : Heap) (n0 : Nat) (g_a : n0 ≤ a) (g_r : n0 ≤ r) (g_sc : n0 ≤ sc) (g_d : n0 ≤ d) (ne_a_r : a ≠ r) (ne_a_sc : a ≠ sc) (ne_a_d : a ≠ d) (ne_r_sc : r ≠ sc) (ne_r_d : r ≠ d) (ne_sc_d : sc ≠ d) (h0_ : 0 < cap) (hp_ : 1 < cap) (E_a : Exa Z h0 a "org/segmentry/search/TopHits") (TT : TH Z h0 a r sc d top k tt cap Rk Sc Dc) :
    Met l Z (⟨"org/segmentry/search/TopHits", "siftUp", "(IJDJ)V"⟩ : MethodName) prog_94_method_11_code 9 none [] ({ frames := 2, cells := 0, slots := 0, locals := 33 } : Room) #[(.ref a), (.int (1 : Int32)), (.long q), (.double x), (.long dd)] h0 (fun v h L => v = none ∧ Fr n0 L ∧ Keep h0 h [r, sc, d] ∧ ∃ (Rk' : Nat → Int64) (Sc' : Nat → UInt64) (Dc' : Nat → Int64), TH Z h a r sc d top k tt cap Rk' Sc' Dc' ∧ Rk' 0 = own_max (Rk 0) q ∧ Rk' 1 = own_min (Rk 0) q) := by
  refine Met.mk pn8 ?_
  intro p e s m below meth c T hx hby hml hown hnm hret hlk hZ X eT
  refine Go.cast (ef_rmUp1 m a (1 : Int32) q x dd) ?_
  have N := Fr.nil n0
  have K := Keep.refl h0 [r, sc, d]
  obtain ⟨F_m_top_a, F_m_ranks_a, F_m_scores_a, F_m_documents_a, F_m_kept_a, F_m_total_a, V_r, V_sc, V_d⟩ := id TT
  show Go p e below s _ _ T (mkF m 0 #[.val (.ref a), .val (.int (1 : Int32)), .val (.long q), .second, .val (.double x), .second, .val (.long dd), .second, .unset] [])
  refine Go.of (fun _ kq => XS.iloadN X.here hx rfl (hb hby d8_0) rfl kq) ?_
  show Go p e below s _ _ T (mkF m 1 #[.val (.ref a), .val (.int (1 : Int32)), .val (.long q), .second, .val (.double x), .second, .val (.long dd), .second, .unset] [(.int (1 : Int32))])
  refine Go.of (fun _ kq => XS.ifNo X.here hx rfl (hb hby d8_1) rfl ((if0 _ _).trans (tlt (by decide)).2.2.2) kq) ?_
  show Go p e below s _ _ T (mkF m 4 #[.val (.ref a), .val (.int (1 : Int32)), .val (.long q), .second, .val (.double x), .second, .val (.long dd), .second, .unset] [])
  refine Go.of (fun _ kq => XS.iloadN X.here hx rfl (hb hby d8_4) rfl kq) ?_
  show Go p e below s _ _ T (mkF m 5 #[.val (.ref a), .val (.int (1 : Int32)), .val (.long q), .second, .val (.double x), .second, .val (.long dd), .second, .unset] [(.int (1 : Int32))])
  refine Go.of (fun _ kq => XS.iconst X.here hx rfl (hb hby d8_5) kq) ?_
  show Go p e below s _ _ T (mkF m 6 #[.val (.ref a), .val (.int (1 : Int32)), .val (.long q), .second, .val (.double x), .second, .val (.long dd), .second, .unset] [(.int (1 : Int32)), (.int (1 : Int32))])
  refine Go.of (fun _ kq => XS.isub X.here hx rfl (hb hby d8_6) rfl kq) ?_
  show Go p e below s _ _ T (mkF m 7 #[.val (.ref a), .val (.int (1 : Int32)), .val (.long q), .second, .val (.double x), .second, .val (.long dd), .second, .unset] [(.int (0 : Int32))])
  refine Go.of (fun _ kq => XS.iconst X.here hx rfl (hb hby d8_7) kq) ?_
  show Go p e below s _ _ T (mkF m 8 #[.val (.ref a), .val (.int (1 : Int32)), .val (.long q), .second, .val (.double x), .second, .val (.long dd), .second, .unset] [(.int (1 : Int32)), (.int (0 : Int32))])
  refine Go.of (fun _ kq => XS.iushr X.here hx rfl (hb hby d8_8) rfl kq) ?_
  show Go p e below s _ _ T (mkF m 9 #[.val (.ref a), .val (.int (1 : Int32)), .val (.long q), .second, .val (.double x), .second, .val (.long dd), .second, .unset] [(.int (0 : Int32))])
  refine Go.of (fun _ kq => XS.istore X.here hx rfl (hb hby d8_9) rfl (l' := #[.val (.ref a), .val (.int (1 : Int32)), .val (.long q), .second, .val (.double x), .second, .val (.long dd), .second, .val (.int (0 : Int32))]) rfl kq) ?_
  show Go p e below s _ _ T (mkF m 11 #[.val (.ref a), .val (.int (1 : Int32)), .val (.long q), .second, .val (.double x), .second, .val (.long dd), .second, .val (.int (0 : Int32))] [])
  refine Go.of (fun _ kq => XS.lloadN X.here hx rfl (hb hby d8_11) rfl kq) ?_
  show Go p e below s _ _ T (mkF m 12 #[.val (.ref a), .val (.int (1 : Int32)), .val (.long q), .second, .val (.double x), .second, .val (.long dd), .second, .val (.int (0 : Int32))] [(.long q)])
  refine Go.of (fun _ kq => XS.lload X.here hx rfl (hb hby d8_12) rfl kq) ?_
  show Go p e below s _ _ T (mkF m 14 #[.val (.ref a), .val (.int (1 : Int32)), .val (.long q), .second, .val (.double x), .second, .val (.long dd), .second, .val (.int (0 : Int32))] [(.long dd), (.long q)])
  refine Go.of (fun _ kq => XS.aloadN X.here hx rfl (hb hby d8_14) rfl rfl kq) ?_
  show Go p e below s _ _ T (mkF m 15 #[.val (.ref a), .val (.int (1 : Int32)), .val (.long q), .second, .val (.double x), .second, .val (.long dd), .second, .val (.int (0 : Int32))] [(.ref a), (.long dd), (.long q)])
  refine Go.getF X hx hZ hown (hw _ (List.mem_of_getElem? (i := 16) rfl)) Via.refl eT F_m_ranks_a (hb hby d8_15) ?_
  intro T X eT
  show Go p e below s _ _ T (mkF m 18 #[.val (.ref a), .val (.int (1 : Int32)), .val (.long q), .second, .val (.double x), .second, .val (.long dd), .second, .val (.int (0 : Int32))] [(.ref r), (.long dd), (.long q)])
  refine Go.of (fun _ kq => XS.iload X.here hx rfl (hb hby d8_18) rfl kq) ?_
  show Go p e below s _ _ T (mkF m 20 #[.val (.ref a), .val (.int (1 : Int32)), .val (.long q), .second, .val (.double x), .second, .val (.long dd), .second, .val (.int (0 : Int32))] [(.int (0 : Int32)), (.ref r), (.long dd), (.long q)])
  refine Go.ldJ (.long (Rk 0)) X hx hZ eT V_r (show Inb (0 : Int32) cap from ⟨by decide, h0_⟩) rfl (hb hby d8_20) ?_
  show Go p e below s _ _ T (mkF m 21 #[.val (.ref a), .val (.int (1 : Int32)), .val (.long q), .second, .val (.double x), .second, .val (.long dd), .second, .val (.int (0 : Int32))] [(.long (Rk 0)), (.long dd), (.long q)])
  refine Go.of (fun _ kq => XS.aloadN X.here hx rfl (hb hby d8_21) rfl rfl kq) ?_
  show Go p e below s _ _ T (mkF m 22 #[.val (.ref a), .val (.int (1 : Int32)), .val (.long q), .second, .val (.double x), .second, .val (.long dd), .second, .val (.int (0 : Int32))] [(.ref a), (.long (Rk 0)), (.long dd), (.long q)])
  refine Go.getF X hx hZ hown (hw _ (List.mem_of_getElem? (i := 21) rfl)) Via.refl eT F_m_documents_a (hb hby d8_22) ?_
  intro T X eT
  show Go p e below s _ _ T (mkF m 25 #[.val (.ref a), .val (.int (1 : Int32)), .val (.long q), .second, .val (.double x), .second, .val (.long dd), .second, .val (.int (0 : Int32))] [(.ref d), (.long (Rk 0)), (.long dd), (.long q)])
  refine Go.of (fun _ kq => XS.iload X.here hx rfl (hb hby d8_25) rfl kq) ?_
  show Go p e below s _ _ T (mkF m 27 #[.val (.ref a), .val (.int (1 : Int32)), .val (.long q), .second, .val (.double x), .second, .val (.long dd), .second, .val (.int (0 : Int32))] [(.int (0 : Int32)), (.ref d), (.long (Rk 0)), (.long dd), (.long q)])
  refine Go.ldJ (.long (Dc 0)) X hx hZ eT V_d (show Inb (0 : Int32) cap from ⟨by decide, h0_⟩) rfl (hb hby d8_27) ?_
  show Go p e below s _ _ T (mkF m 28 #[.val (.ref a), .val (.int (1 : Int32)), .val (.long q), .second, .val (.double x), .second, .val (.long dd), .second, .val (.int (0 : Int32))] [(.long (Dc 0)), (.long (Rk 0)), (.long dd), (.long q)])
  refine Go.static X hx hZ hown (hw _ (List.mem_of_getElem? (i := 56) rfl)) (hw _ (List.mem_of_getElem? (i := 57) rfl)) (hw _ (List.mem_of_getElem? (i := 2) rfl)) (hw _ (List.mem_of_getElem? (i := 58) rfl)) (by decide) (rmWorse hw q dd (Rk 0) (Dc 0) _ n0) eT 0 (by decide) (by decide) (by decide) (by decide) (by rw [hml]; rfl) (argsL := [(.long q), (.long dd), (.long (Rk 0)), (.long (Dc 0))]) [] (lenOf pd3 rfl) rfl rfl (Nat.le_of_eq rfl) (hb hby d8_28) ?_
  intro v T L' X hQ
  obtain ⟨rfl, N', eT⟩ := hQ
  have N := Fr.app N N'
  show Go p e below s _ _ T (mkF m 31 #[.val (.ref a), .val (.int (1 : Int32)), .val (.long q), .second, .val (.double x), .second, .val (.long dd), .second, .val (.int (0 : Int32))] [(.int (own_worse q dd (Rk 0) (Dc 0)))])
  by_cases hc31 : (own_worse q dd (Rk 0) (Dc 0)) = (0 : Int32)
  · refine Go.of (fun _ kq => XS.ifNo X.here hx rfl (hb hby d8_31) rfl ((if0 _ _).trans (teq hc31).2) kq) ?_
    show Go p e below s _ _ T (mkF m 34 #[.val (.ref a), .val (.int (1 : Int32)), .val (.long q), .second, .val (.double x), .second, .val (.long dd), .second, .val (.int (0 : Int32))] [])
    refine Go.of (fun _ kq => XS.goto X.here hx rfl (pc0 := 34) (pc' := 50) rfl (hb hby d8_34) (by decide) (by decide) kq) ?_
    show Go p e below s _ _ T (mkF m 50 #[.val (.ref a), .val (.int (1 : Int32)), .val (.long q), .second, .val (.double x), .second, .val (.long dd), .second, .val (.int (0 : Int32))] [])
    refine Go.of (fun _ kq => XS.aloadN X.here hx rfl (hb hby d8_50) rfl rfl kq) ?_
    show Go p e below s _ _ T (mkF m 51 #[.val (.ref a), .val (.int (1 : Int32)), .val (.long q), .second, .val (.double x), .second, .val (.long dd), .second, .val (.int (0 : Int32))] [(.ref a)])
    refine Go.of (fun _ kq => XS.iloadN X.here hx rfl (hb hby d8_51) rfl kq) ?_
    show Go p e below s _ _ T (mkF m 52 #[.val (.ref a), .val (.int (1 : Int32)), .val (.long q), .second, .val (.double x), .second, .val (.long dd), .second, .val (.int (0 : Int32))] [(.int (1 : Int32)), (.ref a)])
    refine Go.of (fun _ kq => XS.lloadN X.here hx rfl (hb hby d8_52) rfl kq) ?_
    show Go p e below s _ _ T (mkF m 53 #[.val (.ref a), .val (.int (1 : Int32)), .val (.long q), .second, .val (.double x), .second, .val (.long dd), .second, .val (.int (0 : Int32))] [(.long q), (.int (1 : Int32)), (.ref a)])
    refine Go.of (fun _ kq => XS.dload X.here hx rfl (hb hby d8_53) rfl kq) ?_
    show Go p e below s _ _ T (mkF m 55 #[.val (.ref a), .val (.int (1 : Int32)), .val (.long q), .second, .val (.double x), .second, .val (.long dd), .second, .val (.int (0 : Int32))] [(.double x), (.long q), (.int (1 : Int32)), (.ref a)])
    refine Go.of (fun _ kq => XS.lload X.here hx rfl (hb hby d8_55) rfl kq) ?_
    show Go p e below s _ _ T (mkF m 57 #[.val (.ref a), .val (.int (1 : Int32)), .val (.long q), .second, .val (.double x), .second, .val (.long dd), .second, .val (.int (0 : Int32))] [(.long dd), (.double x), (.long q), (.int (1 : Int32)), (.ref a)])
    refine Go.priv (a := a) X hx hZ hown (hw _ (List.mem_of_getElem? (i := 52) rfl)) (hw _ (List.mem_of_getElem? (i := 53) rfl)) (hw _ (List.mem_of_getElem? (i := 1) rfl)) (hw _ (List.mem_of_getElem? (i := 54) rfl)) (hw _ (List.mem_of_getElem? (i := 2) rfl)) (hw _ (List.mem_of_getElem? (i := 55) rfl)) (by decide) (rmPut hw (1 : Int32) q x dd a r sc d top k tt cap Rk Sc Dc _ n0 g_a g_r g_sc g_d ne_a_r ne_a_sc ne_a_d ne_r_sc ne_r_d ne_sc_d ⟨by decide, hp_⟩ E_a TT) eT E_a 0 (by decide) (by decide) (by decide) (by decide) (by rw [hml]; rfl) (argsL := [(.int (1 : Int32)), (.long q), (.double x), (.long dd)]) [] (lenOf pd2 rfl) rfl rfl (Nat.le_of_eq rfl) (hb hby d8_57) ?_
    intro v T L' X hQ
    obtain ⟨h, eT⟩ : ∃ z, T.heap = z := ⟨_, rfl⟩
    rw [eT] at hQ
    obtain ⟨rfl, N', K', TT⟩ := hQ
    have N := Fr.app N N'
    have K := K.trans K' (own_all3 (Or.inl (List.mem_of_getElem? (i := 0) rfl)) (Or.inl (List.mem_of_getElem? (i := 1) rfl)) (Or.inl (List.mem_of_getElem? (i := 2) rfl)))
    have E_a := E_a.keep K'
    have F_m_top_a := F_m_top_a.keep K' (own_ni3 ne_a_r ne_a_sc ne_a_d)
    have F_m_ranks_a := F_m_ranks_a.keep K' (own_ni3 ne_a_r ne_a_sc ne_a_d)
    have F_m_scores_a := F_m_scores_a.keep K' (own_ni3 ne_a_r ne_a_sc ne_a_d)
    have F_m_documents_a := F_m_documents_a.keep K' (own_ni3 ne_a_r ne_a_sc ne_a_d)
    have F_m_kept_a := F_m_kept_a.keep K' (own_ni3 ne_a_r ne_a_sc ne_a_d)
    have F_m_total_a := F_m_total_a.keep K' (own_ni3 ne_a_r ne_a_sc ne_a_d)
    have TT : TH Z h a r sc d top k tt cap (updJ Rk 1 q) (updD Sc 1 x) (updJ Dc 1 dd) := TT
    show Go p e below s _ _ T (mkF m 60 #[.val (.ref a), .val (.int (1 : Int32)), .val (.long q), .second, .val (.double x), .second, .val (.long dd), .second, .val (.int (0 : Int32))] [])
    refine Go.retV X hx hret hlk (hb hby d8_60) (by decide) (by decide) ?_
    try rw [eT]
    exact ⟨rfl, N, K, _, _, _, TT, (own_up0 hc31).1.symm, (own_up0 hc31).2.symm⟩
  · refine Go.of (fun _ kq => XS.ifYes X.here hx rfl (pc0 := 31) (pc' := 37) rfl (hb hby d8_31) rfl ((if0 _ _).trans (feq hc31).2) (by decide) (by decide) kq) ?_
    show Go p e below s _ _ T (mkF m 37 #[.val (.ref a), .val (.int (1 : Int32)), .val (.long q), .second, .val (.double x), .second, .val (.long dd), .second, .val (.int (0 : Int32))] [])
    refine Go.of (fun _ kq => XS.aloadN X.here hx rfl (hb hby d8_37) rfl rfl kq) ?_
    show Go p e below s _ _ T (mkF m 38 #[.val (.ref a), .val (.int (1 : Int32)), .val (.long q), .second, .val (.double x), .second, .val (.long dd), .second, .val (.int (0 : Int32))] [(.ref a)])
    refine Go.of (fun _ kq => XS.iload X.here hx rfl (hb hby d8_38) rfl kq) ?_
    show Go p e below s _ _ T (mkF m 40 #[.val (.ref a), .val (.int (1 : Int32)), .val (.long q), .second, .val (.double x), .second, .val (.long dd), .second, .val (.int (0 : Int32))] [(.int (0 : Int32)), (.ref a)])
    refine Go.of (fun _ kq => XS.iloadN X.here hx rfl (hb hby d8_40) rfl kq) ?_
    show Go p e below s _ _ T (mkF m 41 #[.val (.ref a), .val (.int (1 : Int32)), .val (.long q), .second, .val (.double x), .second, .val (.long dd), .second, .val (.int (0 : Int32))] [(.int (1 : Int32)), (.int (0 : Int32)), (.ref a)])
    refine Go.priv (a := a) X hx hZ hown (hw _ (List.mem_of_getElem? (i := 59) rfl)) (hw _ (List.mem_of_getElem? (i := 60) rfl)) (hw _ (List.mem_of_getElem? (i := 1) rfl)) (hw _ (List.mem_of_getElem? (i := 61) rfl)) (hw _ (List.mem_of_getElem? (i := 2) rfl)) (hw _ (List.mem_of_getElem? (i := 62) rfl)) (by decide) (rmMove hw (0 : Int32) (1 : Int32) a r sc d top k tt cap Rk Sc Dc _ n0 g_a g_r g_sc g_d ne_a_r ne_a_sc ne_a_d ne_r_sc ne_r_d ne_sc_d ⟨by decide, h0_⟩ ⟨by decide, hp_⟩ E_a TT) eT E_a 0 (by decide) (by decide) (by decide) (by decide) (by rw [hml]; rfl) (argsL := [(.int (0 : Int32)), (.int (1 : Int32))]) [] (lenOf pd4 rfl) rfl rfl (Nat.le_of_eq rfl) (hb hby d8_41) ?_
    intro v T L' X hQ
    obtain ⟨h, eT⟩ : ∃ z, T.heap = z := ⟨_, rfl⟩
    rw [eT] at hQ
    obtain ⟨rfl, N', K', TT⟩ := hQ
    have N := Fr.app N N'
    have K := K.trans K' (own_all3 (Or.inl (List.mem_of_getElem? (i := 0) rfl)) (Or.inl (List.mem_of_getElem? (i := 1) rfl)) (Or.inl (List.mem_of_getElem? (i := 2) rfl)))
    have E_a := E_a.keep K'
    have F_m_top_a := F_m_top_a.keep K' (own_ni3 ne_a_r ne_a_sc ne_a_d)
    have F_m_ranks_a := F_m_ranks_a.keep K' (own_ni3 ne_a_r ne_a_sc ne_a_d)
    have F_m_scores_a := F_m_scores_a.keep K' (own_ni3 ne_a_r ne_a_sc ne_a_d)
    have F_m_documents_a := F_m_documents_a.keep K' (own_ni3 ne_a_r ne_a_sc ne_a_d)
    have F_m_kept_a := F_m_kept_a.keep K' (own_ni3 ne_a_r ne_a_sc ne_a_d)
    have F_m_total_a := F_m_total_a.keep K' (own_ni3 ne_a_r ne_a_sc ne_a_d)
    have TT : TH Z h a r sc d top k tt cap (updJ Rk 1 (Rk 0)) (updD Sc 1 (Sc 0)) (updJ Dc 1 (Dc 0)) := TT
    show Go p e below s _ _ T (mkF m 44 #[.val (.ref a), .val (.int (1 : Int32)), .val (.long q), .second, .val (.double x), .second, .val (.long dd), .second, .val (.int (0 : Int32))] [])
    refine Go.of (fun _ kq => XS.iload X.here hx rfl (hb hby d8_44) rfl kq) ?_
    show Go p e below s _ _ T (mkF m 46 #[.val (.ref a), .val (.int (1 : Int32)), .val (.long q), .second, .val (.double x), .second, .val (.long dd), .second, .val (.int (0 : Int32))] [(.int (0 : Int32))])
    refine Go.of (fun _ kq => XS.istoreN X.here hx rfl (hb hby d8_46) rfl (l' := #[.val (.ref a), .val (.int (0 : Int32)), .val (.long q), .second, .val (.double x), .second, .val (.long dd), .second, .val (.int (0 : Int32))]) rfl kq) ?_
    show Go p e below s _ _ T (mkF m 47 #[.val (.ref a), .val (.int (0 : Int32)), .val (.long q), .second, .val (.double x), .second, .val (.long dd), .second, .val (.int (0 : Int32))] [])
    refine Go.of (fun _ kq => XS.goto X.here hx rfl (pc0 := 47) (pc' := 0) rfl (hb hby d8_47) (by decide) (by decide) kq) ?_
    show Go p e below s _ _ T (mkF m 0 #[.val (.ref a), .val (.int (0 : Int32)), .val (.long q), .second, .val (.double x), .second, .val (.long dd), .second, .val (.int (0 : Int32))] [])
    refine Go.of (fun _ kq => XS.iloadN X.here hx rfl (hb hby d8_0) rfl kq) ?_
    show Go p e below s _ _ T (mkF m 1 #[.val (.ref a), .val (.int (0 : Int32)), .val (.long q), .second, .val (.double x), .second, .val (.long dd), .second, .val (.int (0 : Int32))] [(.int (0 : Int32))])
    refine Go.of (fun _ kq => XS.ifYes X.here hx rfl (pc0 := 1) (pc' := 50) rfl (hb hby d8_1) rfl ((if0 _ _).trans (flt (by decide)).2.2.2) (by decide) (by decide) kq) ?_
    show Go p e below s _ _ T (mkF m 50 #[.val (.ref a), .val (.int (0 : Int32)), .val (.long q), .second, .val (.double x), .second, .val (.long dd), .second, .val (.int (0 : Int32))] [])
    refine Go.of (fun _ kq => XS.aloadN X.here hx rfl (hb hby d8_50) rfl rfl kq) ?_
    show Go p e below s _ _ T (mkF m 51 #[.val (.ref a), .val (.int (0 : Int32)), .val (.long q), .second, .val (.double x), .second, .val (.long dd), .second, .val (.int (0 : Int32))] [(.ref a)])
    refine Go.of (fun _ kq => XS.iloadN X.here hx rfl (hb hby d8_51) rfl kq) ?_
    show Go p e below s _ _ T (mkF m 52 #[.val (.ref a), .val (.int (0 : Int32)), .val (.long q), .second, .val (.double x), .second, .val (.long dd), .second, .val (.int (0 : Int32))] [(.int (0 : Int32)), (.ref a)])
    refine Go.of (fun _ kq => XS.lloadN X.here hx rfl (hb hby d8_52) rfl kq) ?_
    show Go p e below s _ _ T (mkF m 53 #[.val (.ref a), .val (.int (0 : Int32)), .val (.long q), .second, .val (.double x), .second, .val (.long dd), .second, .val (.int (0 : Int32))] [(.long q), (.int (0 : Int32)), (.ref a)])
    refine Go.of (fun _ kq => XS.dload X.here hx rfl (hb hby d8_53) rfl kq) ?_
    show Go p e below s _ _ T (mkF m 55 #[.val (.ref a), .val (.int (0 : Int32)), .val (.long q), .second, .val (.double x), .second, .val (.long dd), .second, .val (.int (0 : Int32))] [(.double x), (.long q), (.int (0 : Int32)), (.ref a)])
    refine Go.of (fun _ kq => XS.lload X.here hx rfl (hb hby d8_55) rfl kq) ?_
    show Go p e below s _ _ T (mkF m 57 #[.val (.ref a), .val (.int (0 : Int32)), .val (.long q), .second, .val (.double x), .second, .val (.long dd), .second, .val (.int (0 : Int32))] [(.long dd), (.double x), (.long q), (.int (0 : Int32)), (.ref a)])
    refine Go.priv (a := a) X hx hZ hown (hw _ (List.mem_of_getElem? (i := 52) rfl)) (hw _ (List.mem_of_getElem? (i := 53) rfl)) (hw _ (List.mem_of_getElem? (i := 1) rfl)) (hw _ (List.mem_of_getElem? (i := 54) rfl)) (hw _ (List.mem_of_getElem? (i := 2) rfl)) (hw _ (List.mem_of_getElem? (i := 55) rfl)) (by decide) (rmPut hw (0 : Int32) q x dd a r sc d top k tt cap (updJ Rk 1 (Rk 0)) (updD Sc 1 (Sc 0)) (updJ Dc 1 (Dc 0)) _ n0 g_a g_r g_sc g_d ne_a_r ne_a_sc ne_a_d ne_r_sc ne_r_d ne_sc_d ⟨by decide, h0_⟩ E_a TT) eT E_a 0 (by decide) (by decide) (by decide) (by decide) (by rw [hml]; rfl) (argsL := [(.int (0 : Int32)), (.long q), (.double x), (.long dd)]) [] (lenOf pd2 rfl) rfl rfl (Nat.le_of_eq rfl) (hb hby d8_57) ?_
    intro v T L' X hQ
    obtain ⟨h, eT⟩ : ∃ z, T.heap = z := ⟨_, rfl⟩
    rw [eT] at hQ
    obtain ⟨rfl, N', K', TT⟩ := hQ
    have N := Fr.app N N'
    have K := K.trans K' (own_all3 (Or.inl (List.mem_of_getElem? (i := 0) rfl)) (Or.inl (List.mem_of_getElem? (i := 1) rfl)) (Or.inl (List.mem_of_getElem? (i := 2) rfl)))
    have E_a := E_a.keep K'
    have F_m_top_a := F_m_top_a.keep K' (own_ni3 ne_a_r ne_a_sc ne_a_d)
    have F_m_ranks_a := F_m_ranks_a.keep K' (own_ni3 ne_a_r ne_a_sc ne_a_d)
    have F_m_scores_a := F_m_scores_a.keep K' (own_ni3 ne_a_r ne_a_sc ne_a_d)
    have F_m_documents_a := F_m_documents_a.keep K' (own_ni3 ne_a_r ne_a_sc ne_a_d)
    have F_m_kept_a := F_m_kept_a.keep K' (own_ni3 ne_a_r ne_a_sc ne_a_d)
    have F_m_total_a := F_m_total_a.keep K' (own_ni3 ne_a_r ne_a_sc ne_a_d)
    have TT : TH Z h a r sc d top k tt cap (updJ (updJ Rk 1 (Rk 0)) 0 q) (updD (updD Sc 1 (Sc 0)) 0 x) (updJ (updJ Dc 1 (Dc 0)) 0 dd) := TT
    show Go p e below s _ _ T (mkF m 60 #[.val (.ref a), .val (.int (0 : Int32)), .val (.long q), .second, .val (.double x), .second, .val (.long dd), .second, .val (.int (0 : Int32))] [])
    refine Go.retV X hx hret hlk (hb hby d8_60) (by decide) (by decide) ?_
    try rw [eT]
    exact ⟨rfl, N, K, _, _, _, TT, (own_up1 hc31).1.symm, (own_up1 hc31).2.symm⟩
theorem ef_rmUp2 (m : MethodId) (x0 : Addr) (x1 : Int32) (x2 : Int64) (x3 : UInt64) (x4 : Int64) : entryFrame m #[(.ref x0), (.int x1), (.long x2), (.double x3), (.long x4)] 9 = mkF m 0 #[.val (.ref x0), .val (.int x1), .val (.long x2), .second, .val (.double x3), .second, .val (.long x4), .second, .unset] [] := by first | (simp [entryFrame, mkF, argsToLocals, Value.category]; done) | rfl
set_option maxRecDepth 65536 in
set_option maxHeartbeats 40000000 in
theorem rmUp2 {l : Launch} {Z : State} {a0 : Array Value} (hw : ∀ d ∈ tables_1, d.before a0 Z = true) (q : Int64) (x : UInt64) (dd : Int64) (a r sc d : Addr) (top k : Int32) (tt : Int64) (cap : Nat) (Rk : Nat → Int64) (Sc : Nat → UInt64) (Dc : Nat → Int64) (h0 : Heap) (n0 : Nat) (g_a : n0 ≤ a) (g_r : n0 ≤ r) (g_sc : n0 ≤ sc) (g_d : n0 ≤ d) (ne_a_r : a ≠ r) (ne_a_sc : a ≠ sc) (ne_a_d : a ≠ d) (ne_r_sc : r ≠ sc) (ne_r_d : r ≠ d) (ne_sc_d : sc ≠ d) (h0_ : 0 < cap) (hp_ : 2 < cap) (E_a : Exa Z h0 a "org/segmentry/search/TopHits") (TT : TH Z h0 a r sc d top k tt cap Rk Sc Dc) :
    Met l Z (⟨"org/segmentry/search/TopHits", "siftUp", "(IJDJ)V"⟩ : MethodName) prog_94_method_11_code 9 none [] ({ frames := 2, cells := 0, slots := 0, locals := 33 } : Room) #[(.ref a), (.int (2 : Int32)), (.long q), (.double x), (.long dd)] h0 (fun v h L => v = none ∧ Fr n0 L ∧ Keep h0 h [r, sc, d] ∧ ∃ (Rk' : Nat → Int64) (Sc' : Nat → UInt64) (Dc' : Nat → Int64), TH Z h a r sc d top k tt cap Rk' Sc' Dc' ∧ Rk' 0 = own_max (Rk 0) q) := by
  refine Met.mk pn8 ?_
  intro p e s m below meth c T hx hby hml hown hnm hret hlk hZ X eT
  refine Go.cast (ef_rmUp2 m a (2 : Int32) q x dd) ?_
  have N := Fr.nil n0
  have K := Keep.refl h0 [r, sc, d]
  obtain ⟨F_m_top_a, F_m_ranks_a, F_m_scores_a, F_m_documents_a, F_m_kept_a, F_m_total_a, V_r, V_sc, V_d⟩ := id TT
  show Go p e below s _ _ T (mkF m 0 #[.val (.ref a), .val (.int (2 : Int32)), .val (.long q), .second, .val (.double x), .second, .val (.long dd), .second, .unset] [])
  refine Go.of (fun _ kq => XS.iloadN X.here hx rfl (hb hby d8_0) rfl kq) ?_
  show Go p e below s _ _ T (mkF m 1 #[.val (.ref a), .val (.int (2 : Int32)), .val (.long q), .second, .val (.double x), .second, .val (.long dd), .second, .unset] [(.int (2 : Int32))])
  refine Go.of (fun _ kq => XS.ifNo X.here hx rfl (hb hby d8_1) rfl ((if0 _ _).trans (tlt (by decide)).2.2.2) kq) ?_
  show Go p e below s _ _ T (mkF m 4 #[.val (.ref a), .val (.int (2 : Int32)), .val (.long q), .second, .val (.double x), .second, .val (.long dd), .second, .unset] [])
  refine Go.of (fun _ kq => XS.iloadN X.here hx rfl (hb hby d8_4) rfl kq) ?_
  show Go p e below s _ _ T (mkF m 5 #[.val (.ref a), .val (.int (2 : Int32)), .val (.long q), .second, .val (.double x), .second, .val (.long dd), .second, .unset] [(.int (2 : Int32))])
  refine Go.of (fun _ kq => XS.iconst X.here hx rfl (hb hby d8_5) kq) ?_
  show Go p e below s _ _ T (mkF m 6 #[.val (.ref a), .val (.int (2 : Int32)), .val (.long q), .second, .val (.double x), .second, .val (.long dd), .second, .unset] [(.int (1 : Int32)), (.int (2 : Int32))])
  refine Go.of (fun _ kq => XS.isub X.here hx rfl (hb hby d8_6) rfl kq) ?_
  show Go p e below s _ _ T (mkF m 7 #[.val (.ref a), .val (.int (2 : Int32)), .val (.long q), .second, .val (.double x), .second, .val (.long dd), .second, .unset] [(.int (1 : Int32))])
  refine Go.of (fun _ kq => XS.iconst X.here hx rfl (hb hby d8_7) kq) ?_
  show Go p e below s _ _ T (mkF m 8 #[.val (.ref a), .val (.int (2 : Int32)), .val (.long q), .second, .val (.double x), .second, .val (.long dd), .second, .unset] [(.int (1 : Int32)), (.int (1 : Int32))])
  refine Go.of (fun _ kq => XS.iushr X.here hx rfl (hb hby d8_8) rfl kq) ?_
  show Go p e below s _ _ T (mkF m 9 #[.val (.ref a), .val (.int (2 : Int32)), .val (.long q), .second, .val (.double x), .second, .val (.long dd), .second, .unset] [(.int (0 : Int32))])
  refine Go.of (fun _ kq => XS.istore X.here hx rfl (hb hby d8_9) rfl (l' := #[.val (.ref a), .val (.int (2 : Int32)), .val (.long q), .second, .val (.double x), .second, .val (.long dd), .second, .val (.int (0 : Int32))]) rfl kq) ?_
  show Go p e below s _ _ T (mkF m 11 #[.val (.ref a), .val (.int (2 : Int32)), .val (.long q), .second, .val (.double x), .second, .val (.long dd), .second, .val (.int (0 : Int32))] [])
  refine Go.of (fun _ kq => XS.lloadN X.here hx rfl (hb hby d8_11) rfl kq) ?_
  show Go p e below s _ _ T (mkF m 12 #[.val (.ref a), .val (.int (2 : Int32)), .val (.long q), .second, .val (.double x), .second, .val (.long dd), .second, .val (.int (0 : Int32))] [(.long q)])
  refine Go.of (fun _ kq => XS.lload X.here hx rfl (hb hby d8_12) rfl kq) ?_
  show Go p e below s _ _ T (mkF m 14 #[.val (.ref a), .val (.int (2 : Int32)), .val (.long q), .second, .val (.double x), .second, .val (.long dd), .second, .val (.int (0 : Int32))] [(.long dd), (.long q)])
  refine Go.of (fun _ kq => XS.aloadN X.here hx rfl (hb hby d8_14) rfl rfl kq) ?_
  show Go p e below s _ _ T (mkF m 15 #[.val (.ref a), .val (.int (2 : Int32)), .val (.long q), .second, .val (.double x), .second, .val (.long dd), .second, .val (.int (0 : Int32))] [(.ref a), (.long dd), (.long q)])
  refine Go.getF X hx hZ hown (hw _ (List.mem_of_getElem? (i := 16) rfl)) Via.refl eT F_m_ranks_a (hb hby d8_15) ?_
  intro T X eT
  show Go p e below s _ _ T (mkF m 18 #[.val (.ref a), .val (.int (2 : Int32)), .val (.long q), .second, .val (.double x), .second, .val (.long dd), .second, .val (.int (0 : Int32))] [(.ref r), (.long dd), (.long q)])
  refine Go.of (fun _ kq => XS.iload X.here hx rfl (hb hby d8_18) rfl kq) ?_
  show Go p e below s _ _ T (mkF m 20 #[.val (.ref a), .val (.int (2 : Int32)), .val (.long q), .second, .val (.double x), .second, .val (.long dd), .second, .val (.int (0 : Int32))] [(.int (0 : Int32)), (.ref r), (.long dd), (.long q)])
  refine Go.ldJ (.long (Rk 0)) X hx hZ eT V_r (show Inb (0 : Int32) cap from ⟨by decide, h0_⟩) rfl (hb hby d8_20) ?_
  show Go p e below s _ _ T (mkF m 21 #[.val (.ref a), .val (.int (2 : Int32)), .val (.long q), .second, .val (.double x), .second, .val (.long dd), .second, .val (.int (0 : Int32))] [(.long (Rk 0)), (.long dd), (.long q)])
  refine Go.of (fun _ kq => XS.aloadN X.here hx rfl (hb hby d8_21) rfl rfl kq) ?_
  show Go p e below s _ _ T (mkF m 22 #[.val (.ref a), .val (.int (2 : Int32)), .val (.long q), .second, .val (.double x), .second, .val (.long dd), .second, .val (.int (0 : Int32))] [(.ref a), (.long (Rk 0)), (.long dd), (.long q)])
  refine Go.getF X hx hZ hown (hw _ (List.mem_of_getElem? (i := 21) rfl)) Via.refl eT F_m_documents_a (hb hby d8_22) ?_
  intro T X eT
  show Go p e below s _ _ T (mkF m 25 #[.val (.ref a), .val (.int (2 : Int32)), .val (.long q), .second, .val (.double x), .second, .val (.long dd), .second, .val (.int (0 : Int32))] [(.ref d), (.long (Rk 0)), (.long dd), (.long q)])
  refine Go.of (fun _ kq => XS.iload X.here hx rfl (hb hby d8_25) rfl kq) ?_
  show Go p e below s _ _ T (mkF m 27 #[.val (.ref a), .val (.int (2 : Int32)), .val (.long q), .second, .val (.double x), .second, .val (.long dd), .second, .val (.int (0 : Int32))] [(.int (0 : Int32)), (.ref d), (.long (Rk 0)), (.long dd), (.long q)])
  refine Go.ldJ (.long (Dc 0)) X hx hZ eT V_d (show Inb (0 : Int32) cap from ⟨by decide, h0_⟩) rfl (hb hby d8_27) ?_
  show Go p e below s _ _ T (mkF m 28 #[.val (.ref a), .val (.int (2 : Int32)), .val (.long q), .second, .val (.double x), .second, .val (.long dd), .second, .val (.int (0 : Int32))] [(.long (Dc 0)), (.long (Rk 0)), (.long dd), (.long q)])
  refine Go.static X hx hZ hown (hw _ (List.mem_of_getElem? (i := 56) rfl)) (hw _ (List.mem_of_getElem? (i := 57) rfl)) (hw _ (List.mem_of_getElem? (i := 2) rfl)) (hw _ (List.mem_of_getElem? (i := 58) rfl)) (by decide) (rmWorse hw q dd (Rk 0) (Dc 0) _ n0) eT 0 (by decide) (by decide) (by decide) (by decide) (by rw [hml]; rfl) (argsL := [(.long q), (.long dd), (.long (Rk 0)), (.long (Dc 0))]) [] (lenOf pd3 rfl) rfl rfl (Nat.le_of_eq rfl) (hb hby d8_28) ?_
  intro v T L' X hQ
  obtain ⟨rfl, N', eT⟩ := hQ
  have N := Fr.app N N'
  show Go p e below s _ _ T (mkF m 31 #[.val (.ref a), .val (.int (2 : Int32)), .val (.long q), .second, .val (.double x), .second, .val (.long dd), .second, .val (.int (0 : Int32))] [(.int (own_worse q dd (Rk 0) (Dc 0)))])
  by_cases hc31 : (own_worse q dd (Rk 0) (Dc 0)) = (0 : Int32)
  · refine Go.of (fun _ kq => XS.ifNo X.here hx rfl (hb hby d8_31) rfl ((if0 _ _).trans (teq hc31).2) kq) ?_
    show Go p e below s _ _ T (mkF m 34 #[.val (.ref a), .val (.int (2 : Int32)), .val (.long q), .second, .val (.double x), .second, .val (.long dd), .second, .val (.int (0 : Int32))] [])
    refine Go.of (fun _ kq => XS.goto X.here hx rfl (pc0 := 34) (pc' := 50) rfl (hb hby d8_34) (by decide) (by decide) kq) ?_
    show Go p e below s _ _ T (mkF m 50 #[.val (.ref a), .val (.int (2 : Int32)), .val (.long q), .second, .val (.double x), .second, .val (.long dd), .second, .val (.int (0 : Int32))] [])
    refine Go.of (fun _ kq => XS.aloadN X.here hx rfl (hb hby d8_50) rfl rfl kq) ?_
    show Go p e below s _ _ T (mkF m 51 #[.val (.ref a), .val (.int (2 : Int32)), .val (.long q), .second, .val (.double x), .second, .val (.long dd), .second, .val (.int (0 : Int32))] [(.ref a)])
    refine Go.of (fun _ kq => XS.iloadN X.here hx rfl (hb hby d8_51) rfl kq) ?_
    show Go p e below s _ _ T (mkF m 52 #[.val (.ref a), .val (.int (2 : Int32)), .val (.long q), .second, .val (.double x), .second, .val (.long dd), .second, .val (.int (0 : Int32))] [(.int (2 : Int32)), (.ref a)])
    refine Go.of (fun _ kq => XS.lloadN X.here hx rfl (hb hby d8_52) rfl kq) ?_
    show Go p e below s _ _ T (mkF m 53 #[.val (.ref a), .val (.int (2 : Int32)), .val (.long q), .second, .val (.double x), .second, .val (.long dd), .second, .val (.int (0 : Int32))] [(.long q), (.int (2 : Int32)), (.ref a)])
    refine Go.of (fun _ kq => XS.dload X.here hx rfl (hb hby d8_53) rfl kq) ?_
    show Go p e below s _ _ T (mkF m 55 #[.val (.ref a), .val (.int (2 : Int32)), .val (.long q), .second, .val (.double x), .second, .val (.long dd), .second, .val (.int (0 : Int32))] [(.double x), (.long q), (.int (2 : Int32)), (.ref a)])
    refine Go.of (fun _ kq => XS.lload X.here hx rfl (hb hby d8_55) rfl kq) ?_
    show Go p e below s _ _ T (mkF m 57 #[.val (.ref a), .val (.int (2 : Int32)), .val (.long q), .second, .val (.double x), .second, .val (.long dd), .second, .val (.int (0 : Int32))] [(.long dd), (.double x), (.long q), (.int (2 : Int32)), (.ref a)])
    refine Go.priv (a := a) X hx hZ hown (hw _ (List.mem_of_getElem? (i := 52) rfl)) (hw _ (List.mem_of_getElem? (i := 53) rfl)) (hw _ (List.mem_of_getElem? (i := 1) rfl)) (hw _ (List.mem_of_getElem? (i := 54) rfl)) (hw _ (List.mem_of_getElem? (i := 2) rfl)) (hw _ (List.mem_of_getElem? (i := 55) rfl)) (by decide) (rmPut hw (2 : Int32) q x dd a r sc d top k tt cap Rk Sc Dc _ n0 g_a g_r g_sc g_d ne_a_r ne_a_sc ne_a_d ne_r_sc ne_r_d ne_sc_d ⟨by decide, hp_⟩ E_a TT) eT E_a 0 (by decide) (by decide) (by decide) (by decide) (by rw [hml]; rfl) (argsL := [(.int (2 : Int32)), (.long q), (.double x), (.long dd)]) [] (lenOf pd2 rfl) rfl rfl (Nat.le_of_eq rfl) (hb hby d8_57) ?_
    intro v T L' X hQ
    obtain ⟨h, eT⟩ : ∃ z, T.heap = z := ⟨_, rfl⟩
    rw [eT] at hQ
    obtain ⟨rfl, N', K', TT⟩ := hQ
    have N := Fr.app N N'
    have K := K.trans K' (own_all3 (Or.inl (List.mem_of_getElem? (i := 0) rfl)) (Or.inl (List.mem_of_getElem? (i := 1) rfl)) (Or.inl (List.mem_of_getElem? (i := 2) rfl)))
    have E_a := E_a.keep K'
    have F_m_top_a := F_m_top_a.keep K' (own_ni3 ne_a_r ne_a_sc ne_a_d)
    have F_m_ranks_a := F_m_ranks_a.keep K' (own_ni3 ne_a_r ne_a_sc ne_a_d)
    have F_m_scores_a := F_m_scores_a.keep K' (own_ni3 ne_a_r ne_a_sc ne_a_d)
    have F_m_documents_a := F_m_documents_a.keep K' (own_ni3 ne_a_r ne_a_sc ne_a_d)
    have F_m_kept_a := F_m_kept_a.keep K' (own_ni3 ne_a_r ne_a_sc ne_a_d)
    have F_m_total_a := F_m_total_a.keep K' (own_ni3 ne_a_r ne_a_sc ne_a_d)
    have TT : TH Z h a r sc d top k tt cap (updJ Rk 2 q) (updD Sc 2 x) (updJ Dc 2 dd) := TT
    show Go p e below s _ _ T (mkF m 60 #[.val (.ref a), .val (.int (2 : Int32)), .val (.long q), .second, .val (.double x), .second, .val (.long dd), .second, .val (.int (0 : Int32))] [])
    refine Go.retV X hx hret hlk (hb hby d8_60) (by decide) (by decide) ?_
    try rw [eT]
    exact ⟨rfl, N, K, _, _, _, TT, (own_up0 hc31).1.symm⟩
  · refine Go.of (fun _ kq => XS.ifYes X.here hx rfl (pc0 := 31) (pc' := 37) rfl (hb hby d8_31) rfl ((if0 _ _).trans (feq hc31).2) (by decide) (by decide) kq) ?_
    show Go p e below s _ _ T (mkF m 37 #[.val (.ref a), .val (.int (2 : Int32)), .val (.long q), .second, .val (.double x), .second, .val (.long dd), .second, .val (.int (0 : Int32))] [])
    refine Go.of (fun _ kq => XS.aloadN X.here hx rfl (hb hby d8_37) rfl rfl kq) ?_
    show Go p e below s _ _ T (mkF m 38 #[.val (.ref a), .val (.int (2 : Int32)), .val (.long q), .second, .val (.double x), .second, .val (.long dd), .second, .val (.int (0 : Int32))] [(.ref a)])
    refine Go.of (fun _ kq => XS.iload X.here hx rfl (hb hby d8_38) rfl kq) ?_
    show Go p e below s _ _ T (mkF m 40 #[.val (.ref a), .val (.int (2 : Int32)), .val (.long q), .second, .val (.double x), .second, .val (.long dd), .second, .val (.int (0 : Int32))] [(.int (0 : Int32)), (.ref a)])
    refine Go.of (fun _ kq => XS.iloadN X.here hx rfl (hb hby d8_40) rfl kq) ?_
    show Go p e below s _ _ T (mkF m 41 #[.val (.ref a), .val (.int (2 : Int32)), .val (.long q), .second, .val (.double x), .second, .val (.long dd), .second, .val (.int (0 : Int32))] [(.int (2 : Int32)), (.int (0 : Int32)), (.ref a)])
    refine Go.priv (a := a) X hx hZ hown (hw _ (List.mem_of_getElem? (i := 59) rfl)) (hw _ (List.mem_of_getElem? (i := 60) rfl)) (hw _ (List.mem_of_getElem? (i := 1) rfl)) (hw _ (List.mem_of_getElem? (i := 61) rfl)) (hw _ (List.mem_of_getElem? (i := 2) rfl)) (hw _ (List.mem_of_getElem? (i := 62) rfl)) (by decide) (rmMove hw (0 : Int32) (2 : Int32) a r sc d top k tt cap Rk Sc Dc _ n0 g_a g_r g_sc g_d ne_a_r ne_a_sc ne_a_d ne_r_sc ne_r_d ne_sc_d ⟨by decide, h0_⟩ ⟨by decide, hp_⟩ E_a TT) eT E_a 0 (by decide) (by decide) (by decide) (by decide) (by rw [hml]; rfl) (argsL := [(.int (0 : Int32)), (.int (2 : Int32))]) [] (lenOf pd4 rfl) rfl rfl (Nat.le_of_eq rfl) (hb hby d8_41) ?_
    intro v T L' X hQ
    obtain ⟨h, eT⟩ : ∃ z, T.heap = z := ⟨_, rfl⟩
    rw [eT] at hQ
    obtain ⟨rfl, N', K', TT⟩ := hQ
    have N := Fr.app N N'
    have K := K.trans K' (own_all3 (Or.inl (List.mem_of_getElem? (i := 0) rfl)) (Or.inl (List.mem_of_getElem? (i := 1) rfl)) (Or.inl (List.mem_of_getElem? (i := 2) rfl)))
    have E_a := E_a.keep K'
    have F_m_top_a := F_m_top_a.keep K' (own_ni3 ne_a_r ne_a_sc ne_a_d)
    have F_m_ranks_a := F_m_ranks_a.keep K' (own_ni3 ne_a_r ne_a_sc ne_a_d)
    have F_m_scores_a := F_m_scores_a.keep K' (own_ni3 ne_a_r ne_a_sc ne_a_d)
    have F_m_documents_a := F_m_documents_a.keep K' (own_ni3 ne_a_r ne_a_sc ne_a_d)
    have F_m_kept_a := F_m_kept_a.keep K' (own_ni3 ne_a_r ne_a_sc ne_a_d)
    have F_m_total_a := F_m_total_a.keep K' (own_ni3 ne_a_r ne_a_sc ne_a_d)
    have TT : TH Z h a r sc d top k tt cap (updJ Rk 2 (Rk 0)) (updD Sc 2 (Sc 0)) (updJ Dc 2 (Dc 0)) := TT
    show Go p e below s _ _ T (mkF m 44 #[.val (.ref a), .val (.int (2 : Int32)), .val (.long q), .second, .val (.double x), .second, .val (.long dd), .second, .val (.int (0 : Int32))] [])
    refine Go.of (fun _ kq => XS.iload X.here hx rfl (hb hby d8_44) rfl kq) ?_
    show Go p e below s _ _ T (mkF m 46 #[.val (.ref a), .val (.int (2 : Int32)), .val (.long q), .second, .val (.double x), .second, .val (.long dd), .second, .val (.int (0 : Int32))] [(.int (0 : Int32))])
    refine Go.of (fun _ kq => XS.istoreN X.here hx rfl (hb hby d8_46) rfl (l' := #[.val (.ref a), .val (.int (0 : Int32)), .val (.long q), .second, .val (.double x), .second, .val (.long dd), .second, .val (.int (0 : Int32))]) rfl kq) ?_
    show Go p e below s _ _ T (mkF m 47 #[.val (.ref a), .val (.int (0 : Int32)), .val (.long q), .second, .val (.double x), .second, .val (.long dd), .second, .val (.int (0 : Int32))] [])
    refine Go.of (fun _ kq => XS.goto X.here hx rfl (pc0 := 47) (pc' := 0) rfl (hb hby d8_47) (by decide) (by decide) kq) ?_
    show Go p e below s _ _ T (mkF m 0 #[.val (.ref a), .val (.int (0 : Int32)), .val (.long q), .second, .val (.double x), .second, .val (.long dd), .second, .val (.int (0 : Int32))] [])
    refine Go.of (fun _ kq => XS.iloadN X.here hx rfl (hb hby d8_0) rfl kq) ?_
    show Go p e below s _ _ T (mkF m 1 #[.val (.ref a), .val (.int (0 : Int32)), .val (.long q), .second, .val (.double x), .second, .val (.long dd), .second, .val (.int (0 : Int32))] [(.int (0 : Int32))])
    refine Go.of (fun _ kq => XS.ifYes X.here hx rfl (pc0 := 1) (pc' := 50) rfl (hb hby d8_1) rfl ((if0 _ _).trans (flt (by decide)).2.2.2) (by decide) (by decide) kq) ?_
    show Go p e below s _ _ T (mkF m 50 #[.val (.ref a), .val (.int (0 : Int32)), .val (.long q), .second, .val (.double x), .second, .val (.long dd), .second, .val (.int (0 : Int32))] [])
    refine Go.of (fun _ kq => XS.aloadN X.here hx rfl (hb hby d8_50) rfl rfl kq) ?_
    show Go p e below s _ _ T (mkF m 51 #[.val (.ref a), .val (.int (0 : Int32)), .val (.long q), .second, .val (.double x), .second, .val (.long dd), .second, .val (.int (0 : Int32))] [(.ref a)])
    refine Go.of (fun _ kq => XS.iloadN X.here hx rfl (hb hby d8_51) rfl kq) ?_
    show Go p e below s _ _ T (mkF m 52 #[.val (.ref a), .val (.int (0 : Int32)), .val (.long q), .second, .val (.double x), .second, .val (.long dd), .second, .val (.int (0 : Int32))] [(.int (0 : Int32)), (.ref a)])
    refine Go.of (fun _ kq => XS.lloadN X.here hx rfl (hb hby d8_52) rfl kq) ?_
    show Go p e below s _ _ T (mkF m 53 #[.val (.ref a), .val (.int (0 : Int32)), .val (.long q), .second, .val (.double x), .second, .val (.long dd), .second, .val (.int (0 : Int32))] [(.long q), (.int (0 : Int32)), (.ref a)])
    refine Go.of (fun _ kq => XS.dload X.here hx rfl (hb hby d8_53) rfl kq) ?_
    show Go p e below s _ _ T (mkF m 55 #[.val (.ref a), .val (.int (0 : Int32)), .val (.long q), .second, .val (.double x), .second, .val (.long dd), .second, .val (.int (0 : Int32))] [(.double x), (.long q), (.int (0 : Int32)), (.ref a)])
    refine Go.of (fun _ kq => XS.lload X.here hx rfl (hb hby d8_55) rfl kq) ?_
    show Go p e below s _ _ T (mkF m 57 #[.val (.ref a), .val (.int (0 : Int32)), .val (.long q), .second, .val (.double x), .second, .val (.long dd), .second, .val (.int (0 : Int32))] [(.long dd), (.double x), (.long q), (.int (0 : Int32)), (.ref a)])
    refine Go.priv (a := a) X hx hZ hown (hw _ (List.mem_of_getElem? (i := 52) rfl)) (hw _ (List.mem_of_getElem? (i := 53) rfl)) (hw _ (List.mem_of_getElem? (i := 1) rfl)) (hw _ (List.mem_of_getElem? (i := 54) rfl)) (hw _ (List.mem_of_getElem? (i := 2) rfl)) (hw _ (List.mem_of_getElem? (i := 55) rfl)) (by decide) (rmPut hw (0 : Int32) q x dd a r sc d top k tt cap (updJ Rk 2 (Rk 0)) (updD Sc 2 (Sc 0)) (updJ Dc 2 (Dc 0)) _ n0 g_a g_r g_sc g_d ne_a_r ne_a_sc ne_a_d ne_r_sc ne_r_d ne_sc_d ⟨by decide, h0_⟩ E_a TT) eT E_a 0 (by decide) (by decide) (by decide) (by decide) (by rw [hml]; rfl) (argsL := [(.int (0 : Int32)), (.long q), (.double x), (.long dd)]) [] (lenOf pd2 rfl) rfl rfl (Nat.le_of_eq rfl) (hb hby d8_57) ?_
    intro v T L' X hQ
    obtain ⟨h, eT⟩ : ∃ z, T.heap = z := ⟨_, rfl⟩
    rw [eT] at hQ
    obtain ⟨rfl, N', K', TT⟩ := hQ
    have N := Fr.app N N'
    have K := K.trans K' (own_all3 (Or.inl (List.mem_of_getElem? (i := 0) rfl)) (Or.inl (List.mem_of_getElem? (i := 1) rfl)) (Or.inl (List.mem_of_getElem? (i := 2) rfl)))
    have E_a := E_a.keep K'
    have F_m_top_a := F_m_top_a.keep K' (own_ni3 ne_a_r ne_a_sc ne_a_d)
    have F_m_ranks_a := F_m_ranks_a.keep K' (own_ni3 ne_a_r ne_a_sc ne_a_d)
    have F_m_scores_a := F_m_scores_a.keep K' (own_ni3 ne_a_r ne_a_sc ne_a_d)
    have F_m_documents_a := F_m_documents_a.keep K' (own_ni3 ne_a_r ne_a_sc ne_a_d)
    have F_m_kept_a := F_m_kept_a.keep K' (own_ni3 ne_a_r ne_a_sc ne_a_d)
    have F_m_total_a := F_m_total_a.keep K' (own_ni3 ne_a_r ne_a_sc ne_a_d)
    have TT : TH Z h a r sc d top k tt cap (updJ (updJ Rk 2 (Rk 0)) 0 q) (updD (updD Sc 2 (Sc 0)) 0 x) (updJ (updJ Dc 2 (Dc 0)) 0 dd) := TT
    show Go p e below s _ _ T (mkF m 60 #[.val (.ref a), .val (.int (0 : Int32)), .val (.long q), .second, .val (.double x), .second, .val (.long dd), .second, .val (.int (0 : Int32))] [])
    refine Go.retV X hx hret hlk (hb hby d8_60) (by decide) (by decide) ?_
    try rw [eT]
    exact ⟨rfl, N, K, _, _, _, TT, (own_up1 hc31).1.symm⟩
theorem d15_0 : decode prog_94_method_12_code 0 = .ok (.iconst 0, 1) := by decide +kernel
theorem d15_1 : decode prog_94_method_12_code 1 = .ok (.istore 7, 2) := by decide +kernel
theorem d15_3 : decode prog_94_method_12_code 3 = .ok (.iconst 2, 1) := by decide +kernel
theorem d15_4 : decode prog_94_method_12_code 4 = .ok (.iload 7, 2) := by decide +kernel
theorem d15_6 : decode prog_94_method_12_code 6 = .ok (.imul, 1) := by decide +kernel
theorem d15_7 : decode prog_94_method_12_code 7 = .ok (.iconst 1, 1) := by decide +kernel
theorem d15_8 : decode prog_94_method_12_code 8 = .ok (.iadd, 1) := by decide +kernel
theorem d15_9 : decode prog_94_method_12_code 9 = .ok (.istore 8, 2) := by decide +kernel
theorem d15_11 : decode prog_94_method_12_code 11 = .ok (.iload 8, 2) := by decide +kernel
theorem d15_13 : decode prog_94_method_12_code 13 = .ok (.aload_n 0, 1) := by decide +kernel
theorem d15_14 : decode prog_94_method_12_code 14 = .ok (.getfield 72, 3) := by decide +kernel
theorem d15_17 : decode prog_94_method_12_code 17 = .ok (.if_icmp .lt 6, 3) := by decide +kernel
theorem d15_20 : decode prog_94_method_12_code 20 = .ok (.goto 96, 3) := by decide +kernel
theorem d15_116 : decode prog_94_method_12_code 116 = .ok (.aload_n 0, 1) := by decide +kernel
theorem d15_117 : decode prog_94_method_12_code 117 = .ok (.iload 7, 2) := by decide +kernel
theorem d15_119 : decode prog_94_method_12_code 119 = .ok (.lload_n 1, 1) := by decide +kernel
theorem d15_120 : decode prog_94_method_12_code 120 = .ok (.dload_n 3, 1) := by decide +kernel
theorem d15_121 : decode prog_94_method_12_code 121 = .ok (.lload 5, 2) := by decide +kernel
theorem d15_123 : decode prog_94_method_12_code 123 = .ok (.invokevirtual 131, 3) := by decide +kernel
theorem d15_126 : decode prog_94_method_12_code 126 = .ok (.return_, 1) := by decide +kernel
theorem pn15 : plainFor (⟨"org/segmentry/search/TopHits", "siftDown", "(JDJ)V"⟩ : MethodName) = true := plainFor_of_name (by first | (simp [plainName, overriddenIn]; done) | decide +kernel)
theorem ef_rmDown1 (m : MethodId) (x0 : Addr) (x1 : Int64) (x2 : UInt64) (x3 : Int64) : entryFrame m #[(.ref x0), (.long x1), (.double x2), (.long x3)] 9 = mkF m 0 #[.val (.ref x0), .val (.long x1), .second, .val (.double x2), .second, .val (.long x3), .second, .unset, .unset] [] := by first | (simp [entryFrame, mkF, argsToLocals, Value.category]; done) | rfl
set_option maxRecDepth 65536 in
set_option maxHeartbeats 40000000 in
theorem rmDown1 {l : Launch} {Z : State} {a0 : Array Value} (hw : ∀ d ∈ tables_1, d.before a0 Z = true) (q : Int64) (x : UInt64) (dd : Int64) (a r sc d : Addr) (top : Int32) (tt : Int64) (cap : Nat) (Rk : Nat → Int64) (Sc : Nat → UInt64) (Dc : Nat → Int64) (h0 : Heap) (n0 : Nat) (g_a : n0 ≤ a) (g_r : n0 ≤ r) (g_sc : n0 ≤ sc) (g_d : n0 ≤ d) (ne_a_r : a ≠ r) (ne_a_sc : a ≠ sc) (ne_a_d : a ≠ d) (ne_r_sc : r ≠ sc) (ne_r_d : r ≠ d) (ne_sc_d : sc ≠ d) (h0_ : 0 < cap) (E_a : Exa Z h0 a "org/segmentry/search/TopHits") (TT : TH Z h0 a r sc d top (1 : Int32) tt cap Rk Sc Dc) :
    Met l Z (⟨"org/segmentry/search/TopHits", "siftDown", "(JDJ)V"⟩ : MethodName) prog_94_method_12_code 9 none [] ({ frames := 2, cells := 0, slots := 0, locals := 33 } : Room) #[(.ref a), (.long q), (.double x), (.long dd)] h0 (fun v h L => v = none ∧ Fr n0 L ∧ Keep h0 h [r, sc, d] ∧ ∃ (Rk' : Nat → Int64) (Sc' : Nat → UInt64) (Dc' : Nat → Int64), TH Z h a r sc d top (1 : Int32) tt cap Rk' Sc' Dc' ∧ Rk' 0 = q) := by
  refine Met.mk pn15 ?_
  intro p e s m below meth c T hx hby hml hown hnm hret hlk hZ X eT
  refine Go.cast (ef_rmDown1 m a q x dd) ?_
  have N := Fr.nil n0
  have K := Keep.refl h0 [r, sc, d]
  obtain ⟨F_m_top_a, F_m_ranks_a, F_m_scores_a, F_m_documents_a, F_m_kept_a, F_m_total_a, V_r, V_sc, V_d⟩ := id TT
  show Go p e below s _ _ T (mkF m 0 #[.val (.ref a), .val (.long q), .second, .val (.double x), .second, .val (.long dd), .second, .unset, .unset] [])
  refine Go.of (fun _ kq => XS.iconst X.here hx rfl (hb hby d15_0) kq) ?_
  show Go p e below s _ _ T (mkF m 1 #[.val (.ref a), .val (.long q), .second, .val (.double x), .second, .val (.long dd), .second, .unset, .unset] [(.int (0 : Int32))])
  refine Go.of (fun _ kq => XS.istore X.here hx rfl (hb hby d15_1) rfl (l' := #[.val (.ref a), .val (.long q), .second, .val (.double x), .second, .val (.long dd), .second, .val (.int (0 : Int32)), .unset]) rfl kq) ?_
  show Go p e below s _ _ T (mkF m 3 #[.val (.ref a), .val (.long q), .second, .val (.double x), .second, .val (.long dd), .second, .val (.int (0 : Int32)), .unset] [])
  refine Go.of (fun _ kq => XS.iconst X.here hx rfl (hb hby d15_3) kq) ?_
  show Go p e below s _ _ T (mkF m 4 #[.val (.ref a), .val (.long q), .second, .val (.double x), .second, .val (.long dd), .second, .val (.int (0 : Int32)), .unset] [(.int (2 : Int32))])
  refine Go.of (fun _ kq => XS.iload X.here hx rfl (hb hby d15_4) rfl kq) ?_
  show Go p e below s _ _ T (mkF m 6 #[.val (.ref a), .val (.long q), .second, .val (.double x), .second, .val (.long dd), .second, .val (.int (0 : Int32)), .unset] [(.int (0 : Int32)), (.int (2 : Int32))])
  refine Go.of (fun _ kq => XS.imul X.here hx rfl (hb hby d15_6) rfl kq) ?_
  show Go p e below s _ _ T (mkF m 7 #[.val (.ref a), .val (.long q), .second, .val (.double x), .second, .val (.long dd), .second, .val (.int (0 : Int32)), .unset] [(.int (0 : Int32))])
  refine Go.of (fun _ kq => XS.iconst X.here hx rfl (hb hby d15_7) kq) ?_
  show Go p e below s _ _ T (mkF m 8 #[.val (.ref a), .val (.long q), .second, .val (.double x), .second, .val (.long dd), .second, .val (.int (0 : Int32)), .unset] [(.int (1 : Int32)), (.int (0 : Int32))])
  refine Go.of (fun _ kq => XS.iadd X.here hx rfl (hb hby d15_8) rfl kq) ?_
  show Go p e below s _ _ T (mkF m 9 #[.val (.ref a), .val (.long q), .second, .val (.double x), .second, .val (.long dd), .second, .val (.int (0 : Int32)), .unset] [(.int (1 : Int32))])
  refine Go.of (fun _ kq => XS.istore X.here hx rfl (hb hby d15_9) rfl (l' := #[.val (.ref a), .val (.long q), .second, .val (.double x), .second, .val (.long dd), .second, .val (.int (0 : Int32)), .val (.int (1 : Int32))]) rfl kq) ?_
  show Go p e below s _ _ T (mkF m 11 #[.val (.ref a), .val (.long q), .second, .val (.double x), .second, .val (.long dd), .second, .val (.int (0 : Int32)), .val (.int (1 : Int32))] [])
  refine Go.of (fun _ kq => XS.iload X.here hx rfl (hb hby d15_11) rfl kq) ?_
  show Go p e below s _ _ T (mkF m 13 #[.val (.ref a), .val (.long q), .second, .val (.double x), .second, .val (.long dd), .second, .val (.int (0 : Int32)), .val (.int (1 : Int32))] [(.int (1 : Int32))])
  refine Go.of (fun _ kq => XS.aloadN X.here hx rfl (hb hby d15_13) rfl rfl kq) ?_
  show Go p e below s _ _ T (mkF m 14 #[.val (.ref a), .val (.long q), .second, .val (.double x), .second, .val (.long dd), .second, .val (.int (0 : Int32)), .val (.int (1 : Int32))] [(.ref a), (.int (1 : Int32))])
  refine Go.getF X hx hZ hown (hw _ (List.mem_of_getElem? (i := 29) rfl)) Via.refl eT F_m_kept_a (hb hby d15_14) ?_
  intro T X eT
  show Go p e below s _ _ T (mkF m 17 #[.val (.ref a), .val (.long q), .second, .val (.double x), .second, .val (.long dd), .second, .val (.int (0 : Int32)), .val (.int (1 : Int32))] [(.int (1 : Int32)), (.int (1 : Int32))])
  refine Go.of (fun _ kq => XS.icmpNo X.here hx rfl (hb hby d15_17) rfl (flt (by decide)).1 kq) ?_
  show Go p e below s _ _ T (mkF m 20 #[.val (.ref a), .val (.long q), .second, .val (.double x), .second, .val (.long dd), .second, .val (.int (0 : Int32)), .val (.int (1 : Int32))] [])
  refine Go.of (fun _ kq => XS.goto X.here hx rfl (pc0 := 20) (pc' := 116) rfl (hb hby d15_20) (by decide) (by decide) kq) ?_
  show Go p e below s _ _ T (mkF m 116 #[.val (.ref a), .val (.long q), .second, .val (.double x), .second, .val (.long dd), .second, .val (.int (0 : Int32)), .val (.int (1 : Int32))] [])
  refine Go.of (fun _ kq => XS.aloadN X.here hx rfl (hb hby d15_116) rfl rfl kq) ?_
  show Go p e below s _ _ T (mkF m 117 #[.val (.ref a), .val (.long q), .second, .val (.double x), .second, .val (.long dd), .second, .val (.int (0 : Int32)), .val (.int (1 : Int32))] [(.ref a)])
  refine Go.of (fun _ kq => XS.iload X.here hx rfl (hb hby d15_117) rfl kq) ?_
  show Go p e below s _ _ T (mkF m 119 #[.val (.ref a), .val (.long q), .second, .val (.double x), .second, .val (.long dd), .second, .val (.int (0 : Int32)), .val (.int (1 : Int32))] [(.int (0 : Int32)), (.ref a)])
  refine Go.of (fun _ kq => XS.lloadN X.here hx rfl (hb hby d15_119) rfl kq) ?_
  show Go p e below s _ _ T (mkF m 120 #[.val (.ref a), .val (.long q), .second, .val (.double x), .second, .val (.long dd), .second, .val (.int (0 : Int32)), .val (.int (1 : Int32))] [(.long q), (.int (0 : Int32)), (.ref a)])
  refine Go.of (fun _ kq => XS.dloadN X.here hx rfl (hb hby d15_120) rfl kq) ?_
  show Go p e below s _ _ T (mkF m 121 #[.val (.ref a), .val (.long q), .second, .val (.double x), .second, .val (.long dd), .second, .val (.int (0 : Int32)), .val (.int (1 : Int32))] [(.double x), (.long q), (.int (0 : Int32)), (.ref a)])
  refine Go.of (fun _ kq => XS.lload X.here hx rfl (hb hby d15_121) rfl kq) ?_
  show Go p e below s _ _ T (mkF m 123 #[.val (.ref a), .val (.long q), .second, .val (.double x), .second, .val (.long dd), .second, .val (.int (0 : Int32)), .val (.int (1 : Int32))] [(.long dd), (.double x), (.long q), (.int (0 : Int32)), (.ref a)])
  refine Go.priv (a := a) X hx hZ hown (hw _ (List.mem_of_getElem? (i := 52) rfl)) (hw _ (List.mem_of_getElem? (i := 53) rfl)) (hw _ (List.mem_of_getElem? (i := 1) rfl)) (hw _ (List.mem_of_getElem? (i := 54) rfl)) (hw _ (List.mem_of_getElem? (i := 2) rfl)) (hw _ (List.mem_of_getElem? (i := 55) rfl)) (by decide) (rmPut hw (0 : Int32) q x dd a r sc d top (1 : Int32) tt cap Rk Sc Dc _ n0 g_a g_r g_sc g_d ne_a_r ne_a_sc ne_a_d ne_r_sc ne_r_d ne_sc_d ⟨by decide, h0_⟩ E_a TT) eT E_a 0 (by decide) (by decide) (by decide) (by decide) (by rw [hml]; rfl) (argsL := [(.int (0 : Int32)), (.long q), (.double x), (.long dd)]) [] (lenOf pd2 rfl) rfl rfl (Nat.le_of_eq rfl) (hb hby d15_123) ?_
  intro v T L' X hQ
  obtain ⟨h, eT⟩ : ∃ z, T.heap = z := ⟨_, rfl⟩
  rw [eT] at hQ
  obtain ⟨rfl, N', K', TT⟩ := hQ
  have N := Fr.app N N'
  have K := K.trans K' (own_all3 (Or.inl (List.mem_of_getElem? (i := 0) rfl)) (Or.inl (List.mem_of_getElem? (i := 1) rfl)) (Or.inl (List.mem_of_getElem? (i := 2) rfl)))
  have E_a := E_a.keep K'
  have F_m_top_a := F_m_top_a.keep K' (own_ni3 ne_a_r ne_a_sc ne_a_d)
  have F_m_ranks_a := F_m_ranks_a.keep K' (own_ni3 ne_a_r ne_a_sc ne_a_d)
  have F_m_scores_a := F_m_scores_a.keep K' (own_ni3 ne_a_r ne_a_sc ne_a_d)
  have F_m_documents_a := F_m_documents_a.keep K' (own_ni3 ne_a_r ne_a_sc ne_a_d)
  have F_m_kept_a := F_m_kept_a.keep K' (own_ni3 ne_a_r ne_a_sc ne_a_d)
  have F_m_total_a := F_m_total_a.keep K' (own_ni3 ne_a_r ne_a_sc ne_a_d)
  have TT : TH Z h a r sc d top (1 : Int32) tt cap (updJ Rk 0 q) (updD Sc 0 x) (updJ Dc 0 dd) := TT
  show Go p e below s _ _ T (mkF m 126 #[.val (.ref a), .val (.long q), .second, .val (.double x), .second, .val (.long dd), .second, .val (.int (0 : Int32)), .val (.int (1 : Int32))] [])
  refine Go.retV X hx hret hlk (hb hby d15_126) (by decide) (by decide) ?_
  try rw [eT]
  exact ⟨rfl, N, K, _, _, _, TT, rfl⟩
theorem d15_23 : decode prog_94_method_12_code 23 = .ok (.iload 8, 2) := by decide +kernel
theorem d15_25 : decode prog_94_method_12_code 25 = .ok (.iconst 1, 1) := by decide +kernel
theorem d15_26 : decode prog_94_method_12_code 26 = .ok (.iadd, 1) := by decide +kernel
theorem d15_27 : decode prog_94_method_12_code 27 = .ok (.aload_n 0, 1) := by decide +kernel
theorem d15_28 : decode prog_94_method_12_code 28 = .ok (.getfield 72, 3) := by decide +kernel
theorem d15_31 : decode prog_94_method_12_code 31 = .ok (.if_icmp .ge 44, 3) := by decide +kernel
theorem d15_75 : decode prog_94_method_12_code 75 = .ok (.aload_n 0, 1) := by decide +kernel
theorem d15_76 : decode prog_94_method_12_code 76 = .ok (.getfield 42, 3) := by decide +kernel
theorem d15_79 : decode prog_94_method_12_code 79 = .ok (.iload 8, 2) := by decide +kernel
theorem d15_81 : decode prog_94_method_12_code 81 = .ok (.laload, 1) := by decide +kernel
theorem d15_82 : decode prog_94_method_12_code 82 = .ok (.aload_n 0, 1) := by decide +kernel
theorem d15_83 : decode prog_94_method_12_code 83 = .ok (.getfield 50, 3) := by decide +kernel
theorem d15_86 : decode prog_94_method_12_code 86 = .ok (.iload 8, 2) := by decide +kernel
theorem d15_88 : decode prog_94_method_12_code 88 = .ok (.laload, 1) := by decide +kernel
theorem d15_89 : decode prog_94_method_12_code 89 = .ok (.lload_n 1, 1) := by decide +kernel
theorem d15_90 : decode prog_94_method_12_code 90 = .ok (.lload 5, 2) := by decide +kernel
theorem d15_92 : decode prog_94_method_12_code 92 = .ok (.invokestatic 123, 3) := by decide +kernel
theorem d15_95 : decode prog_94_method_12_code 95 = .ok (.ifCond .ne 6, 3) := by decide +kernel
theorem d15_98 : decode prog_94_method_12_code 98 = .ok (.goto 18, 3) := by decide +kernel
theorem d15_101 : decode prog_94_method_12_code 101 = .ok (.aload_n 0, 1) := by decide +kernel
theorem d15_102 : decode prog_94_method_12_code 102 = .ok (.iload 8, 2) := by decide +kernel
theorem d15_104 : decode prog_94_method_12_code 104 = .ok (.iload 7, 2) := by decide +kernel
theorem d15_106 : decode prog_94_method_12_code 106 = .ok (.invokevirtual 127, 3) := by decide +kernel
theorem d15_109 : decode prog_94_method_12_code 109 = .ok (.iload 8, 2) := by decide +kernel
theorem d15_111 : decode prog_94_method_12_code 111 = .ok (.istore 7, 2) := by decide +kernel
theorem d15_113 : decode prog_94_method_12_code 113 = .ok (.goto (-110), 3) := by decide +kernel
theorem ef_rmDown2 (m : MethodId) (x0 : Addr) (x1 : Int64) (x2 : UInt64) (x3 : Int64) : entryFrame m #[(.ref x0), (.long x1), (.double x2), (.long x3)] 9 = mkF m 0 #[.val (.ref x0), .val (.long x1), .second, .val (.double x2), .second, .val (.long x3), .second, .unset, .unset] [] := by first | (simp [entryFrame, mkF, argsToLocals, Value.category]; done) | rfl
set_option maxRecDepth 65536 in
set_option maxHeartbeats 40000000 in
theorem rmDown2 {l : Launch} {Z : State} {a0 : Array Value} (hw : ∀ d ∈ tables_1, d.before a0 Z = true) (q : Int64) (x : UInt64) (dd : Int64) (a r sc d : Addr) (top : Int32) (tt : Int64) (cap : Nat) (Rk : Nat → Int64) (Sc : Nat → UInt64) (Dc : Nat → Int64) (h0 : Heap) (n0 : Nat) (g_a : n0 ≤ a) (g_r : n0 ≤ r) (g_sc : n0 ≤ sc) (g_d : n0 ≤ d) (ne_a_r : a ≠ r) (ne_a_sc : a ≠ sc) (ne_a_d : a ≠ d) (ne_r_sc : r ≠ sc) (ne_r_d : r ≠ d) (ne_sc_d : sc ≠ d) (h0_ : 0 < cap) (h1_ : 1 < cap) (E_a : Exa Z h0 a "org/segmentry/search/TopHits") (TT : TH Z h0 a r sc d top (2 : Int32) tt cap Rk Sc Dc) :
    Met l Z (⟨"org/segmentry/search/TopHits", "siftDown", "(JDJ)V"⟩ : MethodName) prog_94_method_12_code 9 none [] ({ frames := 2, cells := 0, slots := 0, locals := 33 } : Room) #[(.ref a), (.long q), (.double x), (.long dd)] h0 (fun v h L => v = none ∧ Fr n0 L ∧ Keep h0 h [r, sc, d] ∧ ∃ (Rk' : Nat → Int64) (Sc' : Nat → UInt64) (Dc' : Nat → Int64), TH Z h a r sc d top (2 : Int32) tt cap Rk' Sc' Dc' ∧ Rk' 0 = own_max (Rk 1) q) := by
  refine Met.mk pn15 ?_
  intro p e s m below meth c T hx hby hml hown hnm hret hlk hZ X eT
  refine Go.cast (ef_rmDown2 m a q x dd) ?_
  have N := Fr.nil n0
  have K := Keep.refl h0 [r, sc, d]
  obtain ⟨F_m_top_a, F_m_ranks_a, F_m_scores_a, F_m_documents_a, F_m_kept_a, F_m_total_a, V_r, V_sc, V_d⟩ := id TT
  show Go p e below s _ _ T (mkF m 0 #[.val (.ref a), .val (.long q), .second, .val (.double x), .second, .val (.long dd), .second, .unset, .unset] [])
  refine Go.of (fun _ kq => XS.iconst X.here hx rfl (hb hby d15_0) kq) ?_
  show Go p e below s _ _ T (mkF m 1 #[.val (.ref a), .val (.long q), .second, .val (.double x), .second, .val (.long dd), .second, .unset, .unset] [(.int (0 : Int32))])
  refine Go.of (fun _ kq => XS.istore X.here hx rfl (hb hby d15_1) rfl (l' := #[.val (.ref a), .val (.long q), .second, .val (.double x), .second, .val (.long dd), .second, .val (.int (0 : Int32)), .unset]) rfl kq) ?_
  show Go p e below s _ _ T (mkF m 3 #[.val (.ref a), .val (.long q), .second, .val (.double x), .second, .val (.long dd), .second, .val (.int (0 : Int32)), .unset] [])
  refine Go.of (fun _ kq => XS.iconst X.here hx rfl (hb hby d15_3) kq) ?_
  show Go p e below s _ _ T (mkF m 4 #[.val (.ref a), .val (.long q), .second, .val (.double x), .second, .val (.long dd), .second, .val (.int (0 : Int32)), .unset] [(.int (2 : Int32))])
  refine Go.of (fun _ kq => XS.iload X.here hx rfl (hb hby d15_4) rfl kq) ?_
  show Go p e below s _ _ T (mkF m 6 #[.val (.ref a), .val (.long q), .second, .val (.double x), .second, .val (.long dd), .second, .val (.int (0 : Int32)), .unset] [(.int (0 : Int32)), (.int (2 : Int32))])
  refine Go.of (fun _ kq => XS.imul X.here hx rfl (hb hby d15_6) rfl kq) ?_
  show Go p e below s _ _ T (mkF m 7 #[.val (.ref a), .val (.long q), .second, .val (.double x), .second, .val (.long dd), .second, .val (.int (0 : Int32)), .unset] [(.int (0 : Int32))])
  refine Go.of (fun _ kq => XS.iconst X.here hx rfl (hb hby d15_7) kq) ?_
  show Go p e below s _ _ T (mkF m 8 #[.val (.ref a), .val (.long q), .second, .val (.double x), .second, .val (.long dd), .second, .val (.int (0 : Int32)), .unset] [(.int (1 : Int32)), (.int (0 : Int32))])
  refine Go.of (fun _ kq => XS.iadd X.here hx rfl (hb hby d15_8) rfl kq) ?_
  show Go p e below s _ _ T (mkF m 9 #[.val (.ref a), .val (.long q), .second, .val (.double x), .second, .val (.long dd), .second, .val (.int (0 : Int32)), .unset] [(.int (1 : Int32))])
  refine Go.of (fun _ kq => XS.istore X.here hx rfl (hb hby d15_9) rfl (l' := #[.val (.ref a), .val (.long q), .second, .val (.double x), .second, .val (.long dd), .second, .val (.int (0 : Int32)), .val (.int (1 : Int32))]) rfl kq) ?_
  show Go p e below s _ _ T (mkF m 11 #[.val (.ref a), .val (.long q), .second, .val (.double x), .second, .val (.long dd), .second, .val (.int (0 : Int32)), .val (.int (1 : Int32))] [])
  refine Go.of (fun _ kq => XS.iload X.here hx rfl (hb hby d15_11) rfl kq) ?_
  show Go p e below s _ _ T (mkF m 13 #[.val (.ref a), .val (.long q), .second, .val (.double x), .second, .val (.long dd), .second, .val (.int (0 : Int32)), .val (.int (1 : Int32))] [(.int (1 : Int32))])
  refine Go.of (fun _ kq => XS.aloadN X.here hx rfl (hb hby d15_13) rfl rfl kq) ?_
  show Go p e below s _ _ T (mkF m 14 #[.val (.ref a), .val (.long q), .second, .val (.double x), .second, .val (.long dd), .second, .val (.int (0 : Int32)), .val (.int (1 : Int32))] [(.ref a), (.int (1 : Int32))])
  refine Go.getF X hx hZ hown (hw _ (List.mem_of_getElem? (i := 29) rfl)) Via.refl eT F_m_kept_a (hb hby d15_14) ?_
  intro T X eT
  show Go p e below s _ _ T (mkF m 17 #[.val (.ref a), .val (.long q), .second, .val (.double x), .second, .val (.long dd), .second, .val (.int (0 : Int32)), .val (.int (1 : Int32))] [(.int (2 : Int32)), (.int (1 : Int32))])
  refine Go.of (fun _ kq => XS.icmpYes X.here hx rfl (pc0 := 17) (pc' := 23) rfl (hb hby d15_17) rfl (tlt (by decide)).1 (by decide) (by decide) kq) ?_
  show Go p e below s _ _ T (mkF m 23 #[.val (.ref a), .val (.long q), .second, .val (.double x), .second, .val (.long dd), .second, .val (.int (0 : Int32)), .val (.int (1 : Int32))] [])
  refine Go.of (fun _ kq => XS.iload X.here hx rfl (hb hby d15_23) rfl kq) ?_
  show Go p e below s _ _ T (mkF m 25 #[.val (.ref a), .val (.long q), .second, .val (.double x), .second, .val (.long dd), .second, .val (.int (0 : Int32)), .val (.int (1 : Int32))] [(.int (1 : Int32))])
  refine Go.of (fun _ kq => XS.iconst X.here hx rfl (hb hby d15_25) kq) ?_
  show Go p e below s _ _ T (mkF m 26 #[.val (.ref a), .val (.long q), .second, .val (.double x), .second, .val (.long dd), .second, .val (.int (0 : Int32)), .val (.int (1 : Int32))] [(.int (1 : Int32)), (.int (1 : Int32))])
  refine Go.of (fun _ kq => XS.iadd X.here hx rfl (hb hby d15_26) rfl kq) ?_
  show Go p e below s _ _ T (mkF m 27 #[.val (.ref a), .val (.long q), .second, .val (.double x), .second, .val (.long dd), .second, .val (.int (0 : Int32)), .val (.int (1 : Int32))] [(.int (2 : Int32))])
  refine Go.of (fun _ kq => XS.aloadN X.here hx rfl (hb hby d15_27) rfl rfl kq) ?_
  show Go p e below s _ _ T (mkF m 28 #[.val (.ref a), .val (.long q), .second, .val (.double x), .second, .val (.long dd), .second, .val (.int (0 : Int32)), .val (.int (1 : Int32))] [(.ref a), (.int (2 : Int32))])
  refine Go.getF X hx hZ hown (hw _ (List.mem_of_getElem? (i := 29) rfl)) Via.refl eT F_m_kept_a (hb hby d15_28) ?_
  intro T X eT
  show Go p e below s _ _ T (mkF m 31 #[.val (.ref a), .val (.long q), .second, .val (.double x), .second, .val (.long dd), .second, .val (.int (0 : Int32)), .val (.int (1 : Int32))] [(.int (2 : Int32)), (.int (2 : Int32))])
  refine Go.of (fun _ kq => XS.icmpYes X.here hx rfl (pc0 := 31) (pc' := 75) rfl (hb hby d15_31) rfl (flt (by decide)).2.1 (by decide) (by decide) kq) ?_
  show Go p e below s _ _ T (mkF m 75 #[.val (.ref a), .val (.long q), .second, .val (.double x), .second, .val (.long dd), .second, .val (.int (0 : Int32)), .val (.int (1 : Int32))] [])
  refine Go.of (fun _ kq => XS.aloadN X.here hx rfl (hb hby d15_75) rfl rfl kq) ?_
  show Go p e below s _ _ T (mkF m 76 #[.val (.ref a), .val (.long q), .second, .val (.double x), .second, .val (.long dd), .second, .val (.int (0 : Int32)), .val (.int (1 : Int32))] [(.ref a)])
  refine Go.getF X hx hZ hown (hw _ (List.mem_of_getElem? (i := 16) rfl)) Via.refl eT F_m_ranks_a (hb hby d15_76) ?_
  intro T X eT
  show Go p e below s _ _ T (mkF m 79 #[.val (.ref a), .val (.long q), .second, .val (.double x), .second, .val (.long dd), .second, .val (.int (0 : Int32)), .val (.int (1 : Int32))] [(.ref r)])
  refine Go.of (fun _ kq => XS.iload X.here hx rfl (hb hby d15_79) rfl kq) ?_
  show Go p e below s _ _ T (mkF m 81 #[.val (.ref a), .val (.long q), .second, .val (.double x), .second, .val (.long dd), .second, .val (.int (0 : Int32)), .val (.int (1 : Int32))] [(.int (1 : Int32)), (.ref r)])
  refine Go.ldJ (.long (Rk 1)) X hx hZ eT V_r (show Inb (1 : Int32) cap from ⟨by decide, h1_⟩) rfl (hb hby d15_81) ?_
  show Go p e below s _ _ T (mkF m 82 #[.val (.ref a), .val (.long q), .second, .val (.double x), .second, .val (.long dd), .second, .val (.int (0 : Int32)), .val (.int (1 : Int32))] [(.long (Rk 1))])
  refine Go.of (fun _ kq => XS.aloadN X.here hx rfl (hb hby d15_82) rfl rfl kq) ?_
  show Go p e below s _ _ T (mkF m 83 #[.val (.ref a), .val (.long q), .second, .val (.double x), .second, .val (.long dd), .second, .val (.int (0 : Int32)), .val (.int (1 : Int32))] [(.ref a), (.long (Rk 1))])
  refine Go.getF X hx hZ hown (hw _ (List.mem_of_getElem? (i := 21) rfl)) Via.refl eT F_m_documents_a (hb hby d15_83) ?_
  intro T X eT
  show Go p e below s _ _ T (mkF m 86 #[.val (.ref a), .val (.long q), .second, .val (.double x), .second, .val (.long dd), .second, .val (.int (0 : Int32)), .val (.int (1 : Int32))] [(.ref d), (.long (Rk 1))])
  refine Go.of (fun _ kq => XS.iload X.here hx rfl (hb hby d15_86) rfl kq) ?_
  show Go p e below s _ _ T (mkF m 88 #[.val (.ref a), .val (.long q), .second, .val (.double x), .second, .val (.long dd), .second, .val (.int (0 : Int32)), .val (.int (1 : Int32))] [(.int (1 : Int32)), (.ref d), (.long (Rk 1))])
  refine Go.ldJ (.long (Dc 1)) X hx hZ eT V_d (show Inb (1 : Int32) cap from ⟨by decide, h1_⟩) rfl (hb hby d15_88) ?_
  show Go p e below s _ _ T (mkF m 89 #[.val (.ref a), .val (.long q), .second, .val (.double x), .second, .val (.long dd), .second, .val (.int (0 : Int32)), .val (.int (1 : Int32))] [(.long (Dc 1)), (.long (Rk 1))])
  refine Go.of (fun _ kq => XS.lloadN X.here hx rfl (hb hby d15_89) rfl kq) ?_
  show Go p e below s _ _ T (mkF m 90 #[.val (.ref a), .val (.long q), .second, .val (.double x), .second, .val (.long dd), .second, .val (.int (0 : Int32)), .val (.int (1 : Int32))] [(.long q), (.long (Dc 1)), (.long (Rk 1))])
  refine Go.of (fun _ kq => XS.lload X.here hx rfl (hb hby d15_90) rfl kq) ?_
  show Go p e below s _ _ T (mkF m 92 #[.val (.ref a), .val (.long q), .second, .val (.double x), .second, .val (.long dd), .second, .val (.int (0 : Int32)), .val (.int (1 : Int32))] [(.long dd), (.long q), (.long (Dc 1)), (.long (Rk 1))])
  refine Go.static X hx hZ hown (hw _ (List.mem_of_getElem? (i := 56) rfl)) (hw _ (List.mem_of_getElem? (i := 57) rfl)) (hw _ (List.mem_of_getElem? (i := 2) rfl)) (hw _ (List.mem_of_getElem? (i := 58) rfl)) (by decide) (rmWorse hw (Rk 1) (Dc 1) q dd _ n0) eT 0 (by decide) (by decide) (by decide) (by decide) (by rw [hml]; rfl) (argsL := [(.long (Rk 1)), (.long (Dc 1)), (.long q), (.long dd)]) [] (lenOf pd3 rfl) rfl rfl (Nat.le_of_eq rfl) (hb hby d15_92) ?_
  intro v T L' X hQ
  obtain ⟨rfl, N', eT⟩ := hQ
  have N := Fr.app N N'
  show Go p e below s _ _ T (mkF m 95 #[.val (.ref a), .val (.long q), .second, .val (.double x), .second, .val (.long dd), .second, .val (.int (0 : Int32)), .val (.int (1 : Int32))] [(.int (own_worse (Rk 1) (Dc 1) q dd))])
  by_cases hc95 : (own_worse (Rk 1) (Dc 1) q dd) = (0 : Int32)
  · refine Go.of (fun _ kq => XS.ifNo X.here hx rfl (hb hby d15_95) rfl ((if0 _ _).trans (teq hc95).2) kq) ?_
    show Go p e below s _ _ T (mkF m 98 #[.val (.ref a), .val (.long q), .second, .val (.double x), .second, .val (.long dd), .second, .val (.int (0 : Int32)), .val (.int (1 : Int32))] [])
    refine Go.of (fun _ kq => XS.goto X.here hx rfl (pc0 := 98) (pc' := 116) rfl (hb hby d15_98) (by decide) (by decide) kq) ?_
    show Go p e below s _ _ T (mkF m 116 #[.val (.ref a), .val (.long q), .second, .val (.double x), .second, .val (.long dd), .second, .val (.int (0 : Int32)), .val (.int (1 : Int32))] [])
    refine Go.of (fun _ kq => XS.aloadN X.here hx rfl (hb hby d15_116) rfl rfl kq) ?_
    show Go p e below s _ _ T (mkF m 117 #[.val (.ref a), .val (.long q), .second, .val (.double x), .second, .val (.long dd), .second, .val (.int (0 : Int32)), .val (.int (1 : Int32))] [(.ref a)])
    refine Go.of (fun _ kq => XS.iload X.here hx rfl (hb hby d15_117) rfl kq) ?_
    show Go p e below s _ _ T (mkF m 119 #[.val (.ref a), .val (.long q), .second, .val (.double x), .second, .val (.long dd), .second, .val (.int (0 : Int32)), .val (.int (1 : Int32))] [(.int (0 : Int32)), (.ref a)])
    refine Go.of (fun _ kq => XS.lloadN X.here hx rfl (hb hby d15_119) rfl kq) ?_
    show Go p e below s _ _ T (mkF m 120 #[.val (.ref a), .val (.long q), .second, .val (.double x), .second, .val (.long dd), .second, .val (.int (0 : Int32)), .val (.int (1 : Int32))] [(.long q), (.int (0 : Int32)), (.ref a)])
    refine Go.of (fun _ kq => XS.dloadN X.here hx rfl (hb hby d15_120) rfl kq) ?_
    show Go p e below s _ _ T (mkF m 121 #[.val (.ref a), .val (.long q), .second, .val (.double x), .second, .val (.long dd), .second, .val (.int (0 : Int32)), .val (.int (1 : Int32))] [(.double x), (.long q), (.int (0 : Int32)), (.ref a)])
    refine Go.of (fun _ kq => XS.lload X.here hx rfl (hb hby d15_121) rfl kq) ?_
    show Go p e below s _ _ T (mkF m 123 #[.val (.ref a), .val (.long q), .second, .val (.double x), .second, .val (.long dd), .second, .val (.int (0 : Int32)), .val (.int (1 : Int32))] [(.long dd), (.double x), (.long q), (.int (0 : Int32)), (.ref a)])
    refine Go.priv (a := a) X hx hZ hown (hw _ (List.mem_of_getElem? (i := 52) rfl)) (hw _ (List.mem_of_getElem? (i := 53) rfl)) (hw _ (List.mem_of_getElem? (i := 1) rfl)) (hw _ (List.mem_of_getElem? (i := 54) rfl)) (hw _ (List.mem_of_getElem? (i := 2) rfl)) (hw _ (List.mem_of_getElem? (i := 55) rfl)) (by decide) (rmPut hw (0 : Int32) q x dd a r sc d top (2 : Int32) tt cap Rk Sc Dc _ n0 g_a g_r g_sc g_d ne_a_r ne_a_sc ne_a_d ne_r_sc ne_r_d ne_sc_d ⟨by decide, h0_⟩ E_a TT) eT E_a 0 (by decide) (by decide) (by decide) (by decide) (by rw [hml]; rfl) (argsL := [(.int (0 : Int32)), (.long q), (.double x), (.long dd)]) [] (lenOf pd2 rfl) rfl rfl (Nat.le_of_eq rfl) (hb hby d15_123) ?_
    intro v T L' X hQ
    obtain ⟨h, eT⟩ : ∃ z, T.heap = z := ⟨_, rfl⟩
    rw [eT] at hQ
    obtain ⟨rfl, N', K', TT⟩ := hQ
    have N := Fr.app N N'
    have K := K.trans K' (own_all3 (Or.inl (List.mem_of_getElem? (i := 0) rfl)) (Or.inl (List.mem_of_getElem? (i := 1) rfl)) (Or.inl (List.mem_of_getElem? (i := 2) rfl)))
    have E_a := E_a.keep K'
    have F_m_top_a := F_m_top_a.keep K' (own_ni3 ne_a_r ne_a_sc ne_a_d)
    have F_m_ranks_a := F_m_ranks_a.keep K' (own_ni3 ne_a_r ne_a_sc ne_a_d)
    have F_m_scores_a := F_m_scores_a.keep K' (own_ni3 ne_a_r ne_a_sc ne_a_d)
    have F_m_documents_a := F_m_documents_a.keep K' (own_ni3 ne_a_r ne_a_sc ne_a_d)
    have F_m_kept_a := F_m_kept_a.keep K' (own_ni3 ne_a_r ne_a_sc ne_a_d)
    have F_m_total_a := F_m_total_a.keep K' (own_ni3 ne_a_r ne_a_sc ne_a_d)
    have TT : TH Z h a r sc d top (2 : Int32) tt cap (updJ Rk 0 q) (updD Sc 0 x) (updJ Dc 0 dd) := TT
    show Go p e below s _ _ T (mkF m 126 #[.val (.ref a), .val (.long q), .second, .val (.double x), .second, .val (.long dd), .second, .val (.int (0 : Int32)), .val (.int (1 : Int32))] [])
    refine Go.retV X hx hret hlk (hb hby d15_126) (by decide) (by decide) ?_
    try rw [eT]
    exact ⟨rfl, N, K, _, _, _, TT, (own_mx0 hc95).symm⟩
  · refine Go.of (fun _ kq => XS.ifYes X.here hx rfl (pc0 := 95) (pc' := 101) rfl (hb hby d15_95) rfl ((if0 _ _).trans (feq hc95).2) (by decide) (by decide) kq) ?_
    show Go p e below s _ _ T (mkF m 101 #[.val (.ref a), .val (.long q), .second, .val (.double x), .second, .val (.long dd), .second, .val (.int (0 : Int32)), .val (.int (1 : Int32))] [])
    refine Go.of (fun _ kq => XS.aloadN X.here hx rfl (hb hby d15_101) rfl rfl kq) ?_
    show Go p e below s _ _ T (mkF m 102 #[.val (.ref a), .val (.long q), .second, .val (.double x), .second, .val (.long dd), .second, .val (.int (0 : Int32)), .val (.int (1 : Int32))] [(.ref a)])
    refine Go.of (fun _ kq => XS.iload X.here hx rfl (hb hby d15_102) rfl kq) ?_
    show Go p e below s _ _ T (mkF m 104 #[.val (.ref a), .val (.long q), .second, .val (.double x), .second, .val (.long dd), .second, .val (.int (0 : Int32)), .val (.int (1 : Int32))] [(.int (1 : Int32)), (.ref a)])
    refine Go.of (fun _ kq => XS.iload X.here hx rfl (hb hby d15_104) rfl kq) ?_
    show Go p e below s _ _ T (mkF m 106 #[.val (.ref a), .val (.long q), .second, .val (.double x), .second, .val (.long dd), .second, .val (.int (0 : Int32)), .val (.int (1 : Int32))] [(.int (0 : Int32)), (.int (1 : Int32)), (.ref a)])
    refine Go.priv (a := a) X hx hZ hown (hw _ (List.mem_of_getElem? (i := 59) rfl)) (hw _ (List.mem_of_getElem? (i := 60) rfl)) (hw _ (List.mem_of_getElem? (i := 1) rfl)) (hw _ (List.mem_of_getElem? (i := 61) rfl)) (hw _ (List.mem_of_getElem? (i := 2) rfl)) (hw _ (List.mem_of_getElem? (i := 62) rfl)) (by decide) (rmMove hw (1 : Int32) (0 : Int32) a r sc d top (2 : Int32) tt cap Rk Sc Dc _ n0 g_a g_r g_sc g_d ne_a_r ne_a_sc ne_a_d ne_r_sc ne_r_d ne_sc_d ⟨by decide, h1_⟩ ⟨by decide, h0_⟩ E_a TT) eT E_a 0 (by decide) (by decide) (by decide) (by decide) (by rw [hml]; rfl) (argsL := [(.int (1 : Int32)), (.int (0 : Int32))]) [] (lenOf pd4 rfl) rfl rfl (Nat.le_of_eq rfl) (hb hby d15_106) ?_
    intro v T L' X hQ
    obtain ⟨h, eT⟩ : ∃ z, T.heap = z := ⟨_, rfl⟩
    rw [eT] at hQ
    obtain ⟨rfl, N', K', TT⟩ := hQ
    have N := Fr.app N N'
    have K := K.trans K' (own_all3 (Or.inl (List.mem_of_getElem? (i := 0) rfl)) (Or.inl (List.mem_of_getElem? (i := 1) rfl)) (Or.inl (List.mem_of_getElem? (i := 2) rfl)))
    have E_a := E_a.keep K'
    have F_m_top_a := F_m_top_a.keep K' (own_ni3 ne_a_r ne_a_sc ne_a_d)
    have F_m_ranks_a := F_m_ranks_a.keep K' (own_ni3 ne_a_r ne_a_sc ne_a_d)
    have F_m_scores_a := F_m_scores_a.keep K' (own_ni3 ne_a_r ne_a_sc ne_a_d)
    have F_m_documents_a := F_m_documents_a.keep K' (own_ni3 ne_a_r ne_a_sc ne_a_d)
    have F_m_kept_a := F_m_kept_a.keep K' (own_ni3 ne_a_r ne_a_sc ne_a_d)
    have F_m_total_a := F_m_total_a.keep K' (own_ni3 ne_a_r ne_a_sc ne_a_d)
    have TT : TH Z h a r sc d top (2 : Int32) tt cap (updJ Rk 0 (Rk 1)) (updD Sc 0 (Sc 1)) (updJ Dc 0 (Dc 1)) := TT
    show Go p e below s _ _ T (mkF m 109 #[.val (.ref a), .val (.long q), .second, .val (.double x), .second, .val (.long dd), .second, .val (.int (0 : Int32)), .val (.int (1 : Int32))] [])
    obtain ⟨F_m_top_a, F_m_ranks_a, F_m_scores_a, F_m_documents_a, F_m_kept_a, F_m_total_a, V_r, V_sc, V_d⟩ := id TT
    refine Go.of (fun _ kq => XS.iload X.here hx rfl (hb hby d15_109) rfl kq) ?_
    show Go p e below s _ _ T (mkF m 111 #[.val (.ref a), .val (.long q), .second, .val (.double x), .second, .val (.long dd), .second, .val (.int (0 : Int32)), .val (.int (1 : Int32))] [(.int (1 : Int32))])
    refine Go.of (fun _ kq => XS.istore X.here hx rfl (hb hby d15_111) rfl (l' := #[.val (.ref a), .val (.long q), .second, .val (.double x), .second, .val (.long dd), .second, .val (.int (1 : Int32)), .val (.int (1 : Int32))]) rfl kq) ?_
    show Go p e below s _ _ T (mkF m 113 #[.val (.ref a), .val (.long q), .second, .val (.double x), .second, .val (.long dd), .second, .val (.int (1 : Int32)), .val (.int (1 : Int32))] [])
    refine Go.of (fun _ kq => XS.goto X.here hx rfl (pc0 := 113) (pc' := 3) rfl (hb hby d15_113) (by decide) (by decide) kq) ?_
    show Go p e below s _ _ T (mkF m 3 #[.val (.ref a), .val (.long q), .second, .val (.double x), .second, .val (.long dd), .second, .val (.int (1 : Int32)), .val (.int (1 : Int32))] [])
    refine Go.of (fun _ kq => XS.iconst X.here hx rfl (hb hby d15_3) kq) ?_
    show Go p e below s _ _ T (mkF m 4 #[.val (.ref a), .val (.long q), .second, .val (.double x), .second, .val (.long dd), .second, .val (.int (1 : Int32)), .val (.int (1 : Int32))] [(.int (2 : Int32))])
    refine Go.of (fun _ kq => XS.iload X.here hx rfl (hb hby d15_4) rfl kq) ?_
    show Go p e below s _ _ T (mkF m 6 #[.val (.ref a), .val (.long q), .second, .val (.double x), .second, .val (.long dd), .second, .val (.int (1 : Int32)), .val (.int (1 : Int32))] [(.int (1 : Int32)), (.int (2 : Int32))])
    refine Go.of (fun _ kq => XS.imul X.here hx rfl (hb hby d15_6) rfl kq) ?_
    show Go p e below s _ _ T (mkF m 7 #[.val (.ref a), .val (.long q), .second, .val (.double x), .second, .val (.long dd), .second, .val (.int (1 : Int32)), .val (.int (1 : Int32))] [(.int (2 : Int32))])
    refine Go.of (fun _ kq => XS.iconst X.here hx rfl (hb hby d15_7) kq) ?_
    show Go p e below s _ _ T (mkF m 8 #[.val (.ref a), .val (.long q), .second, .val (.double x), .second, .val (.long dd), .second, .val (.int (1 : Int32)), .val (.int (1 : Int32))] [(.int (1 : Int32)), (.int (2 : Int32))])
    refine Go.of (fun _ kq => XS.iadd X.here hx rfl (hb hby d15_8) rfl kq) ?_
    show Go p e below s _ _ T (mkF m 9 #[.val (.ref a), .val (.long q), .second, .val (.double x), .second, .val (.long dd), .second, .val (.int (1 : Int32)), .val (.int (1 : Int32))] [(.int (3 : Int32))])
    refine Go.of (fun _ kq => XS.istore X.here hx rfl (hb hby d15_9) rfl (l' := #[.val (.ref a), .val (.long q), .second, .val (.double x), .second, .val (.long dd), .second, .val (.int (1 : Int32)), .val (.int (3 : Int32))]) rfl kq) ?_
    show Go p e below s _ _ T (mkF m 11 #[.val (.ref a), .val (.long q), .second, .val (.double x), .second, .val (.long dd), .second, .val (.int (1 : Int32)), .val (.int (3 : Int32))] [])
    refine Go.of (fun _ kq => XS.iload X.here hx rfl (hb hby d15_11) rfl kq) ?_
    show Go p e below s _ _ T (mkF m 13 #[.val (.ref a), .val (.long q), .second, .val (.double x), .second, .val (.long dd), .second, .val (.int (1 : Int32)), .val (.int (3 : Int32))] [(.int (3 : Int32))])
    refine Go.of (fun _ kq => XS.aloadN X.here hx rfl (hb hby d15_13) rfl rfl kq) ?_
    show Go p e below s _ _ T (mkF m 14 #[.val (.ref a), .val (.long q), .second, .val (.double x), .second, .val (.long dd), .second, .val (.int (1 : Int32)), .val (.int (3 : Int32))] [(.ref a), (.int (3 : Int32))])
    refine Go.getF X hx hZ hown (hw _ (List.mem_of_getElem? (i := 29) rfl)) Via.refl eT F_m_kept_a (hb hby d15_14) ?_
    intro T X eT
    show Go p e below s _ _ T (mkF m 17 #[.val (.ref a), .val (.long q), .second, .val (.double x), .second, .val (.long dd), .second, .val (.int (1 : Int32)), .val (.int (3 : Int32))] [(.int (2 : Int32)), (.int (3 : Int32))])
    refine Go.of (fun _ kq => XS.icmpNo X.here hx rfl (hb hby d15_17) rfl (flt (by decide)).1 kq) ?_
    show Go p e below s _ _ T (mkF m 20 #[.val (.ref a), .val (.long q), .second, .val (.double x), .second, .val (.long dd), .second, .val (.int (1 : Int32)), .val (.int (3 : Int32))] [])
    refine Go.of (fun _ kq => XS.goto X.here hx rfl (pc0 := 20) (pc' := 116) rfl (hb hby d15_20) (by decide) (by decide) kq) ?_
    show Go p e below s _ _ T (mkF m 116 #[.val (.ref a), .val (.long q), .second, .val (.double x), .second, .val (.long dd), .second, .val (.int (1 : Int32)), .val (.int (3 : Int32))] [])
    refine Go.of (fun _ kq => XS.aloadN X.here hx rfl (hb hby d15_116) rfl rfl kq) ?_
    show Go p e below s _ _ T (mkF m 117 #[.val (.ref a), .val (.long q), .second, .val (.double x), .second, .val (.long dd), .second, .val (.int (1 : Int32)), .val (.int (3 : Int32))] [(.ref a)])
    refine Go.of (fun _ kq => XS.iload X.here hx rfl (hb hby d15_117) rfl kq) ?_
    show Go p e below s _ _ T (mkF m 119 #[.val (.ref a), .val (.long q), .second, .val (.double x), .second, .val (.long dd), .second, .val (.int (1 : Int32)), .val (.int (3 : Int32))] [(.int (1 : Int32)), (.ref a)])
    refine Go.of (fun _ kq => XS.lloadN X.here hx rfl (hb hby d15_119) rfl kq) ?_
    show Go p e below s _ _ T (mkF m 120 #[.val (.ref a), .val (.long q), .second, .val (.double x), .second, .val (.long dd), .second, .val (.int (1 : Int32)), .val (.int (3 : Int32))] [(.long q), (.int (1 : Int32)), (.ref a)])
    refine Go.of (fun _ kq => XS.dloadN X.here hx rfl (hb hby d15_120) rfl kq) ?_
    show Go p e below s _ _ T (mkF m 121 #[.val (.ref a), .val (.long q), .second, .val (.double x), .second, .val (.long dd), .second, .val (.int (1 : Int32)), .val (.int (3 : Int32))] [(.double x), (.long q), (.int (1 : Int32)), (.ref a)])
    refine Go.of (fun _ kq => XS.lload X.here hx rfl (hb hby d15_121) rfl kq) ?_
    show Go p e below s _ _ T (mkF m 123 #[.val (.ref a), .val (.long q), .second, .val (.double x), .second, .val (.long dd), .second, .val (.int (1 : Int32)), .val (.int (3 : Int32))] [(.long dd), (.double x), (.long q), (.int (1 : Int32)), (.ref a)])
    refine Go.priv (a := a) X hx hZ hown (hw _ (List.mem_of_getElem? (i := 52) rfl)) (hw _ (List.mem_of_getElem? (i := 53) rfl)) (hw _ (List.mem_of_getElem? (i := 1) rfl)) (hw _ (List.mem_of_getElem? (i := 54) rfl)) (hw _ (List.mem_of_getElem? (i := 2) rfl)) (hw _ (List.mem_of_getElem? (i := 55) rfl)) (by decide) (rmPut hw (1 : Int32) q x dd a r sc d top (2 : Int32) tt cap (updJ Rk 0 (Rk 1)) (updD Sc 0 (Sc 1)) (updJ Dc 0 (Dc 1)) _ n0 g_a g_r g_sc g_d ne_a_r ne_a_sc ne_a_d ne_r_sc ne_r_d ne_sc_d ⟨by decide, h1_⟩ E_a TT) eT E_a 0 (by decide) (by decide) (by decide) (by decide) (by rw [hml]; rfl) (argsL := [(.int (1 : Int32)), (.long q), (.double x), (.long dd)]) [] (lenOf pd2 rfl) rfl rfl (Nat.le_of_eq rfl) (hb hby d15_123) ?_
    intro v T L' X hQ
    obtain ⟨h, eT⟩ : ∃ z, T.heap = z := ⟨_, rfl⟩
    rw [eT] at hQ
    obtain ⟨rfl, N', K', TT⟩ := hQ
    have N := Fr.app N N'
    have K := K.trans K' (own_all3 (Or.inl (List.mem_of_getElem? (i := 0) rfl)) (Or.inl (List.mem_of_getElem? (i := 1) rfl)) (Or.inl (List.mem_of_getElem? (i := 2) rfl)))
    have E_a := E_a.keep K'
    have F_m_top_a := F_m_top_a.keep K' (own_ni3 ne_a_r ne_a_sc ne_a_d)
    have F_m_ranks_a := F_m_ranks_a.keep K' (own_ni3 ne_a_r ne_a_sc ne_a_d)
    have F_m_scores_a := F_m_scores_a.keep K' (own_ni3 ne_a_r ne_a_sc ne_a_d)
    have F_m_documents_a := F_m_documents_a.keep K' (own_ni3 ne_a_r ne_a_sc ne_a_d)
    have F_m_kept_a := F_m_kept_a.keep K' (own_ni3 ne_a_r ne_a_sc ne_a_d)
    have F_m_total_a := F_m_total_a.keep K' (own_ni3 ne_a_r ne_a_sc ne_a_d)
    have TT : TH Z h a r sc d top (2 : Int32) tt cap (updJ (updJ Rk 0 (Rk 1)) 1 q) (updD (updD Sc 0 (Sc 1)) 1 x) (updJ (updJ Dc 0 (Dc 1)) 1 dd) := TT
    show Go p e below s _ _ T (mkF m 126 #[.val (.ref a), .val (.long q), .second, .val (.double x), .second, .val (.long dd), .second, .val (.int (1 : Int32)), .val (.int (3 : Int32))] [])
    refine Go.retV X hx hret hlk (hb hby d15_126) (by decide) (by decide) ?_
    try rw [eT]
    exact ⟨rfl, N, K, _, _, _, TT, (own_mx1 hc95).symm⟩
theorem d7_0 : decode prog_94_method_10_code 0 = .ok (.aload_n 0, 1) := by decide +kernel
theorem d7_1 : decode prog_94_method_10_code 1 = .ok (.getfield 72, 3) := by decide +kernel
theorem d7_4 : decode prog_94_method_10_code 4 = .ok (.aload_n 0, 1) := by decide +kernel
theorem d7_5 : decode prog_94_method_10_code 5 = .ok (.getfield 42, 3) := by decide +kernel
theorem d7_8 : decode prog_94_method_10_code 8 = .ok (.arraylength, 1) := by decide +kernel
theorem d7_9 : decode prog_94_method_10_code 9 = .ok (.if_icmp .ne 58, 3) := by decide +kernel
theorem d7_67 : decode prog_94_method_10_code 67 = .ok (.return_, 1) := by decide +kernel
theorem pn7 : plainFor (⟨"org/segmentry/search/TopHits", "grow", "()V"⟩ : MethodName) = true := plainFor_of_name (by first | (simp [plainName, overriddenIn]; done) | decide +kernel)
theorem ef_rmGrow (m : MethodId) (x0 : Addr) : entryFrame m #[(.ref x0)] 2 = mkF m 0 #[.val (.ref x0), .unset] [] := by first | (simp [entryFrame, mkF, argsToLocals, Value.category]; done) | rfl
set_option maxRecDepth 65536 in
set_option maxHeartbeats 40000000 in
theorem rmGrow {l : Launch} {Z : State} {a0 : Array Value} (hw : ∀ d ∈ tables_1, d.before a0 Z = true) (a r sc d : Addr) (top k : Int32) (tt : Int64) (cap : Nat) (Rk : Nat → Int64) (Sc : Nat → UInt64) (Dc : Nat → Int64) (h0 : Heap) (n0 : Nat) (hne : ¬ k = cap.toInt32) (TT : TH Z h0 a r sc d top k tt cap Rk Sc Dc) :
    Met l Z (⟨"org/segmentry/search/TopHits", "grow", "()V"⟩ : MethodName) prog_94_method_10_code 2 none [] ({ frames := 0, cells := 0, slots := 0, locals := 0 } : Room) #[(.ref a)] h0 (fun v h L => v = none ∧ Fr n0 L ∧ h = h0) := by
  refine Met.mk pn7 ?_
  intro p e s m below meth c T hx hby hml hown hnm hret hlk hZ X eT
  refine Go.cast (ef_rmGrow m a) ?_
  have N := Fr.nil n0
  obtain ⟨F_m_top_a, F_m_ranks_a, F_m_scores_a, F_m_documents_a, F_m_kept_a, F_m_total_a, V_r, V_sc, V_d⟩ := id TT
  show Go p e below s _ _ T (mkF m 0 #[.val (.ref a), .unset] [])
  refine Go.of (fun _ kq => XS.aloadN X.here hx rfl (hb hby d7_0) rfl rfl kq) ?_
  show Go p e below s _ _ T (mkF m 1 #[.val (.ref a), .unset] [(.ref a)])
  refine Go.getF X hx hZ hown (hw _ (List.mem_of_getElem? (i := 29) rfl)) Via.refl eT F_m_kept_a (hb hby d7_1) ?_
  intro T X eT
  show Go p e below s _ _ T (mkF m 4 #[.val (.ref a), .unset] [(.int k)])
  refine Go.of (fun _ kq => XS.aloadN X.here hx rfl (hb hby d7_4) rfl rfl kq) ?_
  show Go p e below s _ _ T (mkF m 5 #[.val (.ref a), .unset] [(.ref a), (.int k)])
  refine Go.getF X hx hZ hown (hw _ (List.mem_of_getElem? (i := 16) rfl)) Via.refl eT F_m_ranks_a (hb hby d7_5) ?_
  intro T X eT
  show Go p e below s _ _ T (mkF m 8 #[.val (.ref a), .unset] [(.ref r), (.int k)])
  refine Go.alen cap.toInt32 X hx hZ eT V_r rfl (hb hby d7_8) ?_
  show Go p e below s _ _ T (mkF m 9 #[.val (.ref a), .unset] [(.int cap.toInt32), (.int k)])
  refine Go.of (fun _ kq => XS.icmpYes X.here hx rfl (pc0 := 9) (pc' := 67) rfl (hb hby d7_9) rfl (feq (hne)).2 (by decide) (by decide) kq) ?_
  show Go p e below s _ _ T (mkF m 67 #[.val (.ref a), .unset] [])
  refine Go.retV X hx hret hlk (hb hby d7_67) (by decide) (by decide) ?_
  try rw [eT]
  exact ⟨rfl, N, rfl⟩
theorem d6_0 : decode prog_94_method_7_code 0 = .ok (.aload_n 0, 1) := by decide +kernel
theorem d6_1 : decode prog_94_method_7_code 1 = .ok (.dup, 1) := by decide +kernel
theorem d6_2 : decode prog_94_method_7_code 2 = .ok (.getfield 75, 3) := by decide +kernel
theorem d6_5 : decode prog_94_method_7_code 5 = .ok (.lconst 1, 1) := by decide +kernel
theorem d6_6 : decode prog_94_method_7_code 6 = .ok (.ladd, 1) := by decide +kernel
theorem d6_7 : decode prog_94_method_7_code 7 = .ok (.putfield 75, 3) := by decide +kernel
theorem d6_10 : decode prog_94_method_7_code 10 = .ok (.aload_n 0, 1) := by decide +kernel
theorem d6_11 : decode prog_94_method_7_code 11 = .ok (.lload_n 1, 1) := by decide +kernel
theorem d6_12 : decode prog_94_method_7_code 12 = .ok (.invokevirtual 79, 3) := by decide +kernel
theorem d6_15 : decode prog_94_method_7_code 15 = .ok (.istore 7, 2) := by decide +kernel
theorem d6_17 : decode prog_94_method_7_code 17 = .ok (.aload_n 0, 1) := by decide +kernel
theorem d6_18 : decode prog_94_method_7_code 18 = .ok (.getfield 72, 3) := by decide +kernel
theorem d6_21 : decode prog_94_method_7_code 21 = .ok (.aload_n 0, 1) := by decide +kernel
theorem d6_22 : decode prog_94_method_7_code 22 = .ok (.getfield 31, 3) := by decide +kernel
theorem d6_25 : decode prog_94_method_7_code 25 = .ok (.if_icmp .ge 37, 3) := by decide +kernel
theorem d6_28 : decode prog_94_method_7_code 28 = .ok (.aload_n 0, 1) := by decide +kernel
theorem d6_29 : decode prog_94_method_7_code 29 = .ok (.invokevirtual 83, 3) := by decide +kernel
theorem d6_32 : decode prog_94_method_7_code 32 = .ok (.aload_n 0, 1) := by decide +kernel
theorem d6_33 : decode prog_94_method_7_code 33 = .ok (.aload_n 0, 1) := by decide +kernel
theorem d6_34 : decode prog_94_method_7_code 34 = .ok (.dup, 1) := by decide +kernel
theorem d6_35 : decode prog_94_method_7_code 35 = .ok (.getfield 72, 3) := by decide +kernel
theorem d6_38 : decode prog_94_method_7_code 38 = .ok (.dup_x1, 1) := by decide +kernel
theorem d6_39 : decode prog_94_method_7_code 39 = .ok (.iconst 1, 1) := by decide +kernel
theorem d6_40 : decode prog_94_method_7_code 40 = .ok (.iadd, 1) := by decide +kernel
theorem d6_41 : decode prog_94_method_7_code 41 = .ok (.putfield 72, 3) := by decide +kernel
theorem d6_44 : decode prog_94_method_7_code 44 = .ok (.lload_n 1, 1) := by decide +kernel
theorem d6_45 : decode prog_94_method_7_code 45 = .ok (.dload_n 3, 1) := by decide +kernel
theorem d6_46 : decode prog_94_method_7_code 46 = .ok (.iload 5, 2) := by decide +kernel
theorem d6_48 : decode prog_94_method_7_code 48 = .ok (.i2l, 1) := by decide +kernel
theorem d6_49 : decode prog_94_method_7_code 49 = .ok (.bipush 32, 2) := by decide +kernel
theorem d6_51 : decode prog_94_method_7_code 51 = .ok (.lshl, 1) := by decide +kernel
theorem d6_52 : decode prog_94_method_7_code 52 = .ok (.iload 6, 2) := by decide +kernel
theorem d6_54 : decode prog_94_method_7_code 54 = .ok (.i2l, 1) := by decide +kernel
theorem d6_55 : decode prog_94_method_7_code 55 = .ok (.lor, 1) := by decide +kernel
theorem d6_56 : decode prog_94_method_7_code 56 = .ok (.invokevirtual 86, 3) := by decide +kernel
theorem d6_59 : decode prog_94_method_7_code 59 = .ok (.goto 24, 3) := by decide +kernel
theorem d6_83 : decode prog_94_method_7_code 83 = .ok (.iload 7, 2) := by decide +kernel
theorem d6_85 : decode prog_94_method_7_code 85 = .ok (.ireturn, 1) := by decide +kernel
theorem pn6 : plainFor (⟨"org/segmentry/search/TopHits", "keep", "(JDII)Z"⟩ : MethodName) = true := plainFor_of_name (by first | (simp [plainName, overriddenIn]; done) | decide +kernel)
theorem ef_rmKeep_lt0 (m : MethodId) (x0 : Addr) (x1 : Int64) (x2 : UInt64) (x3 : Int32) (x4 : Int32) : entryFrame m #[(.ref x0), (.long x1), (.double x2), (.int x3), (.int x4)] 8 = mkF m 0 #[.val (.ref x0), .val (.long x1), .second, .val (.double x2), .second, .val (.int x3), .val (.int x4), .unset] [] := by first | (simp [entryFrame, mkF, argsToLocals, Value.category]; done) | rfl
set_option maxRecDepth 65536 in
set_option maxHeartbeats 40000000 in
theorem rmKeep_lt0 {l : Launch} {Z : State} {a0 : Array Value} (hw : ∀ d ∈ tables_1, d.before a0 Z = true) (q : Int64) (x : UInt64) (i1 i2 : Int32) (a r sc d : Addr) (top : Int32) (tt : Int64) (cap : Nat) (Rk : Nat → Int64) (Sc : Nat → UInt64) (Dc : Nat → Int64) (h0 : Heap) (n0 : Nat) (g_a : n0 ≤ a) (g_r : n0 ≤ r) (g_sc : n0 ≤ sc) (g_d : n0 ≤ d) (ne_a_r : a ≠ r) (ne_a_sc : a ≠ sc) (ne_a_d : a ≠ d) (ne_r_sc : r ≠ sc) (ne_r_d : r ≠ d) (ne_sc_d : sc ≠ d) (hlt : (0 : Int32) < top) (h0_ : 0 < cap) (hp_ : 0 < cap) (hne : ¬ (0 : Int32) = cap.toInt32) (E_a : Exa Z h0 a "org/segmentry/search/TopHits") (TT : TH Z h0 a r sc d top (0 : Int32) tt cap Rk Sc Dc) :
    Met l Z (⟨"org/segmentry/search/TopHits", "keep", "(JDII)Z"⟩ : MethodName) prog_94_method_7_code 8 (some .boolean) [] ({ frames := 3, cells := 0, slots := 0, locals := 60 } : Room) #[(.ref a), (.long q), (.double x), (.int i1), (.int i2)] h0 (fun v h L => (∃ b : Int32, v = some (.int b)) ∧ Fr n0 L ∧ Keep h0 h [a, r, sc, d] ∧ ∃ (k' : Int32) (tt' : Int64) (Rk' : Nat → Int64) (Sc' : Nat → UInt64) (Dc' : Nat → Int64), TH Z h a r sc d top k' tt' cap Rk' Sc' Dc' ∧ k' = 1 ∧ Rk' 0 = q) := by
  refine Met.mk pn6 ?_
  intro p e s m below meth c T hx hby hml hown hnm hret hlk hZ X eT
  refine Go.cast (ef_rmKeep_lt0 m a q x i1 i2) ?_
  have N := Fr.nil n0
  have K := Keep.refl h0 [a, r, sc, d]
  obtain ⟨F_m_top_a, F_m_ranks_a, F_m_scores_a, F_m_documents_a, F_m_kept_a, F_m_total_a, V_r, V_sc, V_d⟩ := id TT
  show Go p e below s _ _ T (mkF m 0 #[.val (.ref a), .val (.long q), .second, .val (.double x), .second, .val (.int i1), .val (.int i2), .unset] [])
  refine Go.of (fun _ kq => XS.aloadN X.here hx rfl (hb hby d6_0) rfl rfl kq) ?_
  show Go p e below s _ _ T (mkF m 1 #[.val (.ref a), .val (.long q), .second, .val (.double x), .second, .val (.int i1), .val (.int i2), .unset] [(.ref a)])
  refine Go.of (fun _ kq => XS.dup X.here hx rfl (hb hby d6_1) rfl rfl kq) ?_
  show Go p e below s _ _ T (mkF m 2 #[.val (.ref a), .val (.long q), .second, .val (.double x), .second, .val (.int i1), .val (.int i2), .unset] [(.ref a), (.ref a)])
  refine Go.getF X hx hZ hown (hw _ (List.mem_of_getElem? (i := 41) rfl)) Via.refl eT F_m_total_a (hb hby d6_2) ?_
  intro T X eT
  show Go p e below s _ _ T (mkF m 5 #[.val (.ref a), .val (.long q), .second, .val (.double x), .second, .val (.int i1), .val (.int i2), .unset] [(.long tt), (.ref a)])
  refine Go.of (fun _ kq => XS.lconst X.here hx rfl (hb hby d6_5) kq) ?_
  show Go p e below s _ _ T (mkF m 6 #[.val (.ref a), .val (.long q), .second, .val (.double x), .second, .val (.int i1), .val (.int i2), .unset] [(.long (1 : Int64)), (.long tt), (.ref a)])
  refine Go.of (fun _ kq => XS.ladd X.here hx rfl (hb hby d6_6) rfl kq) ?_
  show Go p e below s _ _ T (mkF m 7 #[.val (.ref a), .val (.long q), .second, .val (.double x), .second, .val (.int i1), .val (.int i2), .unset] [(.long (tt + (1 : Int64))), (.ref a)])
  refine Go.putF X hx hZ hown (hw _ (List.mem_of_getElem? (i := 41) rfl)) Via.refl eT F_m_total_a E_a (Or.inl (hw _ (List.mem_of_getElem? (i := 42) rfl))) (hw _ (List.mem_of_getElem? (i := 1) rfl)) (ty := .long) (by decide) rfl rfl (hb hby d6_7) ?_
  intro T h X eT wr
  have N := Fr.snoc X N g_a
  have K := K.wr wr (Or.inl (List.mem_of_getElem? (i := 0) rfl))
  have E_a := E_a.wr wr
  have F_m_top_a := F_m_top_a.other wr (Or.inr (slot_ne (Or.inr (hw _ (List.mem_of_getElem? (i := 10) rfl))) (Or.inl (hw _ (List.mem_of_getElem? (i := 42) rfl))) (by decide) (t := .int) (t' := .long) (by decide) (by decide)))
  have F_m_ranks_a := F_m_ranks_a.other wr (Or.inr (slot_ne (Or.inl (hw _ (List.mem_of_getElem? (i := 17) rfl))) (Or.inl (hw _ (List.mem_of_getElem? (i := 42) rfl))) (by decide) (t := (.array .long)) (t' := .long) (by decide) (by decide)))
  have F_m_scores_a := F_m_scores_a.other wr (Or.inr (slot_ne (Or.inl (hw _ (List.mem_of_getElem? (i := 20) rfl))) (Or.inl (hw _ (List.mem_of_getElem? (i := 42) rfl))) (by decide) (t := (.array .double)) (t' := .long) (by decide) (by decide)))
  have F_m_documents_a := F_m_documents_a.other wr (Or.inr (slot_ne (Or.inl (hw _ (List.mem_of_getElem? (i := 22) rfl))) (Or.inl (hw _ (List.mem_of_getElem? (i := 42) rfl))) (by decide) (t := (.array .long)) (t' := .long) (by decide) (by decide)))
  have F_m_kept_a := F_m_kept_a.other wr (Or.inr (slot_ne (Or.inl (hw _ (List.mem_of_getElem? (i := 30) rfl))) (Or.inl (hw _ (List.mem_of_getElem? (i := 42) rfl))) (by decide) (t := .int) (t' := .long) (by decide) (by decide)))
  have F_m_total_a := F_m_total_a.same wr
  have V_r := V_r.other wr (Ne.symm ne_a_r)
  have V_sc := V_sc.other wr (Ne.symm ne_a_sc)
  have V_d := V_d.other wr (Ne.symm ne_a_d)
  show Go p e below s _ _ T (mkF m 10 #[.val (.ref a), .val (.long q), .second, .val (.double x), .second, .val (.int i1), .val (.int i2), .unset] [])
  have TT : TH Z h a r sc d top (0 : Int32) (tt + (1 : Int64)) cap Rk Sc Dc := ⟨F_m_top_a, F_m_ranks_a, F_m_scores_a, F_m_documents_a, F_m_kept_a, F_m_total_a, V_r, V_sc, V_d⟩
  refine Go.of (fun _ kq => XS.aloadN X.here hx rfl (hb hby d6_10) rfl rfl kq) ?_
  show Go p e below s _ _ T (mkF m 11 #[.val (.ref a), .val (.long q), .second, .val (.double x), .second, .val (.int i1), .val (.int i2), .unset] [(.ref a)])
  refine Go.of (fun _ kq => XS.lloadN X.here hx rfl (hb hby d6_11) rfl kq) ?_
  show Go p e below s _ _ T (mkF m 12 #[.val (.ref a), .val (.long q), .second, .val (.double x), .second, .val (.int i1), .val (.int i2), .unset] [(.long q), (.ref a)])
  refine Go.virtual (a := a) X hx hZ hown (hw _ (List.mem_of_getElem? (i := 43) rfl)) (hw _ (List.mem_of_getElem? (i := 25) rfl)) (notFace_of_selects (args := #[]) (mvT hZ (hw _ (List.mem_of_getElem? (i := 27) rfl)))) (hw _ (List.mem_of_getElem? (i := 27) rfl)) (hw _ (List.mem_of_getElem? (i := 26) rfl)) (hw _ (List.mem_of_getElem? (i := 2) rfl)) (hw _ (List.mem_of_getElem? (i := 28) rfl)) (by decide) (rmAdm hw q (Rk 0) a r sc d top (0 : Int32) (tt + (1 : Int64)) cap Rk Sc Dc _ n0 TT (fun q _ => absurd hlt q) rfl) eT E_a 0 (by decide) (by decide) (by decide) (by decide) (by rw [hml]; rfl) (argsL := [(.long q)]) [] (lenOf pd5 rfl) rfl rfl (Nat.le_of_eq rfl) (hb hby d6_12) ?_
  intro v T L' X hQ
  obtain ⟨rfl, N', eT⟩ := hQ
  have N := Fr.app N N'
  show Go p e below s _ _ T (mkF m 15 #[.val (.ref a), .val (.long q), .second, .val (.double x), .second, .val (.int i1), .val (.int i2), .unset] [(.int (own_adm (0 : Int32) top q (Rk 0)))])
  refine Go.of (fun _ kq => XS.istore X.here hx rfl (hb hby d6_15) rfl (l' := #[.val (.ref a), .val (.long q), .second, .val (.double x), .second, .val (.int i1), .val (.int i2), .val (.int (own_adm (0 : Int32) top q (Rk 0)))]) rfl kq) ?_
  show Go p e below s _ _ T (mkF m 17 #[.val (.ref a), .val (.long q), .second, .val (.double x), .second, .val (.int i1), .val (.int i2), .val (.int (own_adm (0 : Int32) top q (Rk 0)))] [])
  refine Go.of (fun _ kq => XS.aloadN X.here hx rfl (hb hby d6_17) rfl rfl kq) ?_
  show Go p e below s _ _ T (mkF m 18 #[.val (.ref a), .val (.long q), .second, .val (.double x), .second, .val (.int i1), .val (.int i2), .val (.int (own_adm (0 : Int32) top q (Rk 0)))] [(.ref a)])
  refine Go.getF X hx hZ hown (hw _ (List.mem_of_getElem? (i := 29) rfl)) Via.refl eT F_m_kept_a (hb hby d6_18) ?_
  intro T X eT
  show Go p e below s _ _ T (mkF m 21 #[.val (.ref a), .val (.long q), .second, .val (.double x), .second, .val (.int i1), .val (.int i2), .val (.int (own_adm (0 : Int32) top q (Rk 0)))] [(.int (0 : Int32))])
  refine Go.of (fun _ kq => XS.aloadN X.here hx rfl (hb hby d6_21) rfl rfl kq) ?_
  show Go p e below s _ _ T (mkF m 22 #[.val (.ref a), .val (.long q), .second, .val (.double x), .second, .val (.int i1), .val (.int i2), .val (.int (own_adm (0 : Int32) top q (Rk 0)))] [(.ref a), (.int (0 : Int32))])
  refine Go.getF X hx hZ hown (hw _ (List.mem_of_getElem? (i := 9) rfl)) Via.refl eT F_m_top_a (hb hby d6_22) ?_
  intro T X eT
  show Go p e below s _ _ T (mkF m 25 #[.val (.ref a), .val (.long q), .second, .val (.double x), .second, .val (.int i1), .val (.int i2), .val (.int (own_adm (0 : Int32) top q (Rk 0)))] [(.int top), (.int (0 : Int32))])
  refine Go.of (fun _ kq => XS.icmpNo X.here hx rfl (hb hby d6_25) rfl (tlt (hlt)).2.1 kq) ?_
  show Go p e below s _ _ T (mkF m 28 #[.val (.ref a), .val (.long q), .second, .val (.double x), .second, .val (.int i1), .val (.int i2), .val (.int (own_adm (0 : Int32) top q (Rk 0)))] [])
  refine Go.of (fun _ kq => XS.aloadN X.here hx rfl (hb hby d6_28) rfl rfl kq) ?_
  show Go p e below s _ _ T (mkF m 29 #[.val (.ref a), .val (.long q), .second, .val (.double x), .second, .val (.int i1), .val (.int i2), .val (.int (own_adm (0 : Int32) top q (Rk 0)))] [(.ref a)])
  refine Go.priv (a := a) X hx hZ hown (hw _ (List.mem_of_getElem? (i := 44) rfl)) (hw _ (List.mem_of_getElem? (i := 45) rfl)) (hw _ (List.mem_of_getElem? (i := 1) rfl)) (hw _ (List.mem_of_getElem? (i := 46) rfl)) (hw _ (List.mem_of_getElem? (i := 2) rfl)) (hw _ (List.mem_of_getElem? (i := 47) rfl)) (by decide) (rmGrow hw a r sc d top (0 : Int32) (tt + (1 : Int64)) cap Rk Sc Dc _ n0 hne TT) eT E_a 0 (by decide) (by decide) (by decide) (by decide) (by rw [hml]; rfl) (argsL := []) [] (lenOf pd6 rfl) rfl rfl (Nat.le_of_eq rfl) (hb hby d6_29) ?_
  intro v T L' X hQ
  obtain ⟨rfl, N', eT⟩ := hQ
  have N := Fr.app N N'
  show Go p e below s _ _ T (mkF m 32 #[.val (.ref a), .val (.long q), .second, .val (.double x), .second, .val (.int i1), .val (.int i2), .val (.int (own_adm (0 : Int32) top q (Rk 0)))] [])
  refine Go.of (fun _ kq => XS.aloadN X.here hx rfl (hb hby d6_32) rfl rfl kq) ?_
  show Go p e below s _ _ T (mkF m 33 #[.val (.ref a), .val (.long q), .second, .val (.double x), .second, .val (.int i1), .val (.int i2), .val (.int (own_adm (0 : Int32) top q (Rk 0)))] [(.ref a)])
  refine Go.of (fun _ kq => XS.aloadN X.here hx rfl (hb hby d6_33) rfl rfl kq) ?_
  show Go p e below s _ _ T (mkF m 34 #[.val (.ref a), .val (.long q), .second, .val (.double x), .second, .val (.int i1), .val (.int i2), .val (.int (own_adm (0 : Int32) top q (Rk 0)))] [(.ref a), (.ref a)])
  refine Go.of (fun _ kq => XS.dup X.here hx rfl (hb hby d6_34) rfl rfl kq) ?_
  show Go p e below s _ _ T (mkF m 35 #[.val (.ref a), .val (.long q), .second, .val (.double x), .second, .val (.int i1), .val (.int i2), .val (.int (own_adm (0 : Int32) top q (Rk 0)))] [(.ref a), (.ref a), (.ref a)])
  refine Go.getF X hx hZ hown (hw _ (List.mem_of_getElem? (i := 29) rfl)) Via.refl eT F_m_kept_a (hb hby d6_35) ?_
  intro T X eT
  show Go p e below s _ _ T (mkF m 38 #[.val (.ref a), .val (.long q), .second, .val (.double x), .second, .val (.int i1), .val (.int i2), .val (.int (own_adm (0 : Int32) top q (Rk 0)))] [(.int (0 : Int32)), (.ref a), (.ref a)])
  refine Go.of (fun _ kq => XS.dupX1 X.here hx rfl (hb hby d6_38) rfl rfl rfl kq) ?_
  show Go p e below s _ _ T (mkF m 39 #[.val (.ref a), .val (.long q), .second, .val (.double x), .second, .val (.int i1), .val (.int i2), .val (.int (own_adm (0 : Int32) top q (Rk 0)))] [(.int (0 : Int32)), (.ref a), (.int (0 : Int32)), (.ref a)])
  refine Go.of (fun _ kq => XS.iconst X.here hx rfl (hb hby d6_39) kq) ?_
  show Go p e below s _ _ T (mkF m 40 #[.val (.ref a), .val (.long q), .second, .val (.double x), .second, .val (.int i1), .val (.int i2), .val (.int (own_adm (0 : Int32) top q (Rk 0)))] [(.int (1 : Int32)), (.int (0 : Int32)), (.ref a), (.int (0 : Int32)), (.ref a)])
  refine Go.of (fun _ kq => XS.iadd X.here hx rfl (hb hby d6_40) rfl kq) ?_
  show Go p e below s _ _ T (mkF m 41 #[.val (.ref a), .val (.long q), .second, .val (.double x), .second, .val (.int i1), .val (.int i2), .val (.int (own_adm (0 : Int32) top q (Rk 0)))] [(.int (1 : Int32)), (.ref a), (.int (0 : Int32)), (.ref a)])
  refine Go.putF X hx hZ hown (hw _ (List.mem_of_getElem? (i := 29) rfl)) Via.refl eT F_m_kept_a E_a (Or.inl (hw _ (List.mem_of_getElem? (i := 30) rfl))) (hw _ (List.mem_of_getElem? (i := 1) rfl)) (ty := .int) (by decide) rfl rfl (hb hby d6_41) ?_
  intro T h X eT wr
  have N := Fr.snoc X N g_a
  have K := K.wr wr (Or.inl (List.mem_of_getElem? (i := 0) rfl))
  have E_a := E_a.wr wr
  have F_m_top_a := F_m_top_a.other wr (Or.inr (slot_ne (Or.inr (hw _ (List.mem_of_getElem? (i := 10) rfl))) (Or.inl (hw _ (List.mem_of_getElem? (i := 30) rfl))) (by decide) (t := .int) (t' := .int) (by decide) (by decide)))
  have F_m_ranks_a := F_m_ranks_a.other wr (Or.inr (slot_ne (Or.inl (hw _ (List.mem_of_getElem? (i := 17) rfl))) (Or.inl (hw _ (List.mem_of_getElem? (i := 30) rfl))) (by decide) (t := (.array .long)) (t' := .int) (by decide) (by decide)))
  have F_m_scores_a := F_m_scores_a.other wr (Or.inr (slot_ne (Or.inl (hw _ (List.mem_of_getElem? (i := 20) rfl))) (Or.inl (hw _ (List.mem_of_getElem? (i := 30) rfl))) (by decide) (t := (.array .double)) (t' := .int) (by decide) (by decide)))
  have F_m_documents_a := F_m_documents_a.other wr (Or.inr (slot_ne (Or.inl (hw _ (List.mem_of_getElem? (i := 22) rfl))) (Or.inl (hw _ (List.mem_of_getElem? (i := 30) rfl))) (by decide) (t := (.array .long)) (t' := .int) (by decide) (by decide)))
  have F_m_kept_a := F_m_kept_a.same wr
  have F_m_total_a := F_m_total_a.other wr (Or.inr (slot_ne (Or.inl (hw _ (List.mem_of_getElem? (i := 42) rfl))) (Or.inl (hw _ (List.mem_of_getElem? (i := 30) rfl))) (by decide) (t := .long) (t' := .int) (by decide) (by decide)))
  have V_r := V_r.other wr (Ne.symm ne_a_r)
  have V_sc := V_sc.other wr (Ne.symm ne_a_sc)
  have V_d := V_d.other wr (Ne.symm ne_a_d)
  show Go p e below s _ _ T (mkF m 44 #[.val (.ref a), .val (.long q), .second, .val (.double x), .second, .val (.int i1), .val (.int i2), .val (.int (own_adm (0 : Int32) top q (Rk 0)))] [(.int (0 : Int32)), (.ref a)])
  have TT : TH Z h a r sc d top (1 : Int32) (tt + (1 : Int64)) cap Rk Sc Dc := ⟨F_m_top_a, F_m_ranks_a, F_m_scores_a, F_m_documents_a, F_m_kept_a, F_m_total_a, V_r, V_sc, V_d⟩
  refine Go.of (fun _ kq => XS.lloadN X.here hx rfl (hb hby d6_44) rfl kq) ?_
  show Go p e below s _ _ T (mkF m 45 #[.val (.ref a), .val (.long q), .second, .val (.double x), .second, .val (.int i1), .val (.int i2), .val (.int (own_adm (0 : Int32) top q (Rk 0)))] [(.long q), (.int (0 : Int32)), (.ref a)])
  refine Go.of (fun _ kq => XS.dloadN X.here hx rfl (hb hby d6_45) rfl kq) ?_
  show Go p e below s _ _ T (mkF m 46 #[.val (.ref a), .val (.long q), .second, .val (.double x), .second, .val (.int i1), .val (.int i2), .val (.int (own_adm (0 : Int32) top q (Rk 0)))] [(.double x), (.long q), (.int (0 : Int32)), (.ref a)])
  refine Go.of (fun _ kq => XS.iload X.here hx rfl (hb hby d6_46) rfl kq) ?_
  show Go p e below s _ _ T (mkF m 48 #[.val (.ref a), .val (.long q), .second, .val (.double x), .second, .val (.int i1), .val (.int i2), .val (.int (own_adm (0 : Int32) top q (Rk 0)))] [(.int i1), (.double x), (.long q), (.int (0 : Int32)), (.ref a)])
  refine Go.of (fun _ kq => XS.i2l X.here hx rfl (hb hby d6_48) rfl kq) ?_
  show Go p e below s _ _ T (mkF m 49 #[.val (.ref a), .val (.long q), .second, .val (.double x), .second, .val (.int i1), .val (.int i2), .val (.int (own_adm (0 : Int32) top q (Rk 0)))] [(.long (i1.toInt64)), (.double x), (.long q), (.int (0 : Int32)), (.ref a)])
  refine Go.of (fun _ kq => XS.bipush X.here hx rfl (hb hby d6_49) kq) ?_
  show Go p e below s _ _ T (mkF m 51 #[.val (.ref a), .val (.long q), .second, .val (.double x), .second, .val (.int i1), .val (.int i2), .val (.int (own_adm (0 : Int32) top q (Rk 0)))] [(.int (32 : Int32)), (.long (i1.toInt64)), (.double x), (.long q), (.int (0 : Int32)), (.ref a)])
  refine Go.of (fun _ kq => XS.lshl X.here hx rfl (hb hby d6_51) rfl kq) ?_
  show Go p e below s _ _ T (mkF m 52 #[.val (.ref a), .val (.long q), .second, .val (.double x), .second, .val (.int i1), .val (.int i2), .val (.int (own_adm (0 : Int32) top q (Rk 0)))] [(.long ((i1.toInt64) <<< ((32 : Int32) &&& 0x3f).toInt64)), (.double x), (.long q), (.int (0 : Int32)), (.ref a)])
  refine Go.of (fun _ kq => XS.iload X.here hx rfl (hb hby d6_52) rfl kq) ?_
  show Go p e below s _ _ T (mkF m 54 #[.val (.ref a), .val (.long q), .second, .val (.double x), .second, .val (.int i1), .val (.int i2), .val (.int (own_adm (0 : Int32) top q (Rk 0)))] [(.int i2), (.long ((i1.toInt64) <<< ((32 : Int32) &&& 0x3f).toInt64)), (.double x), (.long q), (.int (0 : Int32)), (.ref a)])
  refine Go.of (fun _ kq => XS.i2l X.here hx rfl (hb hby d6_54) rfl kq) ?_
  show Go p e below s _ _ T (mkF m 55 #[.val (.ref a), .val (.long q), .second, .val (.double x), .second, .val (.int i1), .val (.int i2), .val (.int (own_adm (0 : Int32) top q (Rk 0)))] [(.long (i2.toInt64)), (.long ((i1.toInt64) <<< ((32 : Int32) &&& 0x3f).toInt64)), (.double x), (.long q), (.int (0 : Int32)), (.ref a)])
  refine Go.of (fun _ kq => XS.lor X.here hx rfl (hb hby d6_55) rfl kq) ?_
  show Go p e below s _ _ T (mkF m 56 #[.val (.ref a), .val (.long q), .second, .val (.double x), .second, .val (.int i1), .val (.int i2), .val (.int (own_adm (0 : Int32) top q (Rk 0)))] [(.long (((i1.toInt64) <<< ((32 : Int32) &&& 0x3f).toInt64) ||| (i2.toInt64))), (.double x), (.long q), (.int (0 : Int32)), (.ref a)])
  refine Go.priv (a := a) X hx hZ hown (hw _ (List.mem_of_getElem? (i := 48) rfl)) (hw _ (List.mem_of_getElem? (i := 49) rfl)) (hw _ (List.mem_of_getElem? (i := 1) rfl)) (hw _ (List.mem_of_getElem? (i := 50) rfl)) (hw _ (List.mem_of_getElem? (i := 2) rfl)) (hw _ (List.mem_of_getElem? (i := 51) rfl)) (by decide) (rmUp0 hw q x (((i1.toInt64) <<< ((32 : Int32) &&& 0x3f).toInt64) ||| (i2.toInt64)) a r sc d top (1 : Int32) (tt + (1 : Int64)) cap Rk Sc Dc _ n0 g_a g_r g_sc g_d ne_a_r ne_a_sc ne_a_d ne_r_sc ne_r_d ne_sc_d h0_ hp_ E_a TT) eT E_a 0 (by decide) (by decide) (by decide) (by decide) (by rw [hml]; rfl) (argsL := [(.int (0 : Int32)), (.long q), (.double x), (.long (((i1.toInt64) <<< ((32 : Int32) &&& 0x3f).toInt64) ||| (i2.toInt64)))]) [] (lenOf pd2 rfl) rfl rfl (Nat.le_of_eq rfl) (hb hby d6_56) ?_
  intro v T L' X hQ
  obtain ⟨h, eT⟩ : ∃ z, T.heap = z := ⟨_, rfl⟩
  rw [eT] at hQ
  obtain ⟨rfl, N', K', R2, S2, D2, TT, hrel⟩ := hQ
  have N := Fr.app N N'
  have K := K.trans K' (own_all3 (Or.inl (List.mem_of_getElem? (i := 1) rfl)) (Or.inl (List.mem_of_getElem? (i := 2) rfl)) (Or.inl (List.mem_of_getElem? (i := 3) rfl)))
  have E_a := E_a.keep K'
  have F_m_top_a := F_m_top_a.keep K' (own_ni3 ne_a_r ne_a_sc ne_a_d)
  have F_m_ranks_a := F_m_ranks_a.keep K' (own_ni3 ne_a_r ne_a_sc ne_a_d)
  have F_m_scores_a := F_m_scores_a.keep K' (own_ni3 ne_a_r ne_a_sc ne_a_d)
  have F_m_documents_a := F_m_documents_a.keep K' (own_ni3 ne_a_r ne_a_sc ne_a_d)
  have F_m_kept_a := F_m_kept_a.keep K' (own_ni3 ne_a_r ne_a_sc ne_a_d)
  have F_m_total_a := F_m_total_a.keep K' (own_ni3 ne_a_r ne_a_sc ne_a_d)
  show Go p e below s _ _ T (mkF m 59 #[.val (.ref a), .val (.long q), .second, .val (.double x), .second, .val (.int i1), .val (.int i2), .val (.int (own_adm (0 : Int32) top q (Rk 0)))] [])
  refine Go.of (fun _ kq => XS.goto X.here hx rfl (pc0 := 59) (pc' := 83) rfl (hb hby d6_59) (by decide) (by decide) kq) ?_
  show Go p e below s _ _ T (mkF m 83 #[.val (.ref a), .val (.long q), .second, .val (.double x), .second, .val (.int i1), .val (.int i2), .val (.int (own_adm (0 : Int32) top q (Rk 0)))] [])
  refine Go.of (fun _ kq => XS.iload X.here hx rfl (hb hby d6_83) rfl kq) ?_
  show Go p e below s _ _ T (mkF m 85 #[.val (.ref a), .val (.long q), .second, .val (.double x), .second, .val (.int i1), .val (.int i2), .val (.int (own_adm (0 : Int32) top q (Rk 0)))] [(.int (own_adm (0 : Int32) top q (Rk 0)))])
  refine Go.retN X hx hret (by simp) hlk (hb hby d6_85) (by decide) (by decide) ?_
  try rw [eT]
  exact ⟨⟨_, rfl⟩, N, K, _, _, _, _, _, TT, rfl, hrel⟩
theorem d5_0 : decode prog_94_method_5_code 0 = .ok (.aload_n 0, 1) := by decide +kernel
theorem d5_1 : decode prog_94_method_5_code 1 = .ok (.lload_n 1, 1) := by decide +kernel
theorem d5_2 : decode prog_94_method_5_code 2 = .ok (.ldc2_w 70, 3) := by decide +kernel
theorem d5_5 : decode prog_94_method_5_code 5 = .ok (.iload_n 3, 1) := by decide +kernel
theorem d5_6 : decode prog_94_method_5_code 6 = .ok (.iload 4, 2) := by decide +kernel
theorem d5_8 : decode prog_94_method_5_code 8 = .ok (.invokevirtual 66, 3) := by decide +kernel
theorem d5_11 : decode prog_94_method_5_code 11 = .ok (.ireturn, 1) := by decide +kernel
theorem pn5 : plainFor (⟨"org/segmentry/search/TopHits", "offer", "(JII)Z"⟩ : MethodName) = true := plainFor_of_name (by first | (simp [plainName, overriddenIn]; done) | decide +kernel)
theorem ef_rmOffer_lt0 (m : MethodId) (x0 : Addr) (x1 : Int64) (x2 : Int32) (x3 : Int32) : entryFrame m #[(.ref x0), (.long x1), (.int x2), (.int x3)] 5 = mkF m 0 #[.val (.ref x0), .val (.long x1), .second, .val (.int x2), .val (.int x3)] [] := by first | (simp [entryFrame, mkF, argsToLocals, Value.category]; done) | rfl
set_option maxRecDepth 65536 in
set_option maxHeartbeats 40000000 in
theorem rmOffer_lt0 {l : Launch} {Z : State} {a0 : Array Value} (hw : ∀ d ∈ tables_1, d.before a0 Z = true) (q : Int64) (i1 i2 : Int32) (a r sc d : Addr) (top : Int32) (tt : Int64) (cap : Nat) (Rk : Nat → Int64) (Sc : Nat → UInt64) (Dc : Nat → Int64) (h0 : Heap) (n0 : Nat) (g_a : n0 ≤ a) (g_r : n0 ≤ r) (g_sc : n0 ≤ sc) (g_d : n0 ≤ d) (ne_a_r : a ≠ r) (ne_a_sc : a ≠ sc) (ne_a_d : a ≠ d) (ne_r_sc : r ≠ sc) (ne_r_d : r ≠ d) (ne_sc_d : sc ≠ d) (hlt : (0 : Int32) < top) (h0_ : 0 < cap) (hp_ : 0 < cap) (hne : ¬ (0 : Int32) = cap.toInt32) (E_a : Exa Z h0 a "org/segmentry/search/TopHits") (TT : TH Z h0 a r sc d top (0 : Int32) tt cap Rk Sc Dc) :
    Met l Z (⟨"org/segmentry/search/TopHits", "offer", "(JII)Z"⟩ : MethodName) prog_94_method_5_code 5 (some .boolean) [] ({ frames := 4, cells := 0, slots := 0, locals := 79 } : Room) #[(.ref a), (.long q), (.int i1), (.int i2)] h0 (fun v h L => (∃ b : Int32, v = some (.int b)) ∧ Fr n0 L ∧ Keep h0 h [a, r, sc, d] ∧ ∃ (k' : Int32) (tt' : Int64) (Rk' : Nat → Int64) (Sc' : Nat → UInt64) (Dc' : Nat → Int64), TH Z h a r sc d top k' tt' cap Rk' Sc' Dc' ∧ k' = 1 ∧ Rk' 0 = q) := by
  refine Met.mk pn5 ?_
  intro p e s m below meth c T hx hby hml hown hnm hret hlk hZ X eT
  refine Go.cast (ef_rmOffer_lt0 m a q i1 i2) ?_
  have N := Fr.nil n0
  have K := Keep.refl h0 [a, r, sc, d]
  show Go p e below s _ _ T (mkF m 0 #[.val (.ref a), .val (.long q), .second, .val (.int i1), .val (.int i2)] [])
  refine Go.of (fun _ kq => XS.aloadN X.here hx rfl (hb hby d5_0) rfl rfl kq) ?_
  show Go p e below s _ _ T (mkF m 1 #[.val (.ref a), .val (.long q), .second, .val (.int i1), .val (.int i2)] [(.ref a)])
  refine Go.of (fun _ kq => XS.lloadN X.here hx rfl (hb hby d5_1) rfl kq) ?_
  show Go p e below s _ _ T (mkF m 2 #[.val (.ref a), .val (.long q), .second, .val (.int i1), .val (.int i2)] [(.long q), (.ref a)])
  refine Go.of (X.ldc2DoubleC hx hown (mvT hZ (hw _ (List.mem_of_getElem? (i := 36) rfl))) (g := (mkF m 2 #[.val (.ref a), .val (.long q), .second, .val (.int i1), .val (.int i2)] [(.long q), (.ref a)])) rfl (hb hby d5_2)) ?_
  show Go p e below s _ _ T (mkF m 5 #[.val (.ref a), .val (.long q), .second, .val (.int i1), .val (.int i2)] [(.double (9221120237041090560 : UInt64)), (.long q), (.ref a)])
  refine Go.of (fun _ kq => XS.iloadN X.here hx rfl (hb hby d5_5) rfl kq) ?_
  show Go p e below s _ _ T (mkF m 6 #[.val (.ref a), .val (.long q), .second, .val (.int i1), .val (.int i2)] [(.int i1), (.double (9221120237041090560 : UInt64)), (.long q), (.ref a)])
  refine Go.of (fun _ kq => XS.iload X.here hx rfl (hb hby d5_6) rfl kq) ?_
  show Go p e below s _ _ T (mkF m 8 #[.val (.ref a), .val (.long q), .second, .val (.int i1), .val (.int i2)] [(.int i2), (.int i1), (.double (9221120237041090560 : UInt64)), (.long q), (.ref a)])
  refine Go.priv (a := a) X hx hZ hown (hw _ (List.mem_of_getElem? (i := 37) rfl)) (hw _ (List.mem_of_getElem? (i := 38) rfl)) (hw _ (List.mem_of_getElem? (i := 1) rfl)) (hw _ (List.mem_of_getElem? (i := 39) rfl)) (hw _ (List.mem_of_getElem? (i := 2) rfl)) (hw _ (List.mem_of_getElem? (i := 40) rfl)) (by decide) (rmKeep_lt0 hw q (9221120237041090560 : UInt64) i1 i2 a r sc d top tt cap Rk Sc Dc _ n0 g_a g_r g_sc g_d ne_a_r ne_a_sc ne_a_d ne_r_sc ne_r_d ne_sc_d hlt h0_ hp_ hne E_a TT) eT E_a 0 (by decide) (by decide) (by decide) (by decide) (by rw [hml]; rfl) (argsL := [(.long q), (.double (9221120237041090560 : UInt64)), (.int i1), (.int i2)]) [] (lenOf pd7 rfl) rfl rfl (Nat.le_of_eq rfl) (hb hby d5_8) ?_
  intro v T L' X hQ
  obtain ⟨h, eT⟩ : ∃ z, T.heap = z := ⟨_, rfl⟩
  rw [eT] at hQ
  obtain ⟨⟨bb, rfl⟩, N', K', RR⟩ := hQ
  have N := Fr.app N N'
  have K := K.trans K' (own_all4 (Or.inl (List.mem_of_getElem? (i := 0) rfl)) (Or.inl (List.mem_of_getElem? (i := 1) rfl)) (Or.inl (List.mem_of_getElem? (i := 2) rfl)) (Or.inl (List.mem_of_getElem? (i := 3) rfl)))
  have E_a := E_a.keep K'
  show Go p e below s _ _ T (mkF m 11 #[.val (.ref a), .val (.long q), .second, .val (.int i1), .val (.int i2)] [(.int bb)])
  refine Go.retN X hx hret (by simp) hlk (hb hby d5_11) (by decide) (by decide) ?_
  try rw [eT]
  exact ⟨⟨_, rfl⟩, N, K, RR⟩
theorem ef_rmKeep_lt1 (m : MethodId) (x0 : Addr) (x1 : Int64) (x2 : UInt64) (x3 : Int32) (x4 : Int32) : entryFrame m #[(.ref x0), (.long x1), (.double x2), (.int x3), (.int x4)] 8 = mkF m 0 #[.val (.ref x0), .val (.long x1), .second, .val (.double x2), .second, .val (.int x3), .val (.int x4), .unset] [] := by first | (simp [entryFrame, mkF, argsToLocals, Value.category]; done) | rfl
set_option maxRecDepth 65536 in
set_option maxHeartbeats 40000000 in
theorem rmKeep_lt1 {l : Launch} {Z : State} {a0 : Array Value} (hw : ∀ d ∈ tables_1, d.before a0 Z = true) (q : Int64) (x : UInt64) (i1 i2 : Int32) (a r sc d : Addr) (top : Int32) (tt : Int64) (cap : Nat) (Rk : Nat → Int64) (Sc : Nat → UInt64) (Dc : Nat → Int64) (h0 : Heap) (n0 : Nat) (g_a : n0 ≤ a) (g_r : n0 ≤ r) (g_sc : n0 ≤ sc) (g_d : n0 ≤ d) (ne_a_r : a ≠ r) (ne_a_sc : a ≠ sc) (ne_a_d : a ≠ d) (ne_r_sc : r ≠ sc) (ne_r_d : r ≠ d) (ne_sc_d : sc ≠ d) (hlt : (1 : Int32) < top) (h0_ : 0 < cap) (hp_ : 1 < cap) (hne : ¬ (1 : Int32) = cap.toInt32) (E_a : Exa Z h0 a "org/segmentry/search/TopHits") (TT : TH Z h0 a r sc d top (1 : Int32) tt cap Rk Sc Dc) :
    Met l Z (⟨"org/segmentry/search/TopHits", "keep", "(JDII)Z"⟩ : MethodName) prog_94_method_7_code 8 (some .boolean) [] ({ frames := 3, cells := 0, slots := 0, locals := 60 } : Room) #[(.ref a), (.long q), (.double x), (.int i1), (.int i2)] h0 (fun v h L => (∃ b : Int32, v = some (.int b)) ∧ Fr n0 L ∧ Keep h0 h [a, r, sc, d] ∧ ∃ (k' : Int32) (tt' : Int64) (Rk' : Nat → Int64) (Sc' : Nat → UInt64) (Dc' : Nat → Int64), TH Z h a r sc d top k' tt' cap Rk' Sc' Dc' ∧ k' = 2 ∧ Rk' 0 = own_max (Rk 0) q ∧ Rk' 1 = own_min (Rk 0) q) := by
  refine Met.mk pn6 ?_
  intro p e s m below meth c T hx hby hml hown hnm hret hlk hZ X eT
  refine Go.cast (ef_rmKeep_lt1 m a q x i1 i2) ?_
  have N := Fr.nil n0
  have K := Keep.refl h0 [a, r, sc, d]
  obtain ⟨F_m_top_a, F_m_ranks_a, F_m_scores_a, F_m_documents_a, F_m_kept_a, F_m_total_a, V_r, V_sc, V_d⟩ := id TT
  show Go p e below s _ _ T (mkF m 0 #[.val (.ref a), .val (.long q), .second, .val (.double x), .second, .val (.int i1), .val (.int i2), .unset] [])
  refine Go.of (fun _ kq => XS.aloadN X.here hx rfl (hb hby d6_0) rfl rfl kq) ?_
  show Go p e below s _ _ T (mkF m 1 #[.val (.ref a), .val (.long q), .second, .val (.double x), .second, .val (.int i1), .val (.int i2), .unset] [(.ref a)])
  refine Go.of (fun _ kq => XS.dup X.here hx rfl (hb hby d6_1) rfl rfl kq) ?_
  show Go p e below s _ _ T (mkF m 2 #[.val (.ref a), .val (.long q), .second, .val (.double x), .second, .val (.int i1), .val (.int i2), .unset] [(.ref a), (.ref a)])
  refine Go.getF X hx hZ hown (hw _ (List.mem_of_getElem? (i := 41) rfl)) Via.refl eT F_m_total_a (hb hby d6_2) ?_
  intro T X eT
  show Go p e below s _ _ T (mkF m 5 #[.val (.ref a), .val (.long q), .second, .val (.double x), .second, .val (.int i1), .val (.int i2), .unset] [(.long tt), (.ref a)])
  refine Go.of (fun _ kq => XS.lconst X.here hx rfl (hb hby d6_5) kq) ?_
  show Go p e below s _ _ T (mkF m 6 #[.val (.ref a), .val (.long q), .second, .val (.double x), .second, .val (.int i1), .val (.int i2), .unset] [(.long (1 : Int64)), (.long tt), (.ref a)])
  refine Go.of (fun _ kq => XS.ladd X.here hx rfl (hb hby d6_6) rfl kq) ?_
  show Go p e below s _ _ T (mkF m 7 #[.val (.ref a), .val (.long q), .second, .val (.double x), .second, .val (.int i1), .val (.int i2), .unset] [(.long (tt + (1 : Int64))), (.ref a)])
  refine Go.putF X hx hZ hown (hw _ (List.mem_of_getElem? (i := 41) rfl)) Via.refl eT F_m_total_a E_a (Or.inl (hw _ (List.mem_of_getElem? (i := 42) rfl))) (hw _ (List.mem_of_getElem? (i := 1) rfl)) (ty := .long) (by decide) rfl rfl (hb hby d6_7) ?_
  intro T h X eT wr
  have N := Fr.snoc X N g_a
  have K := K.wr wr (Or.inl (List.mem_of_getElem? (i := 0) rfl))
  have E_a := E_a.wr wr
  have F_m_top_a := F_m_top_a.other wr (Or.inr (slot_ne (Or.inr (hw _ (List.mem_of_getElem? (i := 10) rfl))) (Or.inl (hw _ (List.mem_of_getElem? (i := 42) rfl))) (by decide) (t := .int) (t' := .long) (by decide) (by decide)))
  have F_m_ranks_a := F_m_ranks_a.other wr (Or.inr (slot_ne (Or.inl (hw _ (List.mem_of_getElem? (i := 17) rfl))) (Or.inl (hw _ (List.mem_of_getElem? (i := 42) rfl))) (by decide) (t := (.array .long)) (t' := .long) (by decide) (by decide)))
  have F_m_scores_a := F_m_scores_a.other wr (Or.inr (slot_ne (Or.inl (hw _ (List.mem_of_getElem? (i := 20) rfl))) (Or.inl (hw _ (List.mem_of_getElem? (i := 42) rfl))) (by decide) (t := (.array .double)) (t' := .long) (by decide) (by decide)))
  have F_m_documents_a := F_m_documents_a.other wr (Or.inr (slot_ne (Or.inl (hw _ (List.mem_of_getElem? (i := 22) rfl))) (Or.inl (hw _ (List.mem_of_getElem? (i := 42) rfl))) (by decide) (t := (.array .long)) (t' := .long) (by decide) (by decide)))
  have F_m_kept_a := F_m_kept_a.other wr (Or.inr (slot_ne (Or.inl (hw _ (List.mem_of_getElem? (i := 30) rfl))) (Or.inl (hw _ (List.mem_of_getElem? (i := 42) rfl))) (by decide) (t := .int) (t' := .long) (by decide) (by decide)))
  have F_m_total_a := F_m_total_a.same wr
  have V_r := V_r.other wr (Ne.symm ne_a_r)
  have V_sc := V_sc.other wr (Ne.symm ne_a_sc)
  have V_d := V_d.other wr (Ne.symm ne_a_d)
  show Go p e below s _ _ T (mkF m 10 #[.val (.ref a), .val (.long q), .second, .val (.double x), .second, .val (.int i1), .val (.int i2), .unset] [])
  have TT : TH Z h a r sc d top (1 : Int32) (tt + (1 : Int64)) cap Rk Sc Dc := ⟨F_m_top_a, F_m_ranks_a, F_m_scores_a, F_m_documents_a, F_m_kept_a, F_m_total_a, V_r, V_sc, V_d⟩
  refine Go.of (fun _ kq => XS.aloadN X.here hx rfl (hb hby d6_10) rfl rfl kq) ?_
  show Go p e below s _ _ T (mkF m 11 #[.val (.ref a), .val (.long q), .second, .val (.double x), .second, .val (.int i1), .val (.int i2), .unset] [(.ref a)])
  refine Go.of (fun _ kq => XS.lloadN X.here hx rfl (hb hby d6_11) rfl kq) ?_
  show Go p e below s _ _ T (mkF m 12 #[.val (.ref a), .val (.long q), .second, .val (.double x), .second, .val (.int i1), .val (.int i2), .unset] [(.long q), (.ref a)])
  refine Go.virtual (a := a) X hx hZ hown (hw _ (List.mem_of_getElem? (i := 43) rfl)) (hw _ (List.mem_of_getElem? (i := 25) rfl)) (notFace_of_selects (args := #[]) (mvT hZ (hw _ (List.mem_of_getElem? (i := 27) rfl)))) (hw _ (List.mem_of_getElem? (i := 27) rfl)) (hw _ (List.mem_of_getElem? (i := 26) rfl)) (hw _ (List.mem_of_getElem? (i := 2) rfl)) (hw _ (List.mem_of_getElem? (i := 28) rfl)) (by decide) (rmAdm hw q (Rk 0) a r sc d top (1 : Int32) (tt + (1 : Int64)) cap Rk Sc Dc _ n0 TT (fun q _ => absurd hlt q) rfl) eT E_a 0 (by decide) (by decide) (by decide) (by decide) (by rw [hml]; rfl) (argsL := [(.long q)]) [] (lenOf pd5 rfl) rfl rfl (Nat.le_of_eq rfl) (hb hby d6_12) ?_
  intro v T L' X hQ
  obtain ⟨rfl, N', eT⟩ := hQ
  have N := Fr.app N N'
  show Go p e below s _ _ T (mkF m 15 #[.val (.ref a), .val (.long q), .second, .val (.double x), .second, .val (.int i1), .val (.int i2), .unset] [(.int (own_adm (1 : Int32) top q (Rk 0)))])
  refine Go.of (fun _ kq => XS.istore X.here hx rfl (hb hby d6_15) rfl (l' := #[.val (.ref a), .val (.long q), .second, .val (.double x), .second, .val (.int i1), .val (.int i2), .val (.int (own_adm (1 : Int32) top q (Rk 0)))]) rfl kq) ?_
  show Go p e below s _ _ T (mkF m 17 #[.val (.ref a), .val (.long q), .second, .val (.double x), .second, .val (.int i1), .val (.int i2), .val (.int (own_adm (1 : Int32) top q (Rk 0)))] [])
  refine Go.of (fun _ kq => XS.aloadN X.here hx rfl (hb hby d6_17) rfl rfl kq) ?_
  show Go p e below s _ _ T (mkF m 18 #[.val (.ref a), .val (.long q), .second, .val (.double x), .second, .val (.int i1), .val (.int i2), .val (.int (own_adm (1 : Int32) top q (Rk 0)))] [(.ref a)])
  refine Go.getF X hx hZ hown (hw _ (List.mem_of_getElem? (i := 29) rfl)) Via.refl eT F_m_kept_a (hb hby d6_18) ?_
  intro T X eT
  show Go p e below s _ _ T (mkF m 21 #[.val (.ref a), .val (.long q), .second, .val (.double x), .second, .val (.int i1), .val (.int i2), .val (.int (own_adm (1 : Int32) top q (Rk 0)))] [(.int (1 : Int32))])
  refine Go.of (fun _ kq => XS.aloadN X.here hx rfl (hb hby d6_21) rfl rfl kq) ?_
  show Go p e below s _ _ T (mkF m 22 #[.val (.ref a), .val (.long q), .second, .val (.double x), .second, .val (.int i1), .val (.int i2), .val (.int (own_adm (1 : Int32) top q (Rk 0)))] [(.ref a), (.int (1 : Int32))])
  refine Go.getF X hx hZ hown (hw _ (List.mem_of_getElem? (i := 9) rfl)) Via.refl eT F_m_top_a (hb hby d6_22) ?_
  intro T X eT
  show Go p e below s _ _ T (mkF m 25 #[.val (.ref a), .val (.long q), .second, .val (.double x), .second, .val (.int i1), .val (.int i2), .val (.int (own_adm (1 : Int32) top q (Rk 0)))] [(.int top), (.int (1 : Int32))])
  refine Go.of (fun _ kq => XS.icmpNo X.here hx rfl (hb hby d6_25) rfl (tlt (hlt)).2.1 kq) ?_
  show Go p e below s _ _ T (mkF m 28 #[.val (.ref a), .val (.long q), .second, .val (.double x), .second, .val (.int i1), .val (.int i2), .val (.int (own_adm (1 : Int32) top q (Rk 0)))] [])
  refine Go.of (fun _ kq => XS.aloadN X.here hx rfl (hb hby d6_28) rfl rfl kq) ?_
  show Go p e below s _ _ T (mkF m 29 #[.val (.ref a), .val (.long q), .second, .val (.double x), .second, .val (.int i1), .val (.int i2), .val (.int (own_adm (1 : Int32) top q (Rk 0)))] [(.ref a)])
  refine Go.priv (a := a) X hx hZ hown (hw _ (List.mem_of_getElem? (i := 44) rfl)) (hw _ (List.mem_of_getElem? (i := 45) rfl)) (hw _ (List.mem_of_getElem? (i := 1) rfl)) (hw _ (List.mem_of_getElem? (i := 46) rfl)) (hw _ (List.mem_of_getElem? (i := 2) rfl)) (hw _ (List.mem_of_getElem? (i := 47) rfl)) (by decide) (rmGrow hw a r sc d top (1 : Int32) (tt + (1 : Int64)) cap Rk Sc Dc _ n0 hne TT) eT E_a 0 (by decide) (by decide) (by decide) (by decide) (by rw [hml]; rfl) (argsL := []) [] (lenOf pd6 rfl) rfl rfl (Nat.le_of_eq rfl) (hb hby d6_29) ?_
  intro v T L' X hQ
  obtain ⟨rfl, N', eT⟩ := hQ
  have N := Fr.app N N'
  show Go p e below s _ _ T (mkF m 32 #[.val (.ref a), .val (.long q), .second, .val (.double x), .second, .val (.int i1), .val (.int i2), .val (.int (own_adm (1 : Int32) top q (Rk 0)))] [])
  refine Go.of (fun _ kq => XS.aloadN X.here hx rfl (hb hby d6_32) rfl rfl kq) ?_
  show Go p e below s _ _ T (mkF m 33 #[.val (.ref a), .val (.long q), .second, .val (.double x), .second, .val (.int i1), .val (.int i2), .val (.int (own_adm (1 : Int32) top q (Rk 0)))] [(.ref a)])
  refine Go.of (fun _ kq => XS.aloadN X.here hx rfl (hb hby d6_33) rfl rfl kq) ?_
  show Go p e below s _ _ T (mkF m 34 #[.val (.ref a), .val (.long q), .second, .val (.double x), .second, .val (.int i1), .val (.int i2), .val (.int (own_adm (1 : Int32) top q (Rk 0)))] [(.ref a), (.ref a)])
  refine Go.of (fun _ kq => XS.dup X.here hx rfl (hb hby d6_34) rfl rfl kq) ?_
  show Go p e below s _ _ T (mkF m 35 #[.val (.ref a), .val (.long q), .second, .val (.double x), .second, .val (.int i1), .val (.int i2), .val (.int (own_adm (1 : Int32) top q (Rk 0)))] [(.ref a), (.ref a), (.ref a)])
  refine Go.getF X hx hZ hown (hw _ (List.mem_of_getElem? (i := 29) rfl)) Via.refl eT F_m_kept_a (hb hby d6_35) ?_
  intro T X eT
  show Go p e below s _ _ T (mkF m 38 #[.val (.ref a), .val (.long q), .second, .val (.double x), .second, .val (.int i1), .val (.int i2), .val (.int (own_adm (1 : Int32) top q (Rk 0)))] [(.int (1 : Int32)), (.ref a), (.ref a)])
  refine Go.of (fun _ kq => XS.dupX1 X.here hx rfl (hb hby d6_38) rfl rfl rfl kq) ?_
  show Go p e below s _ _ T (mkF m 39 #[.val (.ref a), .val (.long q), .second, .val (.double x), .second, .val (.int i1), .val (.int i2), .val (.int (own_adm (1 : Int32) top q (Rk 0)))] [(.int (1 : Int32)), (.ref a), (.int (1 : Int32)), (.ref a)])
  refine Go.of (fun _ kq => XS.iconst X.here hx rfl (hb hby d6_39) kq) ?_
  show Go p e below s _ _ T (mkF m 40 #[.val (.ref a), .val (.long q), .second, .val (.double x), .second, .val (.int i1), .val (.int i2), .val (.int (own_adm (1 : Int32) top q (Rk 0)))] [(.int (1 : Int32)), (.int (1 : Int32)), (.ref a), (.int (1 : Int32)), (.ref a)])
  refine Go.of (fun _ kq => XS.iadd X.here hx rfl (hb hby d6_40) rfl kq) ?_
  show Go p e below s _ _ T (mkF m 41 #[.val (.ref a), .val (.long q), .second, .val (.double x), .second, .val (.int i1), .val (.int i2), .val (.int (own_adm (1 : Int32) top q (Rk 0)))] [(.int (2 : Int32)), (.ref a), (.int (1 : Int32)), (.ref a)])
  refine Go.putF X hx hZ hown (hw _ (List.mem_of_getElem? (i := 29) rfl)) Via.refl eT F_m_kept_a E_a (Or.inl (hw _ (List.mem_of_getElem? (i := 30) rfl))) (hw _ (List.mem_of_getElem? (i := 1) rfl)) (ty := .int) (by decide) rfl rfl (hb hby d6_41) ?_
  intro T h X eT wr
  have N := Fr.snoc X N g_a
  have K := K.wr wr (Or.inl (List.mem_of_getElem? (i := 0) rfl))
  have E_a := E_a.wr wr
  have F_m_top_a := F_m_top_a.other wr (Or.inr (slot_ne (Or.inr (hw _ (List.mem_of_getElem? (i := 10) rfl))) (Or.inl (hw _ (List.mem_of_getElem? (i := 30) rfl))) (by decide) (t := .int) (t' := .int) (by decide) (by decide)))
  have F_m_ranks_a := F_m_ranks_a.other wr (Or.inr (slot_ne (Or.inl (hw _ (List.mem_of_getElem? (i := 17) rfl))) (Or.inl (hw _ (List.mem_of_getElem? (i := 30) rfl))) (by decide) (t := (.array .long)) (t' := .int) (by decide) (by decide)))
  have F_m_scores_a := F_m_scores_a.other wr (Or.inr (slot_ne (Or.inl (hw _ (List.mem_of_getElem? (i := 20) rfl))) (Or.inl (hw _ (List.mem_of_getElem? (i := 30) rfl))) (by decide) (t := (.array .double)) (t' := .int) (by decide) (by decide)))
  have F_m_documents_a := F_m_documents_a.other wr (Or.inr (slot_ne (Or.inl (hw _ (List.mem_of_getElem? (i := 22) rfl))) (Or.inl (hw _ (List.mem_of_getElem? (i := 30) rfl))) (by decide) (t := (.array .long)) (t' := .int) (by decide) (by decide)))
  have F_m_kept_a := F_m_kept_a.same wr
  have F_m_total_a := F_m_total_a.other wr (Or.inr (slot_ne (Or.inl (hw _ (List.mem_of_getElem? (i := 42) rfl))) (Or.inl (hw _ (List.mem_of_getElem? (i := 30) rfl))) (by decide) (t := .long) (t' := .int) (by decide) (by decide)))
  have V_r := V_r.other wr (Ne.symm ne_a_r)
  have V_sc := V_sc.other wr (Ne.symm ne_a_sc)
  have V_d := V_d.other wr (Ne.symm ne_a_d)
  show Go p e below s _ _ T (mkF m 44 #[.val (.ref a), .val (.long q), .second, .val (.double x), .second, .val (.int i1), .val (.int i2), .val (.int (own_adm (1 : Int32) top q (Rk 0)))] [(.int (1 : Int32)), (.ref a)])
  have TT : TH Z h a r sc d top (2 : Int32) (tt + (1 : Int64)) cap Rk Sc Dc := ⟨F_m_top_a, F_m_ranks_a, F_m_scores_a, F_m_documents_a, F_m_kept_a, F_m_total_a, V_r, V_sc, V_d⟩
  refine Go.of (fun _ kq => XS.lloadN X.here hx rfl (hb hby d6_44) rfl kq) ?_
  show Go p e below s _ _ T (mkF m 45 #[.val (.ref a), .val (.long q), .second, .val (.double x), .second, .val (.int i1), .val (.int i2), .val (.int (own_adm (1 : Int32) top q (Rk 0)))] [(.long q), (.int (1 : Int32)), (.ref a)])
  refine Go.of (fun _ kq => XS.dloadN X.here hx rfl (hb hby d6_45) rfl kq) ?_
  show Go p e below s _ _ T (mkF m 46 #[.val (.ref a), .val (.long q), .second, .val (.double x), .second, .val (.int i1), .val (.int i2), .val (.int (own_adm (1 : Int32) top q (Rk 0)))] [(.double x), (.long q), (.int (1 : Int32)), (.ref a)])
  refine Go.of (fun _ kq => XS.iload X.here hx rfl (hb hby d6_46) rfl kq) ?_
  show Go p e below s _ _ T (mkF m 48 #[.val (.ref a), .val (.long q), .second, .val (.double x), .second, .val (.int i1), .val (.int i2), .val (.int (own_adm (1 : Int32) top q (Rk 0)))] [(.int i1), (.double x), (.long q), (.int (1 : Int32)), (.ref a)])
  refine Go.of (fun _ kq => XS.i2l X.here hx rfl (hb hby d6_48) rfl kq) ?_
  show Go p e below s _ _ T (mkF m 49 #[.val (.ref a), .val (.long q), .second, .val (.double x), .second, .val (.int i1), .val (.int i2), .val (.int (own_adm (1 : Int32) top q (Rk 0)))] [(.long (i1.toInt64)), (.double x), (.long q), (.int (1 : Int32)), (.ref a)])
  refine Go.of (fun _ kq => XS.bipush X.here hx rfl (hb hby d6_49) kq) ?_
  show Go p e below s _ _ T (mkF m 51 #[.val (.ref a), .val (.long q), .second, .val (.double x), .second, .val (.int i1), .val (.int i2), .val (.int (own_adm (1 : Int32) top q (Rk 0)))] [(.int (32 : Int32)), (.long (i1.toInt64)), (.double x), (.long q), (.int (1 : Int32)), (.ref a)])
  refine Go.of (fun _ kq => XS.lshl X.here hx rfl (hb hby d6_51) rfl kq) ?_
  show Go p e below s _ _ T (mkF m 52 #[.val (.ref a), .val (.long q), .second, .val (.double x), .second, .val (.int i1), .val (.int i2), .val (.int (own_adm (1 : Int32) top q (Rk 0)))] [(.long ((i1.toInt64) <<< ((32 : Int32) &&& 0x3f).toInt64)), (.double x), (.long q), (.int (1 : Int32)), (.ref a)])
  refine Go.of (fun _ kq => XS.iload X.here hx rfl (hb hby d6_52) rfl kq) ?_
  show Go p e below s _ _ T (mkF m 54 #[.val (.ref a), .val (.long q), .second, .val (.double x), .second, .val (.int i1), .val (.int i2), .val (.int (own_adm (1 : Int32) top q (Rk 0)))] [(.int i2), (.long ((i1.toInt64) <<< ((32 : Int32) &&& 0x3f).toInt64)), (.double x), (.long q), (.int (1 : Int32)), (.ref a)])
  refine Go.of (fun _ kq => XS.i2l X.here hx rfl (hb hby d6_54) rfl kq) ?_
  show Go p e below s _ _ T (mkF m 55 #[.val (.ref a), .val (.long q), .second, .val (.double x), .second, .val (.int i1), .val (.int i2), .val (.int (own_adm (1 : Int32) top q (Rk 0)))] [(.long (i2.toInt64)), (.long ((i1.toInt64) <<< ((32 : Int32) &&& 0x3f).toInt64)), (.double x), (.long q), (.int (1 : Int32)), (.ref a)])
  refine Go.of (fun _ kq => XS.lor X.here hx rfl (hb hby d6_55) rfl kq) ?_
  show Go p e below s _ _ T (mkF m 56 #[.val (.ref a), .val (.long q), .second, .val (.double x), .second, .val (.int i1), .val (.int i2), .val (.int (own_adm (1 : Int32) top q (Rk 0)))] [(.long (((i1.toInt64) <<< ((32 : Int32) &&& 0x3f).toInt64) ||| (i2.toInt64))), (.double x), (.long q), (.int (1 : Int32)), (.ref a)])
  refine Go.priv (a := a) X hx hZ hown (hw _ (List.mem_of_getElem? (i := 48) rfl)) (hw _ (List.mem_of_getElem? (i := 49) rfl)) (hw _ (List.mem_of_getElem? (i := 1) rfl)) (hw _ (List.mem_of_getElem? (i := 50) rfl)) (hw _ (List.mem_of_getElem? (i := 2) rfl)) (hw _ (List.mem_of_getElem? (i := 51) rfl)) (by decide) (rmUp1 hw q x (((i1.toInt64) <<< ((32 : Int32) &&& 0x3f).toInt64) ||| (i2.toInt64)) a r sc d top (2 : Int32) (tt + (1 : Int64)) cap Rk Sc Dc _ n0 g_a g_r g_sc g_d ne_a_r ne_a_sc ne_a_d ne_r_sc ne_r_d ne_sc_d h0_ hp_ E_a TT) eT E_a 0 (by decide) (by decide) (by decide) (by decide) (by rw [hml]; rfl) (argsL := [(.int (1 : Int32)), (.long q), (.double x), (.long (((i1.toInt64) <<< ((32 : Int32) &&& 0x3f).toInt64) ||| (i2.toInt64)))]) [] (lenOf pd2 rfl) rfl rfl (Nat.le_of_eq rfl) (hb hby d6_56) ?_
  intro v T L' X hQ
  obtain ⟨h, eT⟩ : ∃ z, T.heap = z := ⟨_, rfl⟩
  rw [eT] at hQ
  obtain ⟨rfl, N', K', R2, S2, D2, TT, hrel⟩ := hQ
  have N := Fr.app N N'
  have K := K.trans K' (own_all3 (Or.inl (List.mem_of_getElem? (i := 1) rfl)) (Or.inl (List.mem_of_getElem? (i := 2) rfl)) (Or.inl (List.mem_of_getElem? (i := 3) rfl)))
  have E_a := E_a.keep K'
  have F_m_top_a := F_m_top_a.keep K' (own_ni3 ne_a_r ne_a_sc ne_a_d)
  have F_m_ranks_a := F_m_ranks_a.keep K' (own_ni3 ne_a_r ne_a_sc ne_a_d)
  have F_m_scores_a := F_m_scores_a.keep K' (own_ni3 ne_a_r ne_a_sc ne_a_d)
  have F_m_documents_a := F_m_documents_a.keep K' (own_ni3 ne_a_r ne_a_sc ne_a_d)
  have F_m_kept_a := F_m_kept_a.keep K' (own_ni3 ne_a_r ne_a_sc ne_a_d)
  have F_m_total_a := F_m_total_a.keep K' (own_ni3 ne_a_r ne_a_sc ne_a_d)
  show Go p e below s _ _ T (mkF m 59 #[.val (.ref a), .val (.long q), .second, .val (.double x), .second, .val (.int i1), .val (.int i2), .val (.int (own_adm (1 : Int32) top q (Rk 0)))] [])
  refine Go.of (fun _ kq => XS.goto X.here hx rfl (pc0 := 59) (pc' := 83) rfl (hb hby d6_59) (by decide) (by decide) kq) ?_
  show Go p e below s _ _ T (mkF m 83 #[.val (.ref a), .val (.long q), .second, .val (.double x), .second, .val (.int i1), .val (.int i2), .val (.int (own_adm (1 : Int32) top q (Rk 0)))] [])
  refine Go.of (fun _ kq => XS.iload X.here hx rfl (hb hby d6_83) rfl kq) ?_
  show Go p e below s _ _ T (mkF m 85 #[.val (.ref a), .val (.long q), .second, .val (.double x), .second, .val (.int i1), .val (.int i2), .val (.int (own_adm (1 : Int32) top q (Rk 0)))] [(.int (own_adm (1 : Int32) top q (Rk 0)))])
  refine Go.retN X hx hret (by simp) hlk (hb hby d6_85) (by decide) (by decide) ?_
  try rw [eT]
  exact ⟨⟨_, rfl⟩, N, K, _, _, _, _, _, TT, rfl, hrel⟩
theorem ef_rmOffer_lt1 (m : MethodId) (x0 : Addr) (x1 : Int64) (x2 : Int32) (x3 : Int32) : entryFrame m #[(.ref x0), (.long x1), (.int x2), (.int x3)] 5 = mkF m 0 #[.val (.ref x0), .val (.long x1), .second, .val (.int x2), .val (.int x3)] [] := by first | (simp [entryFrame, mkF, argsToLocals, Value.category]; done) | rfl
set_option maxRecDepth 65536 in
set_option maxHeartbeats 40000000 in
theorem rmOffer_lt1 {l : Launch} {Z : State} {a0 : Array Value} (hw : ∀ d ∈ tables_1, d.before a0 Z = true) (q : Int64) (i1 i2 : Int32) (a r sc d : Addr) (top : Int32) (tt : Int64) (cap : Nat) (Rk : Nat → Int64) (Sc : Nat → UInt64) (Dc : Nat → Int64) (h0 : Heap) (n0 : Nat) (g_a : n0 ≤ a) (g_r : n0 ≤ r) (g_sc : n0 ≤ sc) (g_d : n0 ≤ d) (ne_a_r : a ≠ r) (ne_a_sc : a ≠ sc) (ne_a_d : a ≠ d) (ne_r_sc : r ≠ sc) (ne_r_d : r ≠ d) (ne_sc_d : sc ≠ d) (hlt : (1 : Int32) < top) (h0_ : 0 < cap) (hp_ : 1 < cap) (hne : ¬ (1 : Int32) = cap.toInt32) (E_a : Exa Z h0 a "org/segmentry/search/TopHits") (TT : TH Z h0 a r sc d top (1 : Int32) tt cap Rk Sc Dc) :
    Met l Z (⟨"org/segmentry/search/TopHits", "offer", "(JII)Z"⟩ : MethodName) prog_94_method_5_code 5 (some .boolean) [] ({ frames := 4, cells := 0, slots := 0, locals := 79 } : Room) #[(.ref a), (.long q), (.int i1), (.int i2)] h0 (fun v h L => (∃ b : Int32, v = some (.int b)) ∧ Fr n0 L ∧ Keep h0 h [a, r, sc, d] ∧ ∃ (k' : Int32) (tt' : Int64) (Rk' : Nat → Int64) (Sc' : Nat → UInt64) (Dc' : Nat → Int64), TH Z h a r sc d top k' tt' cap Rk' Sc' Dc' ∧ k' = 2 ∧ Rk' 0 = own_max (Rk 0) q ∧ Rk' 1 = own_min (Rk 0) q) := by
  refine Met.mk pn5 ?_
  intro p e s m below meth c T hx hby hml hown hnm hret hlk hZ X eT
  refine Go.cast (ef_rmOffer_lt1 m a q i1 i2) ?_
  have N := Fr.nil n0
  have K := Keep.refl h0 [a, r, sc, d]
  show Go p e below s _ _ T (mkF m 0 #[.val (.ref a), .val (.long q), .second, .val (.int i1), .val (.int i2)] [])
  refine Go.of (fun _ kq => XS.aloadN X.here hx rfl (hb hby d5_0) rfl rfl kq) ?_
  show Go p e below s _ _ T (mkF m 1 #[.val (.ref a), .val (.long q), .second, .val (.int i1), .val (.int i2)] [(.ref a)])
  refine Go.of (fun _ kq => XS.lloadN X.here hx rfl (hb hby d5_1) rfl kq) ?_
  show Go p e below s _ _ T (mkF m 2 #[.val (.ref a), .val (.long q), .second, .val (.int i1), .val (.int i2)] [(.long q), (.ref a)])
  refine Go.of (X.ldc2DoubleC hx hown (mvT hZ (hw _ (List.mem_of_getElem? (i := 36) rfl))) (g := (mkF m 2 #[.val (.ref a), .val (.long q), .second, .val (.int i1), .val (.int i2)] [(.long q), (.ref a)])) rfl (hb hby d5_2)) ?_
  show Go p e below s _ _ T (mkF m 5 #[.val (.ref a), .val (.long q), .second, .val (.int i1), .val (.int i2)] [(.double (9221120237041090560 : UInt64)), (.long q), (.ref a)])
  refine Go.of (fun _ kq => XS.iloadN X.here hx rfl (hb hby d5_5) rfl kq) ?_
  show Go p e below s _ _ T (mkF m 6 #[.val (.ref a), .val (.long q), .second, .val (.int i1), .val (.int i2)] [(.int i1), (.double (9221120237041090560 : UInt64)), (.long q), (.ref a)])
  refine Go.of (fun _ kq => XS.iload X.here hx rfl (hb hby d5_6) rfl kq) ?_
  show Go p e below s _ _ T (mkF m 8 #[.val (.ref a), .val (.long q), .second, .val (.int i1), .val (.int i2)] [(.int i2), (.int i1), (.double (9221120237041090560 : UInt64)), (.long q), (.ref a)])
  refine Go.priv (a := a) X hx hZ hown (hw _ (List.mem_of_getElem? (i := 37) rfl)) (hw _ (List.mem_of_getElem? (i := 38) rfl)) (hw _ (List.mem_of_getElem? (i := 1) rfl)) (hw _ (List.mem_of_getElem? (i := 39) rfl)) (hw _ (List.mem_of_getElem? (i := 2) rfl)) (hw _ (List.mem_of_getElem? (i := 40) rfl)) (by decide) (rmKeep_lt1 hw q (9221120237041090560 : UInt64) i1 i2 a r sc d top tt cap Rk Sc Dc _ n0 g_a g_r g_sc g_d ne_a_r ne_a_sc ne_a_d ne_r_sc ne_r_d ne_sc_d hlt h0_ hp_ hne E_a TT) eT E_a 0 (by decide) (by decide) (by decide) (by decide) (by rw [hml]; rfl) (argsL := [(.long q), (.double (9221120237041090560 : UInt64)), (.int i1), (.int i2)]) [] (lenOf pd7 rfl) rfl rfl (Nat.le_of_eq rfl) (hb hby d5_8) ?_
  intro v T L' X hQ
  obtain ⟨h, eT⟩ : ∃ z, T.heap = z := ⟨_, rfl⟩
  rw [eT] at hQ
  obtain ⟨⟨bb, rfl⟩, N', K', RR⟩ := hQ
  have N := Fr.app N N'
  have K := K.trans K' (own_all4 (Or.inl (List.mem_of_getElem? (i := 0) rfl)) (Or.inl (List.mem_of_getElem? (i := 1) rfl)) (Or.inl (List.mem_of_getElem? (i := 2) rfl)) (Or.inl (List.mem_of_getElem? (i := 3) rfl)))
  have E_a := E_a.keep K'
  show Go p e below s _ _ T (mkF m 11 #[.val (.ref a), .val (.long q), .second, .val (.int i1), .val (.int i2)] [(.int bb)])
  refine Go.retN X hx hret (by simp) hlk (hb hby d5_11) (by decide) (by decide) ?_
  try rw [eT]
  exact ⟨⟨_, rfl⟩, N, K, RR⟩
theorem ef_rmKeep_lt2 (m : MethodId) (x0 : Addr) (x1 : Int64) (x2 : UInt64) (x3 : Int32) (x4 : Int32) : entryFrame m #[(.ref x0), (.long x1), (.double x2), (.int x3), (.int x4)] 8 = mkF m 0 #[.val (.ref x0), .val (.long x1), .second, .val (.double x2), .second, .val (.int x3), .val (.int x4), .unset] [] := by first | (simp [entryFrame, mkF, argsToLocals, Value.category]; done) | rfl
set_option maxRecDepth 65536 in
set_option maxHeartbeats 40000000 in
theorem rmKeep_lt2 {l : Launch} {Z : State} {a0 : Array Value} (hw : ∀ d ∈ tables_1, d.before a0 Z = true) (q : Int64) (x : UInt64) (i1 i2 : Int32) (a r sc d : Addr) (top : Int32) (tt : Int64) (cap : Nat) (Rk : Nat → Int64) (Sc : Nat → UInt64) (Dc : Nat → Int64) (h0 : Heap) (n0 : Nat) (g_a : n0 ≤ a) (g_r : n0 ≤ r) (g_sc : n0 ≤ sc) (g_d : n0 ≤ d) (ne_a_r : a ≠ r) (ne_a_sc : a ≠ sc) (ne_a_d : a ≠ d) (ne_r_sc : r ≠ sc) (ne_r_d : r ≠ d) (ne_sc_d : sc ≠ d) (hlt : (2 : Int32) < top) (h0_ : 0 < cap) (hp_ : 2 < cap) (hne : ¬ (2 : Int32) = cap.toInt32) (E_a : Exa Z h0 a "org/segmentry/search/TopHits") (TT : TH Z h0 a r sc d top (2 : Int32) tt cap Rk Sc Dc) :
    Met l Z (⟨"org/segmentry/search/TopHits", "keep", "(JDII)Z"⟩ : MethodName) prog_94_method_7_code 8 (some .boolean) [] ({ frames := 3, cells := 0, slots := 0, locals := 60 } : Room) #[(.ref a), (.long q), (.double x), (.int i1), (.int i2)] h0 (fun v h L => (∃ b : Int32, v = some (.int b)) ∧ Fr n0 L ∧ Keep h0 h [a, r, sc, d] ∧ ∃ (k' : Int32) (tt' : Int64) (Rk' : Nat → Int64) (Sc' : Nat → UInt64) (Dc' : Nat → Int64), TH Z h a r sc d top k' tt' cap Rk' Sc' Dc' ∧ k' = 3 ∧ Rk' 0 = own_max (Rk 0) q) := by
  refine Met.mk pn6 ?_
  intro p e s m below meth c T hx hby hml hown hnm hret hlk hZ X eT
  refine Go.cast (ef_rmKeep_lt2 m a q x i1 i2) ?_
  have N := Fr.nil n0
  have K := Keep.refl h0 [a, r, sc, d]
  obtain ⟨F_m_top_a, F_m_ranks_a, F_m_scores_a, F_m_documents_a, F_m_kept_a, F_m_total_a, V_r, V_sc, V_d⟩ := id TT
  show Go p e below s _ _ T (mkF m 0 #[.val (.ref a), .val (.long q), .second, .val (.double x), .second, .val (.int i1), .val (.int i2), .unset] [])
  refine Go.of (fun _ kq => XS.aloadN X.here hx rfl (hb hby d6_0) rfl rfl kq) ?_
  show Go p e below s _ _ T (mkF m 1 #[.val (.ref a), .val (.long q), .second, .val (.double x), .second, .val (.int i1), .val (.int i2), .unset] [(.ref a)])
  refine Go.of (fun _ kq => XS.dup X.here hx rfl (hb hby d6_1) rfl rfl kq) ?_
  show Go p e below s _ _ T (mkF m 2 #[.val (.ref a), .val (.long q), .second, .val (.double x), .second, .val (.int i1), .val (.int i2), .unset] [(.ref a), (.ref a)])
  refine Go.getF X hx hZ hown (hw _ (List.mem_of_getElem? (i := 41) rfl)) Via.refl eT F_m_total_a (hb hby d6_2) ?_
  intro T X eT
  show Go p e below s _ _ T (mkF m 5 #[.val (.ref a), .val (.long q), .second, .val (.double x), .second, .val (.int i1), .val (.int i2), .unset] [(.long tt), (.ref a)])
  refine Go.of (fun _ kq => XS.lconst X.here hx rfl (hb hby d6_5) kq) ?_
  show Go p e below s _ _ T (mkF m 6 #[.val (.ref a), .val (.long q), .second, .val (.double x), .second, .val (.int i1), .val (.int i2), .unset] [(.long (1 : Int64)), (.long tt), (.ref a)])
  refine Go.of (fun _ kq => XS.ladd X.here hx rfl (hb hby d6_6) rfl kq) ?_
  show Go p e below s _ _ T (mkF m 7 #[.val (.ref a), .val (.long q), .second, .val (.double x), .second, .val (.int i1), .val (.int i2), .unset] [(.long (tt + (1 : Int64))), (.ref a)])
  refine Go.putF X hx hZ hown (hw _ (List.mem_of_getElem? (i := 41) rfl)) Via.refl eT F_m_total_a E_a (Or.inl (hw _ (List.mem_of_getElem? (i := 42) rfl))) (hw _ (List.mem_of_getElem? (i := 1) rfl)) (ty := .long) (by decide) rfl rfl (hb hby d6_7) ?_
  intro T h X eT wr
  have N := Fr.snoc X N g_a
  have K := K.wr wr (Or.inl (List.mem_of_getElem? (i := 0) rfl))
  have E_a := E_a.wr wr
  have F_m_top_a := F_m_top_a.other wr (Or.inr (slot_ne (Or.inr (hw _ (List.mem_of_getElem? (i := 10) rfl))) (Or.inl (hw _ (List.mem_of_getElem? (i := 42) rfl))) (by decide) (t := .int) (t' := .long) (by decide) (by decide)))
  have F_m_ranks_a := F_m_ranks_a.other wr (Or.inr (slot_ne (Or.inl (hw _ (List.mem_of_getElem? (i := 17) rfl))) (Or.inl (hw _ (List.mem_of_getElem? (i := 42) rfl))) (by decide) (t := (.array .long)) (t' := .long) (by decide) (by decide)))
  have F_m_scores_a := F_m_scores_a.other wr (Or.inr (slot_ne (Or.inl (hw _ (List.mem_of_getElem? (i := 20) rfl))) (Or.inl (hw _ (List.mem_of_getElem? (i := 42) rfl))) (by decide) (t := (.array .double)) (t' := .long) (by decide) (by decide)))
  have F_m_documents_a := F_m_documents_a.other wr (Or.inr (slot_ne (Or.inl (hw _ (List.mem_of_getElem? (i := 22) rfl))) (Or.inl (hw _ (List.mem_of_getElem? (i := 42) rfl))) (by decide) (t := (.array .long)) (t' := .long) (by decide) (by decide)))
  have F_m_kept_a := F_m_kept_a.other wr (Or.inr (slot_ne (Or.inl (hw _ (List.mem_of_getElem? (i := 30) rfl))) (Or.inl (hw _ (List.mem_of_getElem? (i := 42) rfl))) (by decide) (t := .int) (t' := .long) (by decide) (by decide)))
  have F_m_total_a := F_m_total_a.same wr
  have V_r := V_r.other wr (Ne.symm ne_a_r)
  have V_sc := V_sc.other wr (Ne.symm ne_a_sc)
  have V_d := V_d.other wr (Ne.symm ne_a_d)
  show Go p e below s _ _ T (mkF m 10 #[.val (.ref a), .val (.long q), .second, .val (.double x), .second, .val (.int i1), .val (.int i2), .unset] [])
  have TT : TH Z h a r sc d top (2 : Int32) (tt + (1 : Int64)) cap Rk Sc Dc := ⟨F_m_top_a, F_m_ranks_a, F_m_scores_a, F_m_documents_a, F_m_kept_a, F_m_total_a, V_r, V_sc, V_d⟩
  refine Go.of (fun _ kq => XS.aloadN X.here hx rfl (hb hby d6_10) rfl rfl kq) ?_
  show Go p e below s _ _ T (mkF m 11 #[.val (.ref a), .val (.long q), .second, .val (.double x), .second, .val (.int i1), .val (.int i2), .unset] [(.ref a)])
  refine Go.of (fun _ kq => XS.lloadN X.here hx rfl (hb hby d6_11) rfl kq) ?_
  show Go p e below s _ _ T (mkF m 12 #[.val (.ref a), .val (.long q), .second, .val (.double x), .second, .val (.int i1), .val (.int i2), .unset] [(.long q), (.ref a)])
  refine Go.virtual (a := a) X hx hZ hown (hw _ (List.mem_of_getElem? (i := 43) rfl)) (hw _ (List.mem_of_getElem? (i := 25) rfl)) (notFace_of_selects (args := #[]) (mvT hZ (hw _ (List.mem_of_getElem? (i := 27) rfl)))) (hw _ (List.mem_of_getElem? (i := 27) rfl)) (hw _ (List.mem_of_getElem? (i := 26) rfl)) (hw _ (List.mem_of_getElem? (i := 2) rfl)) (hw _ (List.mem_of_getElem? (i := 28) rfl)) (by decide) (rmAdm hw q (Rk 0) a r sc d top (2 : Int32) (tt + (1 : Int64)) cap Rk Sc Dc _ n0 TT (fun q _ => absurd hlt q) rfl) eT E_a 0 (by decide) (by decide) (by decide) (by decide) (by rw [hml]; rfl) (argsL := [(.long q)]) [] (lenOf pd5 rfl) rfl rfl (Nat.le_of_eq rfl) (hb hby d6_12) ?_
  intro v T L' X hQ
  obtain ⟨rfl, N', eT⟩ := hQ
  have N := Fr.app N N'
  show Go p e below s _ _ T (mkF m 15 #[.val (.ref a), .val (.long q), .second, .val (.double x), .second, .val (.int i1), .val (.int i2), .unset] [(.int (own_adm (2 : Int32) top q (Rk 0)))])
  refine Go.of (fun _ kq => XS.istore X.here hx rfl (hb hby d6_15) rfl (l' := #[.val (.ref a), .val (.long q), .second, .val (.double x), .second, .val (.int i1), .val (.int i2), .val (.int (own_adm (2 : Int32) top q (Rk 0)))]) rfl kq) ?_
  show Go p e below s _ _ T (mkF m 17 #[.val (.ref a), .val (.long q), .second, .val (.double x), .second, .val (.int i1), .val (.int i2), .val (.int (own_adm (2 : Int32) top q (Rk 0)))] [])
  refine Go.of (fun _ kq => XS.aloadN X.here hx rfl (hb hby d6_17) rfl rfl kq) ?_
  show Go p e below s _ _ T (mkF m 18 #[.val (.ref a), .val (.long q), .second, .val (.double x), .second, .val (.int i1), .val (.int i2), .val (.int (own_adm (2 : Int32) top q (Rk 0)))] [(.ref a)])
  refine Go.getF X hx hZ hown (hw _ (List.mem_of_getElem? (i := 29) rfl)) Via.refl eT F_m_kept_a (hb hby d6_18) ?_
  intro T X eT
  show Go p e below s _ _ T (mkF m 21 #[.val (.ref a), .val (.long q), .second, .val (.double x), .second, .val (.int i1), .val (.int i2), .val (.int (own_adm (2 : Int32) top q (Rk 0)))] [(.int (2 : Int32))])
  refine Go.of (fun _ kq => XS.aloadN X.here hx rfl (hb hby d6_21) rfl rfl kq) ?_
  show Go p e below s _ _ T (mkF m 22 #[.val (.ref a), .val (.long q), .second, .val (.double x), .second, .val (.int i1), .val (.int i2), .val (.int (own_adm (2 : Int32) top q (Rk 0)))] [(.ref a), (.int (2 : Int32))])
  refine Go.getF X hx hZ hown (hw _ (List.mem_of_getElem? (i := 9) rfl)) Via.refl eT F_m_top_a (hb hby d6_22) ?_
  intro T X eT
  show Go p e below s _ _ T (mkF m 25 #[.val (.ref a), .val (.long q), .second, .val (.double x), .second, .val (.int i1), .val (.int i2), .val (.int (own_adm (2 : Int32) top q (Rk 0)))] [(.int top), (.int (2 : Int32))])
  refine Go.of (fun _ kq => XS.icmpNo X.here hx rfl (hb hby d6_25) rfl (tlt (hlt)).2.1 kq) ?_
  show Go p e below s _ _ T (mkF m 28 #[.val (.ref a), .val (.long q), .second, .val (.double x), .second, .val (.int i1), .val (.int i2), .val (.int (own_adm (2 : Int32) top q (Rk 0)))] [])
  refine Go.of (fun _ kq => XS.aloadN X.here hx rfl (hb hby d6_28) rfl rfl kq) ?_
  show Go p e below s _ _ T (mkF m 29 #[.val (.ref a), .val (.long q), .second, .val (.double x), .second, .val (.int i1), .val (.int i2), .val (.int (own_adm (2 : Int32) top q (Rk 0)))] [(.ref a)])
  refine Go.priv (a := a) X hx hZ hown (hw _ (List.mem_of_getElem? (i := 44) rfl)) (hw _ (List.mem_of_getElem? (i := 45) rfl)) (hw _ (List.mem_of_getElem? (i := 1) rfl)) (hw _ (List.mem_of_getElem? (i := 46) rfl)) (hw _ (List.mem_of_getElem? (i := 2) rfl)) (hw _ (List.mem_of_getElem? (i := 47) rfl)) (by decide) (rmGrow hw a r sc d top (2 : Int32) (tt + (1 : Int64)) cap Rk Sc Dc _ n0 hne TT) eT E_a 0 (by decide) (by decide) (by decide) (by decide) (by rw [hml]; rfl) (argsL := []) [] (lenOf pd6 rfl) rfl rfl (Nat.le_of_eq rfl) (hb hby d6_29) ?_
  intro v T L' X hQ
  obtain ⟨rfl, N', eT⟩ := hQ
  have N := Fr.app N N'
  show Go p e below s _ _ T (mkF m 32 #[.val (.ref a), .val (.long q), .second, .val (.double x), .second, .val (.int i1), .val (.int i2), .val (.int (own_adm (2 : Int32) top q (Rk 0)))] [])
  refine Go.of (fun _ kq => XS.aloadN X.here hx rfl (hb hby d6_32) rfl rfl kq) ?_
  show Go p e below s _ _ T (mkF m 33 #[.val (.ref a), .val (.long q), .second, .val (.double x), .second, .val (.int i1), .val (.int i2), .val (.int (own_adm (2 : Int32) top q (Rk 0)))] [(.ref a)])
  refine Go.of (fun _ kq => XS.aloadN X.here hx rfl (hb hby d6_33) rfl rfl kq) ?_
  show Go p e below s _ _ T (mkF m 34 #[.val (.ref a), .val (.long q), .second, .val (.double x), .second, .val (.int i1), .val (.int i2), .val (.int (own_adm (2 : Int32) top q (Rk 0)))] [(.ref a), (.ref a)])
  refine Go.of (fun _ kq => XS.dup X.here hx rfl (hb hby d6_34) rfl rfl kq) ?_
  show Go p e below s _ _ T (mkF m 35 #[.val (.ref a), .val (.long q), .second, .val (.double x), .second, .val (.int i1), .val (.int i2), .val (.int (own_adm (2 : Int32) top q (Rk 0)))] [(.ref a), (.ref a), (.ref a)])
  refine Go.getF X hx hZ hown (hw _ (List.mem_of_getElem? (i := 29) rfl)) Via.refl eT F_m_kept_a (hb hby d6_35) ?_
  intro T X eT
  show Go p e below s _ _ T (mkF m 38 #[.val (.ref a), .val (.long q), .second, .val (.double x), .second, .val (.int i1), .val (.int i2), .val (.int (own_adm (2 : Int32) top q (Rk 0)))] [(.int (2 : Int32)), (.ref a), (.ref a)])
  refine Go.of (fun _ kq => XS.dupX1 X.here hx rfl (hb hby d6_38) rfl rfl rfl kq) ?_
  show Go p e below s _ _ T (mkF m 39 #[.val (.ref a), .val (.long q), .second, .val (.double x), .second, .val (.int i1), .val (.int i2), .val (.int (own_adm (2 : Int32) top q (Rk 0)))] [(.int (2 : Int32)), (.ref a), (.int (2 : Int32)), (.ref a)])
  refine Go.of (fun _ kq => XS.iconst X.here hx rfl (hb hby d6_39) kq) ?_
  show Go p e below s _ _ T (mkF m 40 #[.val (.ref a), .val (.long q), .second, .val (.double x), .second, .val (.int i1), .val (.int i2), .val (.int (own_adm (2 : Int32) top q (Rk 0)))] [(.int (1 : Int32)), (.int (2 : Int32)), (.ref a), (.int (2 : Int32)), (.ref a)])
  refine Go.of (fun _ kq => XS.iadd X.here hx rfl (hb hby d6_40) rfl kq) ?_
  show Go p e below s _ _ T (mkF m 41 #[.val (.ref a), .val (.long q), .second, .val (.double x), .second, .val (.int i1), .val (.int i2), .val (.int (own_adm (2 : Int32) top q (Rk 0)))] [(.int (3 : Int32)), (.ref a), (.int (2 : Int32)), (.ref a)])
  refine Go.putF X hx hZ hown (hw _ (List.mem_of_getElem? (i := 29) rfl)) Via.refl eT F_m_kept_a E_a (Or.inl (hw _ (List.mem_of_getElem? (i := 30) rfl))) (hw _ (List.mem_of_getElem? (i := 1) rfl)) (ty := .int) (by decide) rfl rfl (hb hby d6_41) ?_
  intro T h X eT wr
  have N := Fr.snoc X N g_a
  have K := K.wr wr (Or.inl (List.mem_of_getElem? (i := 0) rfl))
  have E_a := E_a.wr wr
  have F_m_top_a := F_m_top_a.other wr (Or.inr (slot_ne (Or.inr (hw _ (List.mem_of_getElem? (i := 10) rfl))) (Or.inl (hw _ (List.mem_of_getElem? (i := 30) rfl))) (by decide) (t := .int) (t' := .int) (by decide) (by decide)))
  have F_m_ranks_a := F_m_ranks_a.other wr (Or.inr (slot_ne (Or.inl (hw _ (List.mem_of_getElem? (i := 17) rfl))) (Or.inl (hw _ (List.mem_of_getElem? (i := 30) rfl))) (by decide) (t := (.array .long)) (t' := .int) (by decide) (by decide)))
  have F_m_scores_a := F_m_scores_a.other wr (Or.inr (slot_ne (Or.inl (hw _ (List.mem_of_getElem? (i := 20) rfl))) (Or.inl (hw _ (List.mem_of_getElem? (i := 30) rfl))) (by decide) (t := (.array .double)) (t' := .int) (by decide) (by decide)))
  have F_m_documents_a := F_m_documents_a.other wr (Or.inr (slot_ne (Or.inl (hw _ (List.mem_of_getElem? (i := 22) rfl))) (Or.inl (hw _ (List.mem_of_getElem? (i := 30) rfl))) (by decide) (t := (.array .long)) (t' := .int) (by decide) (by decide)))
  have F_m_kept_a := F_m_kept_a.same wr
  have F_m_total_a := F_m_total_a.other wr (Or.inr (slot_ne (Or.inl (hw _ (List.mem_of_getElem? (i := 42) rfl))) (Or.inl (hw _ (List.mem_of_getElem? (i := 30) rfl))) (by decide) (t := .long) (t' := .int) (by decide) (by decide)))
  have V_r := V_r.other wr (Ne.symm ne_a_r)
  have V_sc := V_sc.other wr (Ne.symm ne_a_sc)
  have V_d := V_d.other wr (Ne.symm ne_a_d)
  show Go p e below s _ _ T (mkF m 44 #[.val (.ref a), .val (.long q), .second, .val (.double x), .second, .val (.int i1), .val (.int i2), .val (.int (own_adm (2 : Int32) top q (Rk 0)))] [(.int (2 : Int32)), (.ref a)])
  have TT : TH Z h a r sc d top (3 : Int32) (tt + (1 : Int64)) cap Rk Sc Dc := ⟨F_m_top_a, F_m_ranks_a, F_m_scores_a, F_m_documents_a, F_m_kept_a, F_m_total_a, V_r, V_sc, V_d⟩
  refine Go.of (fun _ kq => XS.lloadN X.here hx rfl (hb hby d6_44) rfl kq) ?_
  show Go p e below s _ _ T (mkF m 45 #[.val (.ref a), .val (.long q), .second, .val (.double x), .second, .val (.int i1), .val (.int i2), .val (.int (own_adm (2 : Int32) top q (Rk 0)))] [(.long q), (.int (2 : Int32)), (.ref a)])
  refine Go.of (fun _ kq => XS.dloadN X.here hx rfl (hb hby d6_45) rfl kq) ?_
  show Go p e below s _ _ T (mkF m 46 #[.val (.ref a), .val (.long q), .second, .val (.double x), .second, .val (.int i1), .val (.int i2), .val (.int (own_adm (2 : Int32) top q (Rk 0)))] [(.double x), (.long q), (.int (2 : Int32)), (.ref a)])
  refine Go.of (fun _ kq => XS.iload X.here hx rfl (hb hby d6_46) rfl kq) ?_
  show Go p e below s _ _ T (mkF m 48 #[.val (.ref a), .val (.long q), .second, .val (.double x), .second, .val (.int i1), .val (.int i2), .val (.int (own_adm (2 : Int32) top q (Rk 0)))] [(.int i1), (.double x), (.long q), (.int (2 : Int32)), (.ref a)])
  refine Go.of (fun _ kq => XS.i2l X.here hx rfl (hb hby d6_48) rfl kq) ?_
  show Go p e below s _ _ T (mkF m 49 #[.val (.ref a), .val (.long q), .second, .val (.double x), .second, .val (.int i1), .val (.int i2), .val (.int (own_adm (2 : Int32) top q (Rk 0)))] [(.long (i1.toInt64)), (.double x), (.long q), (.int (2 : Int32)), (.ref a)])
  refine Go.of (fun _ kq => XS.bipush X.here hx rfl (hb hby d6_49) kq) ?_
  show Go p e below s _ _ T (mkF m 51 #[.val (.ref a), .val (.long q), .second, .val (.double x), .second, .val (.int i1), .val (.int i2), .val (.int (own_adm (2 : Int32) top q (Rk 0)))] [(.int (32 : Int32)), (.long (i1.toInt64)), (.double x), (.long q), (.int (2 : Int32)), (.ref a)])
  refine Go.of (fun _ kq => XS.lshl X.here hx rfl (hb hby d6_51) rfl kq) ?_
  show Go p e below s _ _ T (mkF m 52 #[.val (.ref a), .val (.long q), .second, .val (.double x), .second, .val (.int i1), .val (.int i2), .val (.int (own_adm (2 : Int32) top q (Rk 0)))] [(.long ((i1.toInt64) <<< ((32 : Int32) &&& 0x3f).toInt64)), (.double x), (.long q), (.int (2 : Int32)), (.ref a)])
  refine Go.of (fun _ kq => XS.iload X.here hx rfl (hb hby d6_52) rfl kq) ?_
  show Go p e below s _ _ T (mkF m 54 #[.val (.ref a), .val (.long q), .second, .val (.double x), .second, .val (.int i1), .val (.int i2), .val (.int (own_adm (2 : Int32) top q (Rk 0)))] [(.int i2), (.long ((i1.toInt64) <<< ((32 : Int32) &&& 0x3f).toInt64)), (.double x), (.long q), (.int (2 : Int32)), (.ref a)])
  refine Go.of (fun _ kq => XS.i2l X.here hx rfl (hb hby d6_54) rfl kq) ?_
  show Go p e below s _ _ T (mkF m 55 #[.val (.ref a), .val (.long q), .second, .val (.double x), .second, .val (.int i1), .val (.int i2), .val (.int (own_adm (2 : Int32) top q (Rk 0)))] [(.long (i2.toInt64)), (.long ((i1.toInt64) <<< ((32 : Int32) &&& 0x3f).toInt64)), (.double x), (.long q), (.int (2 : Int32)), (.ref a)])
  refine Go.of (fun _ kq => XS.lor X.here hx rfl (hb hby d6_55) rfl kq) ?_
  show Go p e below s _ _ T (mkF m 56 #[.val (.ref a), .val (.long q), .second, .val (.double x), .second, .val (.int i1), .val (.int i2), .val (.int (own_adm (2 : Int32) top q (Rk 0)))] [(.long (((i1.toInt64) <<< ((32 : Int32) &&& 0x3f).toInt64) ||| (i2.toInt64))), (.double x), (.long q), (.int (2 : Int32)), (.ref a)])
  refine Go.priv (a := a) X hx hZ hown (hw _ (List.mem_of_getElem? (i := 48) rfl)) (hw _ (List.mem_of_getElem? (i := 49) rfl)) (hw _ (List.mem_of_getElem? (i := 1) rfl)) (hw _ (List.mem_of_getElem? (i := 50) rfl)) (hw _ (List.mem_of_getElem? (i := 2) rfl)) (hw _ (List.mem_of_getElem? (i := 51) rfl)) (by decide) (rmUp2 hw q x (((i1.toInt64) <<< ((32 : Int32) &&& 0x3f).toInt64) ||| (i2.toInt64)) a r sc d top (3 : Int32) (tt + (1 : Int64)) cap Rk Sc Dc _ n0 g_a g_r g_sc g_d ne_a_r ne_a_sc ne_a_d ne_r_sc ne_r_d ne_sc_d h0_ hp_ E_a TT) eT E_a 0 (by decide) (by decide) (by decide) (by decide) (by rw [hml]; rfl) (argsL := [(.int (2 : Int32)), (.long q), (.double x), (.long (((i1.toInt64) <<< ((32 : Int32) &&& 0x3f).toInt64) ||| (i2.toInt64)))]) [] (lenOf pd2 rfl) rfl rfl (Nat.le_of_eq rfl) (hb hby d6_56) ?_
  intro v T L' X hQ
  obtain ⟨h, eT⟩ : ∃ z, T.heap = z := ⟨_, rfl⟩
  rw [eT] at hQ
  obtain ⟨rfl, N', K', R2, S2, D2, TT, hrel⟩ := hQ
  have N := Fr.app N N'
  have K := K.trans K' (own_all3 (Or.inl (List.mem_of_getElem? (i := 1) rfl)) (Or.inl (List.mem_of_getElem? (i := 2) rfl)) (Or.inl (List.mem_of_getElem? (i := 3) rfl)))
  have E_a := E_a.keep K'
  have F_m_top_a := F_m_top_a.keep K' (own_ni3 ne_a_r ne_a_sc ne_a_d)
  have F_m_ranks_a := F_m_ranks_a.keep K' (own_ni3 ne_a_r ne_a_sc ne_a_d)
  have F_m_scores_a := F_m_scores_a.keep K' (own_ni3 ne_a_r ne_a_sc ne_a_d)
  have F_m_documents_a := F_m_documents_a.keep K' (own_ni3 ne_a_r ne_a_sc ne_a_d)
  have F_m_kept_a := F_m_kept_a.keep K' (own_ni3 ne_a_r ne_a_sc ne_a_d)
  have F_m_total_a := F_m_total_a.keep K' (own_ni3 ne_a_r ne_a_sc ne_a_d)
  show Go p e below s _ _ T (mkF m 59 #[.val (.ref a), .val (.long q), .second, .val (.double x), .second, .val (.int i1), .val (.int i2), .val (.int (own_adm (2 : Int32) top q (Rk 0)))] [])
  refine Go.of (fun _ kq => XS.goto X.here hx rfl (pc0 := 59) (pc' := 83) rfl (hb hby d6_59) (by decide) (by decide) kq) ?_
  show Go p e below s _ _ T (mkF m 83 #[.val (.ref a), .val (.long q), .second, .val (.double x), .second, .val (.int i1), .val (.int i2), .val (.int (own_adm (2 : Int32) top q (Rk 0)))] [])
  refine Go.of (fun _ kq => XS.iload X.here hx rfl (hb hby d6_83) rfl kq) ?_
  show Go p e below s _ _ T (mkF m 85 #[.val (.ref a), .val (.long q), .second, .val (.double x), .second, .val (.int i1), .val (.int i2), .val (.int (own_adm (2 : Int32) top q (Rk 0)))] [(.int (own_adm (2 : Int32) top q (Rk 0)))])
  refine Go.retN X hx hret (by simp) hlk (hb hby d6_85) (by decide) (by decide) ?_
  try rw [eT]
  exact ⟨⟨_, rfl⟩, N, K, _, _, _, _, _, TT, rfl, hrel⟩
theorem ef_rmOffer_lt2 (m : MethodId) (x0 : Addr) (x1 : Int64) (x2 : Int32) (x3 : Int32) : entryFrame m #[(.ref x0), (.long x1), (.int x2), (.int x3)] 5 = mkF m 0 #[.val (.ref x0), .val (.long x1), .second, .val (.int x2), .val (.int x3)] [] := by first | (simp [entryFrame, mkF, argsToLocals, Value.category]; done) | rfl
set_option maxRecDepth 65536 in
set_option maxHeartbeats 40000000 in
theorem rmOffer_lt2 {l : Launch} {Z : State} {a0 : Array Value} (hw : ∀ d ∈ tables_1, d.before a0 Z = true) (q : Int64) (i1 i2 : Int32) (a r sc d : Addr) (top : Int32) (tt : Int64) (cap : Nat) (Rk : Nat → Int64) (Sc : Nat → UInt64) (Dc : Nat → Int64) (h0 : Heap) (n0 : Nat) (g_a : n0 ≤ a) (g_r : n0 ≤ r) (g_sc : n0 ≤ sc) (g_d : n0 ≤ d) (ne_a_r : a ≠ r) (ne_a_sc : a ≠ sc) (ne_a_d : a ≠ d) (ne_r_sc : r ≠ sc) (ne_r_d : r ≠ d) (ne_sc_d : sc ≠ d) (hlt : (2 : Int32) < top) (h0_ : 0 < cap) (hp_ : 2 < cap) (hne : ¬ (2 : Int32) = cap.toInt32) (E_a : Exa Z h0 a "org/segmentry/search/TopHits") (TT : TH Z h0 a r sc d top (2 : Int32) tt cap Rk Sc Dc) :
    Met l Z (⟨"org/segmentry/search/TopHits", "offer", "(JII)Z"⟩ : MethodName) prog_94_method_5_code 5 (some .boolean) [] ({ frames := 4, cells := 0, slots := 0, locals := 79 } : Room) #[(.ref a), (.long q), (.int i1), (.int i2)] h0 (fun v h L => (∃ b : Int32, v = some (.int b)) ∧ Fr n0 L ∧ Keep h0 h [a, r, sc, d] ∧ ∃ (k' : Int32) (tt' : Int64) (Rk' : Nat → Int64) (Sc' : Nat → UInt64) (Dc' : Nat → Int64), TH Z h a r sc d top k' tt' cap Rk' Sc' Dc' ∧ k' = 3 ∧ Rk' 0 = own_max (Rk 0) q) := by
  refine Met.mk pn5 ?_
  intro p e s m below meth c T hx hby hml hown hnm hret hlk hZ X eT
  refine Go.cast (ef_rmOffer_lt2 m a q i1 i2) ?_
  have N := Fr.nil n0
  have K := Keep.refl h0 [a, r, sc, d]
  show Go p e below s _ _ T (mkF m 0 #[.val (.ref a), .val (.long q), .second, .val (.int i1), .val (.int i2)] [])
  refine Go.of (fun _ kq => XS.aloadN X.here hx rfl (hb hby d5_0) rfl rfl kq) ?_
  show Go p e below s _ _ T (mkF m 1 #[.val (.ref a), .val (.long q), .second, .val (.int i1), .val (.int i2)] [(.ref a)])
  refine Go.of (fun _ kq => XS.lloadN X.here hx rfl (hb hby d5_1) rfl kq) ?_
  show Go p e below s _ _ T (mkF m 2 #[.val (.ref a), .val (.long q), .second, .val (.int i1), .val (.int i2)] [(.long q), (.ref a)])
  refine Go.of (X.ldc2DoubleC hx hown (mvT hZ (hw _ (List.mem_of_getElem? (i := 36) rfl))) (g := (mkF m 2 #[.val (.ref a), .val (.long q), .second, .val (.int i1), .val (.int i2)] [(.long q), (.ref a)])) rfl (hb hby d5_2)) ?_
  show Go p e below s _ _ T (mkF m 5 #[.val (.ref a), .val (.long q), .second, .val (.int i1), .val (.int i2)] [(.double (9221120237041090560 : UInt64)), (.long q), (.ref a)])
  refine Go.of (fun _ kq => XS.iloadN X.here hx rfl (hb hby d5_5) rfl kq) ?_
  show Go p e below s _ _ T (mkF m 6 #[.val (.ref a), .val (.long q), .second, .val (.int i1), .val (.int i2)] [(.int i1), (.double (9221120237041090560 : UInt64)), (.long q), (.ref a)])
  refine Go.of (fun _ kq => XS.iload X.here hx rfl (hb hby d5_6) rfl kq) ?_
  show Go p e below s _ _ T (mkF m 8 #[.val (.ref a), .val (.long q), .second, .val (.int i1), .val (.int i2)] [(.int i2), (.int i1), (.double (9221120237041090560 : UInt64)), (.long q), (.ref a)])
  refine Go.priv (a := a) X hx hZ hown (hw _ (List.mem_of_getElem? (i := 37) rfl)) (hw _ (List.mem_of_getElem? (i := 38) rfl)) (hw _ (List.mem_of_getElem? (i := 1) rfl)) (hw _ (List.mem_of_getElem? (i := 39) rfl)) (hw _ (List.mem_of_getElem? (i := 2) rfl)) (hw _ (List.mem_of_getElem? (i := 40) rfl)) (by decide) (rmKeep_lt2 hw q (9221120237041090560 : UInt64) i1 i2 a r sc d top tt cap Rk Sc Dc _ n0 g_a g_r g_sc g_d ne_a_r ne_a_sc ne_a_d ne_r_sc ne_r_d ne_sc_d hlt h0_ hp_ hne E_a TT) eT E_a 0 (by decide) (by decide) (by decide) (by decide) (by rw [hml]; rfl) (argsL := [(.long q), (.double (9221120237041090560 : UInt64)), (.int i1), (.int i2)]) [] (lenOf pd7 rfl) rfl rfl (Nat.le_of_eq rfl) (hb hby d5_8) ?_
  intro v T L' X hQ
  obtain ⟨h, eT⟩ : ∃ z, T.heap = z := ⟨_, rfl⟩
  rw [eT] at hQ
  obtain ⟨⟨bb, rfl⟩, N', K', RR⟩ := hQ
  have N := Fr.app N N'
  have K := K.trans K' (own_all4 (Or.inl (List.mem_of_getElem? (i := 0) rfl)) (Or.inl (List.mem_of_getElem? (i := 1) rfl)) (Or.inl (List.mem_of_getElem? (i := 2) rfl)) (Or.inl (List.mem_of_getElem? (i := 3) rfl)))
  have E_a := E_a.keep K'
  show Go p e below s _ _ T (mkF m 11 #[.val (.ref a), .val (.long q), .second, .val (.int i1), .val (.int i2)] [(.int bb)])
  refine Go.retN X hx hret (by simp) hlk (hb hby d5_11) (by decide) (by decide) ?_
  try rw [eT]
  exact ⟨⟨_, rfl⟩, N, K, RR⟩
theorem d6_62 : decode prog_94_method_7_code 62 = .ok (.iload 7, 2) := by decide +kernel
theorem d6_64 : decode prog_94_method_7_code 64 = .ok (.ifCond .eq 19, 3) := by decide +kernel
theorem ef_rmKeep_eq0 (m : MethodId) (x0 : Addr) (x1 : Int64) (x2 : UInt64) (x3 : Int32) (x4 : Int32) : entryFrame m #[(.ref x0), (.long x1), (.double x2), (.int x3), (.int x4)] 8 = mkF m 0 #[.val (.ref x0), .val (.long x1), .second, .val (.double x2), .second, .val (.int x3), .val (.int x4), .unset] [] := by first | (simp [entryFrame, mkF, argsToLocals, Value.category]; done) | rfl
set_option maxRecDepth 65536 in
set_option maxHeartbeats 40000000 in
theorem rmKeep_eq0 {l : Launch} {Z : State} {a0 : Array Value} (hw : ∀ d ∈ tables_1, d.before a0 Z = true) (q : Int64) (x : UInt64) (i1 i2 : Int32) (a r sc d : Addr) (tt : Int64) (cap : Nat) (Rk : Nat → Int64) (Sc : Nat → UInt64) (Dc : Nat → Int64) (h0 : Heap) (n0 : Nat) (g_a : n0 ≤ a) (g_r : n0 ≤ r) (g_sc : n0 ≤ sc) (g_d : n0 ≤ d) (ne_a_r : a ≠ r) (ne_a_sc : a ≠ sc) (ne_a_d : a ≠ d) (ne_r_sc : r ≠ sc) (ne_r_d : r ≠ d) (ne_sc_d : sc ≠ d)  (E_a : Exa Z h0 a "org/segmentry/search/TopHits") (TT : TH Z h0 a r sc d (0 : Int32) (0 : Int32) tt cap Rk Sc Dc) :
    Met l Z (⟨"org/segmentry/search/TopHits", "keep", "(JDII)Z"⟩ : MethodName) prog_94_method_7_code 8 (some .boolean) [] ({ frames := 3, cells := 0, slots := 0, locals := 60 } : Room) #[(.ref a), (.long q), (.double x), (.int i1), (.int i2)] h0 (fun v h L => (∃ b : Int32, v = some (.int b)) ∧ Fr n0 L ∧ Keep h0 h [a, r, sc, d] ∧ ∃ (k' : Int32) (tt' : Int64) (Rk' : Nat → Int64) (Sc' : Nat → UInt64) (Dc' : Nat → Int64), TH Z h a r sc d (0 : Int32) k' tt' cap Rk' Sc' Dc' ∧ k' = 0) := by
  refine Met.mk pn6 ?_
  intro p e s m below meth c T hx hby hml hown hnm hret hlk hZ X eT
  refine Go.cast (ef_rmKeep_eq0 m a q x i1 i2) ?_
  have N := Fr.nil n0
  have K := Keep.refl h0 [a, r, sc, d]
  obtain ⟨F_m_top_a, F_m_ranks_a, F_m_scores_a, F_m_documents_a, F_m_kept_a, F_m_total_a, V_r, V_sc, V_d⟩ := id TT
  show Go p e below s _ _ T (mkF m 0 #[.val (.ref a), .val (.long q), .second, .val (.double x), .second, .val (.int i1), .val (.int i2), .unset] [])
  refine Go.of (fun _ kq => XS.aloadN X.here hx rfl (hb hby d6_0) rfl rfl kq) ?_
  show Go p e below s _ _ T (mkF m 1 #[.val (.ref a), .val (.long q), .second, .val (.double x), .second, .val (.int i1), .val (.int i2), .unset] [(.ref a)])
  refine Go.of (fun _ kq => XS.dup X.here hx rfl (hb hby d6_1) rfl rfl kq) ?_
  show Go p e below s _ _ T (mkF m 2 #[.val (.ref a), .val (.long q), .second, .val (.double x), .second, .val (.int i1), .val (.int i2), .unset] [(.ref a), (.ref a)])
  refine Go.getF X hx hZ hown (hw _ (List.mem_of_getElem? (i := 41) rfl)) Via.refl eT F_m_total_a (hb hby d6_2) ?_
  intro T X eT
  show Go p e below s _ _ T (mkF m 5 #[.val (.ref a), .val (.long q), .second, .val (.double x), .second, .val (.int i1), .val (.int i2), .unset] [(.long tt), (.ref a)])
  refine Go.of (fun _ kq => XS.lconst X.here hx rfl (hb hby d6_5) kq) ?_
  show Go p e below s _ _ T (mkF m 6 #[.val (.ref a), .val (.long q), .second, .val (.double x), .second, .val (.int i1), .val (.int i2), .unset] [(.long (1 : Int64)), (.long tt), (.ref a)])
  refine Go.of (fun _ kq => XS.ladd X.here hx rfl (hb hby d6_6) rfl kq) ?_
  show Go p e below s _ _ T (mkF m 7 #[.val (.ref a), .val (.long q), .second, .val (.double x), .second, .val (.int i1), .val (.int i2), .unset] [(.long (tt + (1 : Int64))), (.ref a)])
  refine Go.putF X hx hZ hown (hw _ (List.mem_of_getElem? (i := 41) rfl)) Via.refl eT F_m_total_a E_a (Or.inl (hw _ (List.mem_of_getElem? (i := 42) rfl))) (hw _ (List.mem_of_getElem? (i := 1) rfl)) (ty := .long) (by decide) rfl rfl (hb hby d6_7) ?_
  intro T h X eT wr
  have N := Fr.snoc X N g_a
  have K := K.wr wr (Or.inl (List.mem_of_getElem? (i := 0) rfl))
  have E_a := E_a.wr wr
  have F_m_top_a := F_m_top_a.other wr (Or.inr (slot_ne (Or.inr (hw _ (List.mem_of_getElem? (i := 10) rfl))) (Or.inl (hw _ (List.mem_of_getElem? (i := 42) rfl))) (by decide) (t := .int) (t' := .long) (by decide) (by decide)))
  have F_m_ranks_a := F_m_ranks_a.other wr (Or.inr (slot_ne (Or.inl (hw _ (List.mem_of_getElem? (i := 17) rfl))) (Or.inl (hw _ (List.mem_of_getElem? (i := 42) rfl))) (by decide) (t := (.array .long)) (t' := .long) (by decide) (by decide)))
  have F_m_scores_a := F_m_scores_a.other wr (Or.inr (slot_ne (Or.inl (hw _ (List.mem_of_getElem? (i := 20) rfl))) (Or.inl (hw _ (List.mem_of_getElem? (i := 42) rfl))) (by decide) (t := (.array .double)) (t' := .long) (by decide) (by decide)))
  have F_m_documents_a := F_m_documents_a.other wr (Or.inr (slot_ne (Or.inl (hw _ (List.mem_of_getElem? (i := 22) rfl))) (Or.inl (hw _ (List.mem_of_getElem? (i := 42) rfl))) (by decide) (t := (.array .long)) (t' := .long) (by decide) (by decide)))
  have F_m_kept_a := F_m_kept_a.other wr (Or.inr (slot_ne (Or.inl (hw _ (List.mem_of_getElem? (i := 30) rfl))) (Or.inl (hw _ (List.mem_of_getElem? (i := 42) rfl))) (by decide) (t := .int) (t' := .long) (by decide) (by decide)))
  have F_m_total_a := F_m_total_a.same wr
  have V_r := V_r.other wr (Ne.symm ne_a_r)
  have V_sc := V_sc.other wr (Ne.symm ne_a_sc)
  have V_d := V_d.other wr (Ne.symm ne_a_d)
  show Go p e below s _ _ T (mkF m 10 #[.val (.ref a), .val (.long q), .second, .val (.double x), .second, .val (.int i1), .val (.int i2), .unset] [])
  have TT : TH Z h a r sc d (0 : Int32) (0 : Int32) (tt + (1 : Int64)) cap Rk Sc Dc := ⟨F_m_top_a, F_m_ranks_a, F_m_scores_a, F_m_documents_a, F_m_kept_a, F_m_total_a, V_r, V_sc, V_d⟩
  refine Go.of (fun _ kq => XS.aloadN X.here hx rfl (hb hby d6_10) rfl rfl kq) ?_
  show Go p e below s _ _ T (mkF m 11 #[.val (.ref a), .val (.long q), .second, .val (.double x), .second, .val (.int i1), .val (.int i2), .unset] [(.ref a)])
  refine Go.of (fun _ kq => XS.lloadN X.here hx rfl (hb hby d6_11) rfl kq) ?_
  show Go p e below s _ _ T (mkF m 12 #[.val (.ref a), .val (.long q), .second, .val (.double x), .second, .val (.int i1), .val (.int i2), .unset] [(.long q), (.ref a)])
  refine Go.virtual (a := a) X hx hZ hown (hw _ (List.mem_of_getElem? (i := 43) rfl)) (hw _ (List.mem_of_getElem? (i := 25) rfl)) (notFace_of_selects (args := #[]) (mvT hZ (hw _ (List.mem_of_getElem? (i := 27) rfl)))) (hw _ (List.mem_of_getElem? (i := 27) rfl)) (hw _ (List.mem_of_getElem? (i := 26) rfl)) (hw _ (List.mem_of_getElem? (i := 2) rfl)) (hw _ (List.mem_of_getElem? (i := 28) rfl)) (by decide) (rmAdm hw q (Rk 0) a r sc d (0 : Int32) (0 : Int32) (tt + (1 : Int64)) cap Rk Sc Dc _ n0 TT (fun _ q => absurd q (by decide)) rfl) eT E_a 0 (by decide) (by decide) (by decide) (by decide) (by rw [hml]; rfl) (argsL := [(.long q)]) [] (lenOf pd5 rfl) rfl rfl (Nat.le_of_eq rfl) (hb hby d6_12) ?_
  intro v T L' X hQ
  obtain ⟨rfl, N', eT⟩ := hQ
  have N := Fr.app N N'
  show Go p e below s _ _ T (mkF m 15 #[.val (.ref a), .val (.long q), .second, .val (.double x), .second, .val (.int i1), .val (.int i2), .unset] [(.int (own_adm (0 : Int32) (0 : Int32) q (Rk 0)))])
  refine Go.of (fun _ kq => XS.istore X.here hx rfl (hb hby d6_15) rfl (l' := #[.val (.ref a), .val (.long q), .second, .val (.double x), .second, .val (.int i1), .val (.int i2), .val (.int (own_adm (0 : Int32) (0 : Int32) q (Rk 0)))]) rfl kq) ?_
  show Go p e below s _ _ T (mkF m 17 #[.val (.ref a), .val (.long q), .second, .val (.double x), .second, .val (.int i1), .val (.int i2), .val (.int (own_adm (0 : Int32) (0 : Int32) q (Rk 0)))] [])
  refine Go.of (fun _ kq => XS.aloadN X.here hx rfl (hb hby d6_17) rfl rfl kq) ?_
  show Go p e below s _ _ T (mkF m 18 #[.val (.ref a), .val (.long q), .second, .val (.double x), .second, .val (.int i1), .val (.int i2), .val (.int (own_adm (0 : Int32) (0 : Int32) q (Rk 0)))] [(.ref a)])
  refine Go.getF X hx hZ hown (hw _ (List.mem_of_getElem? (i := 29) rfl)) Via.refl eT F_m_kept_a (hb hby d6_18) ?_
  intro T X eT
  show Go p e below s _ _ T (mkF m 21 #[.val (.ref a), .val (.long q), .second, .val (.double x), .second, .val (.int i1), .val (.int i2), .val (.int (own_adm (0 : Int32) (0 : Int32) q (Rk 0)))] [(.int (0 : Int32))])
  refine Go.of (fun _ kq => XS.aloadN X.here hx rfl (hb hby d6_21) rfl rfl kq) ?_
  show Go p e below s _ _ T (mkF m 22 #[.val (.ref a), .val (.long q), .second, .val (.double x), .second, .val (.int i1), .val (.int i2), .val (.int (own_adm (0 : Int32) (0 : Int32) q (Rk 0)))] [(.ref a), (.int (0 : Int32))])
  refine Go.getF X hx hZ hown (hw _ (List.mem_of_getElem? (i := 9) rfl)) Via.refl eT F_m_top_a (hb hby d6_22) ?_
  intro T X eT
  show Go p e below s _ _ T (mkF m 25 #[.val (.ref a), .val (.long q), .second, .val (.double x), .second, .val (.int i1), .val (.int i2), .val (.int (own_adm (0 : Int32) (0 : Int32) q (Rk 0)))] [(.int (0 : Int32)), (.int (0 : Int32))])
  refine Go.of (fun _ kq => XS.icmpYes X.here hx rfl (pc0 := 25) (pc' := 62) rfl (hb hby d6_25) rfl (flt (by decide)).2.1 (by decide) (by decide) kq) ?_
  show Go p e below s _ _ T (mkF m 62 #[.val (.ref a), .val (.long q), .second, .val (.double x), .second, .val (.int i1), .val (.int i2), .val (.int (own_adm (0 : Int32) (0 : Int32) q (Rk 0)))] [])
  refine Go.of (fun _ kq => XS.iload X.here hx rfl (hb hby d6_62) rfl kq) ?_
  show Go p e below s _ _ T (mkF m 64 #[.val (.ref a), .val (.long q), .second, .val (.double x), .second, .val (.int i1), .val (.int i2), .val (.int (own_adm (0 : Int32) (0 : Int32) q (Rk 0)))] [(.int (own_adm (0 : Int32) (0 : Int32) q (Rk 0)))])
  refine Go.of (fun _ kq => XS.ifYes X.here hx rfl (pc0 := 64) (pc' := 83) rfl (hb hby d6_64) rfl ((if0 _ _).trans (teq (by unfold own_adm; rw [if_neg (by decide), if_neg (by decide)])).1) (by decide) (by decide) kq) ?_
  show Go p e below s _ _ T (mkF m 83 #[.val (.ref a), .val (.long q), .second, .val (.double x), .second, .val (.int i1), .val (.int i2), .val (.int (own_adm (0 : Int32) (0 : Int32) q (Rk 0)))] [])
  refine Go.of (fun _ kq => XS.iload X.here hx rfl (hb hby d6_83) rfl kq) ?_
  show Go p e below s _ _ T (mkF m 85 #[.val (.ref a), .val (.long q), .second, .val (.double x), .second, .val (.int i1), .val (.int i2), .val (.int (own_adm (0 : Int32) (0 : Int32) q (Rk 0)))] [(.int (own_adm (0 : Int32) (0 : Int32) q (Rk 0)))])
  refine Go.retN X hx hret (by simp) hlk (hb hby d6_85) (by decide) (by decide) ?_
  try rw [eT]
  exact ⟨⟨_, rfl⟩, N, K, _, _, _, _, _, TT, rfl⟩
theorem ef_rmOffer_eq0 (m : MethodId) (x0 : Addr) (x1 : Int64) (x2 : Int32) (x3 : Int32) : entryFrame m #[(.ref x0), (.long x1), (.int x2), (.int x3)] 5 = mkF m 0 #[.val (.ref x0), .val (.long x1), .second, .val (.int x2), .val (.int x3)] [] := by first | (simp [entryFrame, mkF, argsToLocals, Value.category]; done) | rfl
set_option maxRecDepth 65536 in
set_option maxHeartbeats 40000000 in
theorem rmOffer_eq0 {l : Launch} {Z : State} {a0 : Array Value} (hw : ∀ d ∈ tables_1, d.before a0 Z = true) (q : Int64) (i1 i2 : Int32) (a r sc d : Addr) (tt : Int64) (cap : Nat) (Rk : Nat → Int64) (Sc : Nat → UInt64) (Dc : Nat → Int64) (h0 : Heap) (n0 : Nat) (g_a : n0 ≤ a) (g_r : n0 ≤ r) (g_sc : n0 ≤ sc) (g_d : n0 ≤ d) (ne_a_r : a ≠ r) (ne_a_sc : a ≠ sc) (ne_a_d : a ≠ d) (ne_r_sc : r ≠ sc) (ne_r_d : r ≠ d) (ne_sc_d : sc ≠ d)  (E_a : Exa Z h0 a "org/segmentry/search/TopHits") (TT : TH Z h0 a r sc d (0 : Int32) (0 : Int32) tt cap Rk Sc Dc) :
    Met l Z (⟨"org/segmentry/search/TopHits", "offer", "(JII)Z"⟩ : MethodName) prog_94_method_5_code 5 (some .boolean) [] ({ frames := 4, cells := 0, slots := 0, locals := 79 } : Room) #[(.ref a), (.long q), (.int i1), (.int i2)] h0 (fun v h L => (∃ b : Int32, v = some (.int b)) ∧ Fr n0 L ∧ Keep h0 h [a, r, sc, d] ∧ ∃ (k' : Int32) (tt' : Int64) (Rk' : Nat → Int64) (Sc' : Nat → UInt64) (Dc' : Nat → Int64), TH Z h a r sc d (0 : Int32) k' tt' cap Rk' Sc' Dc' ∧ k' = 0) := by
  refine Met.mk pn5 ?_
  intro p e s m below meth c T hx hby hml hown hnm hret hlk hZ X eT
  refine Go.cast (ef_rmOffer_eq0 m a q i1 i2) ?_
  have N := Fr.nil n0
  have K := Keep.refl h0 [a, r, sc, d]
  show Go p e below s _ _ T (mkF m 0 #[.val (.ref a), .val (.long q), .second, .val (.int i1), .val (.int i2)] [])
  refine Go.of (fun _ kq => XS.aloadN X.here hx rfl (hb hby d5_0) rfl rfl kq) ?_
  show Go p e below s _ _ T (mkF m 1 #[.val (.ref a), .val (.long q), .second, .val (.int i1), .val (.int i2)] [(.ref a)])
  refine Go.of (fun _ kq => XS.lloadN X.here hx rfl (hb hby d5_1) rfl kq) ?_
  show Go p e below s _ _ T (mkF m 2 #[.val (.ref a), .val (.long q), .second, .val (.int i1), .val (.int i2)] [(.long q), (.ref a)])
  refine Go.of (X.ldc2DoubleC hx hown (mvT hZ (hw _ (List.mem_of_getElem? (i := 36) rfl))) (g := (mkF m 2 #[.val (.ref a), .val (.long q), .second, .val (.int i1), .val (.int i2)] [(.long q), (.ref a)])) rfl (hb hby d5_2)) ?_
  show Go p e below s _ _ T (mkF m 5 #[.val (.ref a), .val (.long q), .second, .val (.int i1), .val (.int i2)] [(.double (9221120237041090560 : UInt64)), (.long q), (.ref a)])
  refine Go.of (fun _ kq => XS.iloadN X.here hx rfl (hb hby d5_5) rfl kq) ?_
  show Go p e below s _ _ T (mkF m 6 #[.val (.ref a), .val (.long q), .second, .val (.int i1), .val (.int i2)] [(.int i1), (.double (9221120237041090560 : UInt64)), (.long q), (.ref a)])
  refine Go.of (fun _ kq => XS.iload X.here hx rfl (hb hby d5_6) rfl kq) ?_
  show Go p e below s _ _ T (mkF m 8 #[.val (.ref a), .val (.long q), .second, .val (.int i1), .val (.int i2)] [(.int i2), (.int i1), (.double (9221120237041090560 : UInt64)), (.long q), (.ref a)])
  refine Go.priv (a := a) X hx hZ hown (hw _ (List.mem_of_getElem? (i := 37) rfl)) (hw _ (List.mem_of_getElem? (i := 38) rfl)) (hw _ (List.mem_of_getElem? (i := 1) rfl)) (hw _ (List.mem_of_getElem? (i := 39) rfl)) (hw _ (List.mem_of_getElem? (i := 2) rfl)) (hw _ (List.mem_of_getElem? (i := 40) rfl)) (by decide) (rmKeep_eq0 hw q (9221120237041090560 : UInt64) i1 i2 a r sc d tt cap Rk Sc Dc _ n0 g_a g_r g_sc g_d ne_a_r ne_a_sc ne_a_d ne_r_sc ne_r_d ne_sc_d  E_a TT) eT E_a 0 (by decide) (by decide) (by decide) (by decide) (by rw [hml]; rfl) (argsL := [(.long q), (.double (9221120237041090560 : UInt64)), (.int i1), (.int i2)]) [] (lenOf pd7 rfl) rfl rfl (Nat.le_of_eq rfl) (hb hby d5_8) ?_
  intro v T L' X hQ
  obtain ⟨h, eT⟩ : ∃ z, T.heap = z := ⟨_, rfl⟩
  rw [eT] at hQ
  obtain ⟨⟨bb, rfl⟩, N', K', RR⟩ := hQ
  have N := Fr.app N N'
  have K := K.trans K' (own_all4 (Or.inl (List.mem_of_getElem? (i := 0) rfl)) (Or.inl (List.mem_of_getElem? (i := 1) rfl)) (Or.inl (List.mem_of_getElem? (i := 2) rfl)) (Or.inl (List.mem_of_getElem? (i := 3) rfl)))
  have E_a := E_a.keep K'
  show Go p e below s _ _ T (mkF m 11 #[.val (.ref a), .val (.long q), .second, .val (.int i1), .val (.int i2)] [(.int bb)])
  refine Go.retN X hx hret (by simp) hlk (hb hby d5_11) (by decide) (by decide) ?_
  try rw [eT]
  exact ⟨⟨_, rfl⟩, N, K, RR⟩
theorem d6_67 : decode prog_94_method_7_code 67 = .ok (.aload_n 0, 1) := by decide +kernel
theorem d6_68 : decode prog_94_method_7_code 68 = .ok (.lload_n 1, 1) := by decide +kernel
theorem d6_69 : decode prog_94_method_7_code 69 = .ok (.dload_n 3, 1) := by decide +kernel
theorem d6_70 : decode prog_94_method_7_code 70 = .ok (.iload 5, 2) := by decide +kernel
theorem d6_72 : decode prog_94_method_7_code 72 = .ok (.i2l, 1) := by decide +kernel
theorem d6_73 : decode prog_94_method_7_code 73 = .ok (.bipush 32, 2) := by decide +kernel
theorem d6_75 : decode prog_94_method_7_code 75 = .ok (.lshl, 1) := by decide +kernel
theorem d6_76 : decode prog_94_method_7_code 76 = .ok (.iload 6, 2) := by decide +kernel
theorem d6_78 : decode prog_94_method_7_code 78 = .ok (.i2l, 1) := by decide +kernel
theorem d6_79 : decode prog_94_method_7_code 79 = .ok (.lor, 1) := by decide +kernel
theorem d6_80 : decode prog_94_method_7_code 80 = .ok (.invokevirtual 90, 3) := by decide +kernel
theorem ef_rmKeep_eq1 (m : MethodId) (x0 : Addr) (x1 : Int64) (x2 : UInt64) (x3 : Int32) (x4 : Int32) : entryFrame m #[(.ref x0), (.long x1), (.double x2), (.int x3), (.int x4)] 8 = mkF m 0 #[.val (.ref x0), .val (.long x1), .second, .val (.double x2), .second, .val (.int x3), .val (.int x4), .unset] [] := by first | (simp [entryFrame, mkF, argsToLocals, Value.category]; done) | rfl
set_option maxRecDepth 65536 in
set_option maxHeartbeats 40000000 in
theorem rmKeep_eq1 {l : Launch} {Z : State} {a0 : Array Value} (hw : ∀ d ∈ tables_1, d.before a0 Z = true) (q : Int64) (x : UInt64) (i1 i2 : Int32) (a r sc d : Addr) (tt : Int64) (cap : Nat) (Rk : Nat → Int64) (Sc : Nat → UInt64) (Dc : Nat → Int64) (h0 : Heap) (n0 : Nat) (g_a : n0 ≤ a) (g_r : n0 ≤ r) (g_sc : n0 ≤ sc) (g_d : n0 ≤ d) (ne_a_r : a ≠ r) (ne_a_sc : a ≠ sc) (ne_a_d : a ≠ d) (ne_r_sc : r ≠ sc) (ne_r_d : r ≠ d) (ne_sc_d : sc ≠ d) (h0_ : 0 < cap) (E_a : Exa Z h0 a "org/segmentry/search/TopHits") (TT : TH Z h0 a r sc d (1 : Int32) (1 : Int32) tt cap Rk Sc Dc) :
    Met l Z (⟨"org/segmentry/search/TopHits", "keep", "(JDII)Z"⟩ : MethodName) prog_94_method_7_code 8 (some .boolean) [] ({ frames := 3, cells := 0, slots := 0, locals := 60 } : Room) #[(.ref a), (.long q), (.double x), (.int i1), (.int i2)] h0 (fun v h L => (∃ b : Int32, v = some (.int b)) ∧ Fr n0 L ∧ Keep h0 h [a, r, sc, d] ∧ ∃ (k' : Int32) (tt' : Int64) (Rk' : Nat → Int64) (Sc' : Nat → UInt64) (Dc' : Nat → Int64), TH Z h a r sc d (1 : Int32) k' tt' cap Rk' Sc' Dc' ∧ k' = 1 ∧ Rk' 0 = own_min (Rk 0) q) := by
  refine Met.mk pn6 ?_
  intro p e s m below meth c T hx hby hml hown hnm hret hlk hZ X eT
  refine Go.cast (ef_rmKeep_eq1 m a q x i1 i2) ?_
  have N := Fr.nil n0
  have K := Keep.refl h0 [a, r, sc, d]
  obtain ⟨F_m_top_a, F_m_ranks_a, F_m_scores_a, F_m_documents_a, F_m_kept_a, F_m_total_a, V_r, V_sc, V_d⟩ := id TT
  show Go p e below s _ _ T (mkF m 0 #[.val (.ref a), .val (.long q), .second, .val (.double x), .second, .val (.int i1), .val (.int i2), .unset] [])
  refine Go.of (fun _ kq => XS.aloadN X.here hx rfl (hb hby d6_0) rfl rfl kq) ?_
  show Go p e below s _ _ T (mkF m 1 #[.val (.ref a), .val (.long q), .second, .val (.double x), .second, .val (.int i1), .val (.int i2), .unset] [(.ref a)])
  refine Go.of (fun _ kq => XS.dup X.here hx rfl (hb hby d6_1) rfl rfl kq) ?_
  show Go p e below s _ _ T (mkF m 2 #[.val (.ref a), .val (.long q), .second, .val (.double x), .second, .val (.int i1), .val (.int i2), .unset] [(.ref a), (.ref a)])
  refine Go.getF X hx hZ hown (hw _ (List.mem_of_getElem? (i := 41) rfl)) Via.refl eT F_m_total_a (hb hby d6_2) ?_
  intro T X eT
  show Go p e below s _ _ T (mkF m 5 #[.val (.ref a), .val (.long q), .second, .val (.double x), .second, .val (.int i1), .val (.int i2), .unset] [(.long tt), (.ref a)])
  refine Go.of (fun _ kq => XS.lconst X.here hx rfl (hb hby d6_5) kq) ?_
  show Go p e below s _ _ T (mkF m 6 #[.val (.ref a), .val (.long q), .second, .val (.double x), .second, .val (.int i1), .val (.int i2), .unset] [(.long (1 : Int64)), (.long tt), (.ref a)])
  refine Go.of (fun _ kq => XS.ladd X.here hx rfl (hb hby d6_6) rfl kq) ?_
  show Go p e below s _ _ T (mkF m 7 #[.val (.ref a), .val (.long q), .second, .val (.double x), .second, .val (.int i1), .val (.int i2), .unset] [(.long (tt + (1 : Int64))), (.ref a)])
  refine Go.putF X hx hZ hown (hw _ (List.mem_of_getElem? (i := 41) rfl)) Via.refl eT F_m_total_a E_a (Or.inl (hw _ (List.mem_of_getElem? (i := 42) rfl))) (hw _ (List.mem_of_getElem? (i := 1) rfl)) (ty := .long) (by decide) rfl rfl (hb hby d6_7) ?_
  intro T h X eT wr
  have N := Fr.snoc X N g_a
  have K := K.wr wr (Or.inl (List.mem_of_getElem? (i := 0) rfl))
  have E_a := E_a.wr wr
  have F_m_top_a := F_m_top_a.other wr (Or.inr (slot_ne (Or.inr (hw _ (List.mem_of_getElem? (i := 10) rfl))) (Or.inl (hw _ (List.mem_of_getElem? (i := 42) rfl))) (by decide) (t := .int) (t' := .long) (by decide) (by decide)))
  have F_m_ranks_a := F_m_ranks_a.other wr (Or.inr (slot_ne (Or.inl (hw _ (List.mem_of_getElem? (i := 17) rfl))) (Or.inl (hw _ (List.mem_of_getElem? (i := 42) rfl))) (by decide) (t := (.array .long)) (t' := .long) (by decide) (by decide)))
  have F_m_scores_a := F_m_scores_a.other wr (Or.inr (slot_ne (Or.inl (hw _ (List.mem_of_getElem? (i := 20) rfl))) (Or.inl (hw _ (List.mem_of_getElem? (i := 42) rfl))) (by decide) (t := (.array .double)) (t' := .long) (by decide) (by decide)))
  have F_m_documents_a := F_m_documents_a.other wr (Or.inr (slot_ne (Or.inl (hw _ (List.mem_of_getElem? (i := 22) rfl))) (Or.inl (hw _ (List.mem_of_getElem? (i := 42) rfl))) (by decide) (t := (.array .long)) (t' := .long) (by decide) (by decide)))
  have F_m_kept_a := F_m_kept_a.other wr (Or.inr (slot_ne (Or.inl (hw _ (List.mem_of_getElem? (i := 30) rfl))) (Or.inl (hw _ (List.mem_of_getElem? (i := 42) rfl))) (by decide) (t := .int) (t' := .long) (by decide) (by decide)))
  have F_m_total_a := F_m_total_a.same wr
  have V_r := V_r.other wr (Ne.symm ne_a_r)
  have V_sc := V_sc.other wr (Ne.symm ne_a_sc)
  have V_d := V_d.other wr (Ne.symm ne_a_d)
  show Go p e below s _ _ T (mkF m 10 #[.val (.ref a), .val (.long q), .second, .val (.double x), .second, .val (.int i1), .val (.int i2), .unset] [])
  have TT : TH Z h a r sc d (1 : Int32) (1 : Int32) (tt + (1 : Int64)) cap Rk Sc Dc := ⟨F_m_top_a, F_m_ranks_a, F_m_scores_a, F_m_documents_a, F_m_kept_a, F_m_total_a, V_r, V_sc, V_d⟩
  refine Go.of (fun _ kq => XS.aloadN X.here hx rfl (hb hby d6_10) rfl rfl kq) ?_
  show Go p e below s _ _ T (mkF m 11 #[.val (.ref a), .val (.long q), .second, .val (.double x), .second, .val (.int i1), .val (.int i2), .unset] [(.ref a)])
  refine Go.of (fun _ kq => XS.lloadN X.here hx rfl (hb hby d6_11) rfl kq) ?_
  show Go p e below s _ _ T (mkF m 12 #[.val (.ref a), .val (.long q), .second, .val (.double x), .second, .val (.int i1), .val (.int i2), .unset] [(.long q), (.ref a)])
  refine Go.virtual (a := a) X hx hZ hown (hw _ (List.mem_of_getElem? (i := 43) rfl)) (hw _ (List.mem_of_getElem? (i := 25) rfl)) (notFace_of_selects (args := #[]) (mvT hZ (hw _ (List.mem_of_getElem? (i := 27) rfl)))) (hw _ (List.mem_of_getElem? (i := 27) rfl)) (hw _ (List.mem_of_getElem? (i := 26) rfl)) (hw _ (List.mem_of_getElem? (i := 2) rfl)) (hw _ (List.mem_of_getElem? (i := 28) rfl)) (by decide) (rmAdm hw q (Rk 0) a r sc d (1 : Int32) (1 : Int32) (tt + (1 : Int64)) cap Rk Sc Dc _ n0 TT (fun _ _ => h0_) rfl) eT E_a 0 (by decide) (by decide) (by decide) (by decide) (by rw [hml]; rfl) (argsL := [(.long q)]) [] (lenOf pd5 rfl) rfl rfl (Nat.le_of_eq rfl) (hb hby d6_12) ?_
  intro v T L' X hQ
  obtain ⟨rfl, N', eT⟩ := hQ
  have N := Fr.app N N'
  show Go p e below s _ _ T (mkF m 15 #[.val (.ref a), .val (.long q), .second, .val (.double x), .second, .val (.int i1), .val (.int i2), .unset] [(.int (own_adm (1 : Int32) (1 : Int32) q (Rk 0)))])
  refine Go.of (fun _ kq => XS.istore X.here hx rfl (hb hby d6_15) rfl (l' := #[.val (.ref a), .val (.long q), .second, .val (.double x), .second, .val (.int i1), .val (.int i2), .val (.int (own_adm (1 : Int32) (1 : Int32) q (Rk 0)))]) rfl kq) ?_
  show Go p e below s _ _ T (mkF m 17 #[.val (.ref a), .val (.long q), .second, .val (.double x), .second, .val (.int i1), .val (.int i2), .val (.int (own_adm (1 : Int32) (1 : Int32) q (Rk 0)))] [])
  refine Go.of (fun _ kq => XS.aloadN X.here hx rfl (hb hby d6_17) rfl rfl kq) ?_
  show Go p e below s _ _ T (mkF m 18 #[.val (.ref a), .val (.long q), .second, .val (.double x), .second, .val (.int i1), .val (.int i2), .val (.int (own_adm (1 : Int32) (1 : Int32) q (Rk 0)))] [(.ref a)])
  refine Go.getF X hx hZ hown (hw _ (List.mem_of_getElem? (i := 29) rfl)) Via.refl eT F_m_kept_a (hb hby d6_18) ?_
  intro T X eT
  show Go p e below s _ _ T (mkF m 21 #[.val (.ref a), .val (.long q), .second, .val (.double x), .second, .val (.int i1), .val (.int i2), .val (.int (own_adm (1 : Int32) (1 : Int32) q (Rk 0)))] [(.int (1 : Int32))])
  refine Go.of (fun _ kq => XS.aloadN X.here hx rfl (hb hby d6_21) rfl rfl kq) ?_
  show Go p e below s _ _ T (mkF m 22 #[.val (.ref a), .val (.long q), .second, .val (.double x), .second, .val (.int i1), .val (.int i2), .val (.int (own_adm (1 : Int32) (1 : Int32) q (Rk 0)))] [(.ref a), (.int (1 : Int32))])
  refine Go.getF X hx hZ hown (hw _ (List.mem_of_getElem? (i := 9) rfl)) Via.refl eT F_m_top_a (hb hby d6_22) ?_
  intro T X eT
  show Go p e below s _ _ T (mkF m 25 #[.val (.ref a), .val (.long q), .second, .val (.double x), .second, .val (.int i1), .val (.int i2), .val (.int (own_adm (1 : Int32) (1 : Int32) q (Rk 0)))] [(.int (1 : Int32)), (.int (1 : Int32))])
  refine Go.of (fun _ kq => XS.icmpYes X.here hx rfl (pc0 := 25) (pc' := 62) rfl (hb hby d6_25) rfl (flt (by decide)).2.1 (by decide) (by decide) kq) ?_
  show Go p e below s _ _ T (mkF m 62 #[.val (.ref a), .val (.long q), .second, .val (.double x), .second, .val (.int i1), .val (.int i2), .val (.int (own_adm (1 : Int32) (1 : Int32) q (Rk 0)))] [])
  refine Go.of (fun _ kq => XS.iload X.here hx rfl (hb hby d6_62) rfl kq) ?_
  show Go p e below s _ _ T (mkF m 64 #[.val (.ref a), .val (.long q), .second, .val (.double x), .second, .val (.int i1), .val (.int i2), .val (.int (own_adm (1 : Int32) (1 : Int32) q (Rk 0)))] [(.int (own_adm (1 : Int32) (1 : Int32) q (Rk 0)))])
  by_cases hc64 : (own_adm (1 : Int32) (1 : Int32) q (Rk 0)) = (0 : Int32)
  · refine Go.of (fun _ kq => XS.ifYes X.here hx rfl (pc0 := 64) (pc' := 83) rfl (hb hby d6_64) rfl ((if0 _ _).trans (teq hc64).1) (by decide) (by decide) kq) ?_
    show Go p e below s _ _ T (mkF m 83 #[.val (.ref a), .val (.long q), .second, .val (.double x), .second, .val (.int i1), .val (.int i2), .val (.int (own_adm (1 : Int32) (1 : Int32) q (Rk 0)))] [])
    refine Go.of (fun _ kq => XS.iload X.here hx rfl (hb hby d6_83) rfl kq) ?_
    show Go p e below s _ _ T (mkF m 85 #[.val (.ref a), .val (.long q), .second, .val (.double x), .second, .val (.int i1), .val (.int i2), .val (.int (own_adm (1 : Int32) (1 : Int32) q (Rk 0)))] [(.int (own_adm (1 : Int32) (1 : Int32) q (Rk 0)))])
    refine Go.retN X hx hret (by simp) hlk (hb hby d6_85) (by decide) (by decide) ?_
    try rw [eT]
    exact ⟨⟨_, rfl⟩, N, K, _, _, _, _, _, TT, rfl, own_k0 hc64⟩
  · refine Go.of (fun _ kq => XS.ifNo X.here hx rfl (hb hby d6_64) rfl ((if0 _ _).trans (feq hc64).1) kq) ?_
    show Go p e below s _ _ T (mkF m 67 #[.val (.ref a), .val (.long q), .second, .val (.double x), .second, .val (.int i1), .val (.int i2), .val (.int (own_adm (1 : Int32) (1 : Int32) q (Rk 0)))] [])
    refine Go.of (fun _ kq => XS.aloadN X.here hx rfl (hb hby d6_67) rfl rfl kq) ?_
    show Go p e below s _ _ T (mkF m 68 #[.val (.ref a), .val (.long q), .second, .val (.double x), .second, .val (.int i1), .val (.int i2), .val (.int (own_adm (1 : Int32) (1 : Int32) q (Rk 0)))] [(.ref a)])
    refine Go.of (fun _ kq => XS.lloadN X.here hx rfl (hb hby d6_68) rfl kq) ?_
    show Go p e below s _ _ T (mkF m 69 #[.val (.ref a), .val (.long q), .second, .val (.double x), .second, .val (.int i1), .val (.int i2), .val (.int (own_adm (1 : Int32) (1 : Int32) q (Rk 0)))] [(.long q), (.ref a)])
    refine Go.of (fun _ kq => XS.dloadN X.here hx rfl (hb hby d6_69) rfl kq) ?_
    show Go p e below s _ _ T (mkF m 70 #[.val (.ref a), .val (.long q), .second, .val (.double x), .second, .val (.int i1), .val (.int i2), .val (.int (own_adm (1 : Int32) (1 : Int32) q (Rk 0)))] [(.double x), (.long q), (.ref a)])
    refine Go.of (fun _ kq => XS.iload X.here hx rfl (hb hby d6_70) rfl kq) ?_
    show Go p e below s _ _ T (mkF m 72 #[.val (.ref a), .val (.long q), .second, .val (.double x), .second, .val (.int i1), .val (.int i2), .val (.int (own_adm (1 : Int32) (1 : Int32) q (Rk 0)))] [(.int i1), (.double x), (.long q), (.ref a)])
    refine Go.of (fun _ kq => XS.i2l X.here hx rfl (hb hby d6_72) rfl kq) ?_
    show Go p e below s _ _ T (mkF m 73 #[.val (.ref a), .val (.long q), .second, .val (.double x), .second, .val (.int i1), .val (.int i2), .val (.int (own_adm (1 : Int32) (1 : Int32) q (Rk 0)))] [(.long (i1.toInt64)), (.double x), (.long q), (.ref a)])
    refine Go.of (fun _ kq => XS.bipush X.here hx rfl (hb hby d6_73) kq) ?_
    show Go p e below s _ _ T (mkF m 75 #[.val (.ref a), .val (.long q), .second, .val (.double x), .second, .val (.int i1), .val (.int i2), .val (.int (own_adm (1 : Int32) (1 : Int32) q (Rk 0)))] [(.int (32 : Int32)), (.long (i1.toInt64)), (.double x), (.long q), (.ref a)])
    refine Go.of (fun _ kq => XS.lshl X.here hx rfl (hb hby d6_75) rfl kq) ?_
    show Go p e below s _ _ T (mkF m 76 #[.val (.ref a), .val (.long q), .second, .val (.double x), .second, .val (.int i1), .val (.int i2), .val (.int (own_adm (1 : Int32) (1 : Int32) q (Rk 0)))] [(.long ((i1.toInt64) <<< ((32 : Int32) &&& 0x3f).toInt64)), (.double x), (.long q), (.ref a)])
    refine Go.of (fun _ kq => XS.iload X.here hx rfl (hb hby d6_76) rfl kq) ?_
    show Go p e below s _ _ T (mkF m 78 #[.val (.ref a), .val (.long q), .second, .val (.double x), .second, .val (.int i1), .val (.int i2), .val (.int (own_adm (1 : Int32) (1 : Int32) q (Rk 0)))] [(.int i2), (.long ((i1.toInt64) <<< ((32 : Int32) &&& 0x3f).toInt64)), (.double x), (.long q), (.ref a)])
    refine Go.of (fun _ kq => XS.i2l X.here hx rfl (hb hby d6_78) rfl kq) ?_
    show Go p e below s _ _ T (mkF m 79 #[.val (.ref a), .val (.long q), .second, .val (.double x), .second, .val (.int i1), .val (.int i2), .val (.int (own_adm (1 : Int32) (1 : Int32) q (Rk 0)))] [(.long (i2.toInt64)), (.long ((i1.toInt64) <<< ((32 : Int32) &&& 0x3f).toInt64)), (.double x), (.long q), (.ref a)])
    refine Go.of (fun _ kq => XS.lor X.here hx rfl (hb hby d6_79) rfl kq) ?_
    show Go p e below s _ _ T (mkF m 80 #[.val (.ref a), .val (.long q), .second, .val (.double x), .second, .val (.int i1), .val (.int i2), .val (.int (own_adm (1 : Int32) (1 : Int32) q (Rk 0)))] [(.long (((i1.toInt64) <<< ((32 : Int32) &&& 0x3f).toInt64) ||| (i2.toInt64))), (.double x), (.long q), (.ref a)])
    refine Go.priv (a := a) X hx hZ hown (hw _ (List.mem_of_getElem? (i := 73) rfl)) (hw _ (List.mem_of_getElem? (i := 74) rfl)) (hw _ (List.mem_of_getElem? (i := 1) rfl)) (hw _ (List.mem_of_getElem? (i := 75) rfl)) (hw _ (List.mem_of_getElem? (i := 2) rfl)) (hw _ (List.mem_of_getElem? (i := 76) rfl)) (by decide) (rmDown1 hw q x (((i1.toInt64) <<< ((32 : Int32) &&& 0x3f).toInt64) ||| (i2.toInt64)) a r sc d (1 : Int32) (tt + (1 : Int64)) cap Rk Sc Dc _ n0 g_a g_r g_sc g_d ne_a_r ne_a_sc ne_a_d ne_r_sc ne_r_d ne_sc_d h0_ E_a TT) eT E_a 0 (by decide) (by decide) (by decide) (by decide) (by rw [hml]; rfl) (argsL := [(.long q), (.double x), (.long (((i1.toInt64) <<< ((32 : Int32) &&& 0x3f).toInt64) ||| (i2.toInt64)))]) [] (lenOf pd8 rfl) rfl rfl (Nat.le_of_eq rfl) (hb hby d6_80) ?_
    intro v T L' X hQ
    obtain ⟨h, eT⟩ : ∃ z, T.heap = z := ⟨_, rfl⟩
    rw [eT] at hQ
    obtain ⟨rfl, N', K', R2, S2, D2, TT, hrel⟩ := hQ
    have N := Fr.app N N'
    have K := K.trans K' (own_all3 (Or.inl (List.mem_of_getElem? (i := 1) rfl)) (Or.inl (List.mem_of_getElem? (i := 2) rfl)) (Or.inl (List.mem_of_getElem? (i := 3) rfl)))
    have E_a := E_a.keep K'
    have F_m_top_a := F_m_top_a.keep K' (own_ni3 ne_a_r ne_a_sc ne_a_d)
    have F_m_ranks_a := F_m_ranks_a.keep K' (own_ni3 ne_a_r ne_a_sc ne_a_d)
    have F_m_scores_a := F_m_scores_a.keep K' (own_ni3 ne_a_r ne_a_sc ne_a_d)
    have F_m_documents_a := F_m_documents_a.keep K' (own_ni3 ne_a_r ne_a_sc ne_a_d)
    have F_m_kept_a := F_m_kept_a.keep K' (own_ni3 ne_a_r ne_a_sc ne_a_d)
    have F_m_total_a := F_m_total_a.keep K' (own_ni3 ne_a_r ne_a_sc ne_a_d)
    show Go p e below s _ _ T (mkF m 83 #[.val (.ref a), .val (.long q), .second, .val (.double x), .second, .val (.int i1), .val (.int i2), .val (.int (own_adm (1 : Int32) (1 : Int32) q (Rk 0)))] [])
    refine Go.of (fun _ kq => XS.iload X.here hx rfl (hb hby d6_83) rfl kq) ?_
    show Go p e below s _ _ T (mkF m 85 #[.val (.ref a), .val (.long q), .second, .val (.double x), .second, .val (.int i1), .val (.int i2), .val (.int (own_adm (1 : Int32) (1 : Int32) q (Rk 0)))] [(.int (own_adm (1 : Int32) (1 : Int32) q (Rk 0)))])
    refine Go.retN X hx hret (by simp) hlk (hb hby d6_85) (by decide) (by decide) ?_
    try rw [eT]
    exact ⟨⟨_, rfl⟩, N, K, _, _, _, _, _, TT, rfl, hrel.trans (own_k1 hc64)⟩
theorem ef_rmOffer_eq1 (m : MethodId) (x0 : Addr) (x1 : Int64) (x2 : Int32) (x3 : Int32) : entryFrame m #[(.ref x0), (.long x1), (.int x2), (.int x3)] 5 = mkF m 0 #[.val (.ref x0), .val (.long x1), .second, .val (.int x2), .val (.int x3)] [] := by first | (simp [entryFrame, mkF, argsToLocals, Value.category]; done) | rfl
set_option maxRecDepth 65536 in
set_option maxHeartbeats 40000000 in
theorem rmOffer_eq1 {l : Launch} {Z : State} {a0 : Array Value} (hw : ∀ d ∈ tables_1, d.before a0 Z = true) (q : Int64) (i1 i2 : Int32) (a r sc d : Addr) (tt : Int64) (cap : Nat) (Rk : Nat → Int64) (Sc : Nat → UInt64) (Dc : Nat → Int64) (h0 : Heap) (n0 : Nat) (g_a : n0 ≤ a) (g_r : n0 ≤ r) (g_sc : n0 ≤ sc) (g_d : n0 ≤ d) (ne_a_r : a ≠ r) (ne_a_sc : a ≠ sc) (ne_a_d : a ≠ d) (ne_r_sc : r ≠ sc) (ne_r_d : r ≠ d) (ne_sc_d : sc ≠ d) (h0_ : 0 < cap) (E_a : Exa Z h0 a "org/segmentry/search/TopHits") (TT : TH Z h0 a r sc d (1 : Int32) (1 : Int32) tt cap Rk Sc Dc) :
    Met l Z (⟨"org/segmentry/search/TopHits", "offer", "(JII)Z"⟩ : MethodName) prog_94_method_5_code 5 (some .boolean) [] ({ frames := 4, cells := 0, slots := 0, locals := 79 } : Room) #[(.ref a), (.long q), (.int i1), (.int i2)] h0 (fun v h L => (∃ b : Int32, v = some (.int b)) ∧ Fr n0 L ∧ Keep h0 h [a, r, sc, d] ∧ ∃ (k' : Int32) (tt' : Int64) (Rk' : Nat → Int64) (Sc' : Nat → UInt64) (Dc' : Nat → Int64), TH Z h a r sc d (1 : Int32) k' tt' cap Rk' Sc' Dc' ∧ k' = 1 ∧ Rk' 0 = own_min (Rk 0) q) := by
  refine Met.mk pn5 ?_
  intro p e s m below meth c T hx hby hml hown hnm hret hlk hZ X eT
  refine Go.cast (ef_rmOffer_eq1 m a q i1 i2) ?_
  have N := Fr.nil n0
  have K := Keep.refl h0 [a, r, sc, d]
  show Go p e below s _ _ T (mkF m 0 #[.val (.ref a), .val (.long q), .second, .val (.int i1), .val (.int i2)] [])
  refine Go.of (fun _ kq => XS.aloadN X.here hx rfl (hb hby d5_0) rfl rfl kq) ?_
  show Go p e below s _ _ T (mkF m 1 #[.val (.ref a), .val (.long q), .second, .val (.int i1), .val (.int i2)] [(.ref a)])
  refine Go.of (fun _ kq => XS.lloadN X.here hx rfl (hb hby d5_1) rfl kq) ?_
  show Go p e below s _ _ T (mkF m 2 #[.val (.ref a), .val (.long q), .second, .val (.int i1), .val (.int i2)] [(.long q), (.ref a)])
  refine Go.of (X.ldc2DoubleC hx hown (mvT hZ (hw _ (List.mem_of_getElem? (i := 36) rfl))) (g := (mkF m 2 #[.val (.ref a), .val (.long q), .second, .val (.int i1), .val (.int i2)] [(.long q), (.ref a)])) rfl (hb hby d5_2)) ?_
  show Go p e below s _ _ T (mkF m 5 #[.val (.ref a), .val (.long q), .second, .val (.int i1), .val (.int i2)] [(.double (9221120237041090560 : UInt64)), (.long q), (.ref a)])
  refine Go.of (fun _ kq => XS.iloadN X.here hx rfl (hb hby d5_5) rfl kq) ?_
  show Go p e below s _ _ T (mkF m 6 #[.val (.ref a), .val (.long q), .second, .val (.int i1), .val (.int i2)] [(.int i1), (.double (9221120237041090560 : UInt64)), (.long q), (.ref a)])
  refine Go.of (fun _ kq => XS.iload X.here hx rfl (hb hby d5_6) rfl kq) ?_
  show Go p e below s _ _ T (mkF m 8 #[.val (.ref a), .val (.long q), .second, .val (.int i1), .val (.int i2)] [(.int i2), (.int i1), (.double (9221120237041090560 : UInt64)), (.long q), (.ref a)])
  refine Go.priv (a := a) X hx hZ hown (hw _ (List.mem_of_getElem? (i := 37) rfl)) (hw _ (List.mem_of_getElem? (i := 38) rfl)) (hw _ (List.mem_of_getElem? (i := 1) rfl)) (hw _ (List.mem_of_getElem? (i := 39) rfl)) (hw _ (List.mem_of_getElem? (i := 2) rfl)) (hw _ (List.mem_of_getElem? (i := 40) rfl)) (by decide) (rmKeep_eq1 hw q (9221120237041090560 : UInt64) i1 i2 a r sc d tt cap Rk Sc Dc _ n0 g_a g_r g_sc g_d ne_a_r ne_a_sc ne_a_d ne_r_sc ne_r_d ne_sc_d h0_ E_a TT) eT E_a 0 (by decide) (by decide) (by decide) (by decide) (by rw [hml]; rfl) (argsL := [(.long q), (.double (9221120237041090560 : UInt64)), (.int i1), (.int i2)]) [] (lenOf pd7 rfl) rfl rfl (Nat.le_of_eq rfl) (hb hby d5_8) ?_
  intro v T L' X hQ
  obtain ⟨h, eT⟩ : ∃ z, T.heap = z := ⟨_, rfl⟩
  rw [eT] at hQ
  obtain ⟨⟨bb, rfl⟩, N', K', RR⟩ := hQ
  have N := Fr.app N N'
  have K := K.trans K' (own_all4 (Or.inl (List.mem_of_getElem? (i := 0) rfl)) (Or.inl (List.mem_of_getElem? (i := 1) rfl)) (Or.inl (List.mem_of_getElem? (i := 2) rfl)) (Or.inl (List.mem_of_getElem? (i := 3) rfl)))
  have E_a := E_a.keep K'
  show Go p e below s _ _ T (mkF m 11 #[.val (.ref a), .val (.long q), .second, .val (.int i1), .val (.int i2)] [(.int bb)])
  refine Go.retN X hx hret (by simp) hlk (hb hby d5_11) (by decide) (by decide) ?_
  try rw [eT]
  exact ⟨⟨_, rfl⟩, N, K, RR⟩
theorem ef_rmKeep_eq2 (m : MethodId) (x0 : Addr) (x1 : Int64) (x2 : UInt64) (x3 : Int32) (x4 : Int32) : entryFrame m #[(.ref x0), (.long x1), (.double x2), (.int x3), (.int x4)] 8 = mkF m 0 #[.val (.ref x0), .val (.long x1), .second, .val (.double x2), .second, .val (.int x3), .val (.int x4), .unset] [] := by first | (simp [entryFrame, mkF, argsToLocals, Value.category]; done) | rfl
set_option maxRecDepth 65536 in
set_option maxHeartbeats 40000000 in
theorem rmKeep_eq2 {l : Launch} {Z : State} {a0 : Array Value} (hw : ∀ d ∈ tables_1, d.before a0 Z = true) (q : Int64) (x : UInt64) (i1 i2 : Int32) (a r sc d : Addr) (tt : Int64) (cap : Nat) (Rk : Nat → Int64) (Sc : Nat → UInt64) (Dc : Nat → Int64) (h0 : Heap) (n0 : Nat) (g_a : n0 ≤ a) (g_r : n0 ≤ r) (g_sc : n0 ≤ sc) (g_d : n0 ≤ d) (ne_a_r : a ≠ r) (ne_a_sc : a ≠ sc) (ne_a_d : a ≠ d) (ne_r_sc : r ≠ sc) (ne_r_d : r ≠ d) (ne_sc_d : sc ≠ d) (h0_ : 0 < cap) (h1_ : 1 < cap) (E_a : Exa Z h0 a "org/segmentry/search/TopHits") (TT : TH Z h0 a r sc d (2 : Int32) (2 : Int32) tt cap Rk Sc Dc) :
    Met l Z (⟨"org/segmentry/search/TopHits", "keep", "(JDII)Z"⟩ : MethodName) prog_94_method_7_code 8 (some .boolean) [] ({ frames := 3, cells := 0, slots := 0, locals := 60 } : Room) #[(.ref a), (.long q), (.double x), (.int i1), (.int i2)] h0 (fun v h L => (∃ b : Int32, v = some (.int b)) ∧ Fr n0 L ∧ Keep h0 h [a, r, sc, d] ∧ ∃ (k' : Int32) (tt' : Int64) (Rk' : Nat → Int64) (Sc' : Nat → UInt64) (Dc' : Nat → Int64), TH Z h a r sc d (2 : Int32) k' tt' cap Rk' Sc' Dc' ∧ k' = 2 ∧ Rk' 0 = if q < Rk 0 then own_max (Rk 1) q else Rk 0) := by
  refine Met.mk pn6 ?_
  intro p e s m below meth c T hx hby hml hown hnm hret hlk hZ X eT
  refine Go.cast (ef_rmKeep_eq2 m a q x i1 i2) ?_
  have N := Fr.nil n0
  have K := Keep.refl h0 [a, r, sc, d]
  obtain ⟨F_m_top_a, F_m_ranks_a, F_m_scores_a, F_m_documents_a, F_m_kept_a, F_m_total_a, V_r, V_sc, V_d⟩ := id TT
  show Go p e below s _ _ T (mkF m 0 #[.val (.ref a), .val (.long q), .second, .val (.double x), .second, .val (.int i1), .val (.int i2), .unset] [])
  refine Go.of (fun _ kq => XS.aloadN X.here hx rfl (hb hby d6_0) rfl rfl kq) ?_
  show Go p e below s _ _ T (mkF m 1 #[.val (.ref a), .val (.long q), .second, .val (.double x), .second, .val (.int i1), .val (.int i2), .unset] [(.ref a)])
  refine Go.of (fun _ kq => XS.dup X.here hx rfl (hb hby d6_1) rfl rfl kq) ?_
  show Go p e below s _ _ T (mkF m 2 #[.val (.ref a), .val (.long q), .second, .val (.double x), .second, .val (.int i1), .val (.int i2), .unset] [(.ref a), (.ref a)])
  refine Go.getF X hx hZ hown (hw _ (List.mem_of_getElem? (i := 41) rfl)) Via.refl eT F_m_total_a (hb hby d6_2) ?_
  intro T X eT
  show Go p e below s _ _ T (mkF m 5 #[.val (.ref a), .val (.long q), .second, .val (.double x), .second, .val (.int i1), .val (.int i2), .unset] [(.long tt), (.ref a)])
  refine Go.of (fun _ kq => XS.lconst X.here hx rfl (hb hby d6_5) kq) ?_
  show Go p e below s _ _ T (mkF m 6 #[.val (.ref a), .val (.long q), .second, .val (.double x), .second, .val (.int i1), .val (.int i2), .unset] [(.long (1 : Int64)), (.long tt), (.ref a)])
  refine Go.of (fun _ kq => XS.ladd X.here hx rfl (hb hby d6_6) rfl kq) ?_
  show Go p e below s _ _ T (mkF m 7 #[.val (.ref a), .val (.long q), .second, .val (.double x), .second, .val (.int i1), .val (.int i2), .unset] [(.long (tt + (1 : Int64))), (.ref a)])
  refine Go.putF X hx hZ hown (hw _ (List.mem_of_getElem? (i := 41) rfl)) Via.refl eT F_m_total_a E_a (Or.inl (hw _ (List.mem_of_getElem? (i := 42) rfl))) (hw _ (List.mem_of_getElem? (i := 1) rfl)) (ty := .long) (by decide) rfl rfl (hb hby d6_7) ?_
  intro T h X eT wr
  have N := Fr.snoc X N g_a
  have K := K.wr wr (Or.inl (List.mem_of_getElem? (i := 0) rfl))
  have E_a := E_a.wr wr
  have F_m_top_a := F_m_top_a.other wr (Or.inr (slot_ne (Or.inr (hw _ (List.mem_of_getElem? (i := 10) rfl))) (Or.inl (hw _ (List.mem_of_getElem? (i := 42) rfl))) (by decide) (t := .int) (t' := .long) (by decide) (by decide)))
  have F_m_ranks_a := F_m_ranks_a.other wr (Or.inr (slot_ne (Or.inl (hw _ (List.mem_of_getElem? (i := 17) rfl))) (Or.inl (hw _ (List.mem_of_getElem? (i := 42) rfl))) (by decide) (t := (.array .long)) (t' := .long) (by decide) (by decide)))
  have F_m_scores_a := F_m_scores_a.other wr (Or.inr (slot_ne (Or.inl (hw _ (List.mem_of_getElem? (i := 20) rfl))) (Or.inl (hw _ (List.mem_of_getElem? (i := 42) rfl))) (by decide) (t := (.array .double)) (t' := .long) (by decide) (by decide)))
  have F_m_documents_a := F_m_documents_a.other wr (Or.inr (slot_ne (Or.inl (hw _ (List.mem_of_getElem? (i := 22) rfl))) (Or.inl (hw _ (List.mem_of_getElem? (i := 42) rfl))) (by decide) (t := (.array .long)) (t' := .long) (by decide) (by decide)))
  have F_m_kept_a := F_m_kept_a.other wr (Or.inr (slot_ne (Or.inl (hw _ (List.mem_of_getElem? (i := 30) rfl))) (Or.inl (hw _ (List.mem_of_getElem? (i := 42) rfl))) (by decide) (t := .int) (t' := .long) (by decide) (by decide)))
  have F_m_total_a := F_m_total_a.same wr
  have V_r := V_r.other wr (Ne.symm ne_a_r)
  have V_sc := V_sc.other wr (Ne.symm ne_a_sc)
  have V_d := V_d.other wr (Ne.symm ne_a_d)
  show Go p e below s _ _ T (mkF m 10 #[.val (.ref a), .val (.long q), .second, .val (.double x), .second, .val (.int i1), .val (.int i2), .unset] [])
  have TT : TH Z h a r sc d (2 : Int32) (2 : Int32) (tt + (1 : Int64)) cap Rk Sc Dc := ⟨F_m_top_a, F_m_ranks_a, F_m_scores_a, F_m_documents_a, F_m_kept_a, F_m_total_a, V_r, V_sc, V_d⟩
  refine Go.of (fun _ kq => XS.aloadN X.here hx rfl (hb hby d6_10) rfl rfl kq) ?_
  show Go p e below s _ _ T (mkF m 11 #[.val (.ref a), .val (.long q), .second, .val (.double x), .second, .val (.int i1), .val (.int i2), .unset] [(.ref a)])
  refine Go.of (fun _ kq => XS.lloadN X.here hx rfl (hb hby d6_11) rfl kq) ?_
  show Go p e below s _ _ T (mkF m 12 #[.val (.ref a), .val (.long q), .second, .val (.double x), .second, .val (.int i1), .val (.int i2), .unset] [(.long q), (.ref a)])
  refine Go.virtual (a := a) X hx hZ hown (hw _ (List.mem_of_getElem? (i := 43) rfl)) (hw _ (List.mem_of_getElem? (i := 25) rfl)) (notFace_of_selects (args := #[]) (mvT hZ (hw _ (List.mem_of_getElem? (i := 27) rfl)))) (hw _ (List.mem_of_getElem? (i := 27) rfl)) (hw _ (List.mem_of_getElem? (i := 26) rfl)) (hw _ (List.mem_of_getElem? (i := 2) rfl)) (hw _ (List.mem_of_getElem? (i := 28) rfl)) (by decide) (rmAdm hw q (Rk 0) a r sc d (2 : Int32) (2 : Int32) (tt + (1 : Int64)) cap Rk Sc Dc _ n0 TT (fun _ _ => h0_) rfl) eT E_a 0 (by decide) (by decide) (by decide) (by decide) (by rw [hml]; rfl) (argsL := [(.long q)]) [] (lenOf pd5 rfl) rfl rfl (Nat.le_of_eq rfl) (hb hby d6_12) ?_
  intro v T L' X hQ
  obtain ⟨rfl, N', eT⟩ := hQ
  have N := Fr.app N N'
  show Go p e below s _ _ T (mkF m 15 #[.val (.ref a), .val (.long q), .second, .val (.double x), .second, .val (.int i1), .val (.int i2), .unset] [(.int (own_adm (2 : Int32) (2 : Int32) q (Rk 0)))])
  refine Go.of (fun _ kq => XS.istore X.here hx rfl (hb hby d6_15) rfl (l' := #[.val (.ref a), .val (.long q), .second, .val (.double x), .second, .val (.int i1), .val (.int i2), .val (.int (own_adm (2 : Int32) (2 : Int32) q (Rk 0)))]) rfl kq) ?_
  show Go p e below s _ _ T (mkF m 17 #[.val (.ref a), .val (.long q), .second, .val (.double x), .second, .val (.int i1), .val (.int i2), .val (.int (own_adm (2 : Int32) (2 : Int32) q (Rk 0)))] [])
  refine Go.of (fun _ kq => XS.aloadN X.here hx rfl (hb hby d6_17) rfl rfl kq) ?_
  show Go p e below s _ _ T (mkF m 18 #[.val (.ref a), .val (.long q), .second, .val (.double x), .second, .val (.int i1), .val (.int i2), .val (.int (own_adm (2 : Int32) (2 : Int32) q (Rk 0)))] [(.ref a)])
  refine Go.getF X hx hZ hown (hw _ (List.mem_of_getElem? (i := 29) rfl)) Via.refl eT F_m_kept_a (hb hby d6_18) ?_
  intro T X eT
  show Go p e below s _ _ T (mkF m 21 #[.val (.ref a), .val (.long q), .second, .val (.double x), .second, .val (.int i1), .val (.int i2), .val (.int (own_adm (2 : Int32) (2 : Int32) q (Rk 0)))] [(.int (2 : Int32))])
  refine Go.of (fun _ kq => XS.aloadN X.here hx rfl (hb hby d6_21) rfl rfl kq) ?_
  show Go p e below s _ _ T (mkF m 22 #[.val (.ref a), .val (.long q), .second, .val (.double x), .second, .val (.int i1), .val (.int i2), .val (.int (own_adm (2 : Int32) (2 : Int32) q (Rk 0)))] [(.ref a), (.int (2 : Int32))])
  refine Go.getF X hx hZ hown (hw _ (List.mem_of_getElem? (i := 9) rfl)) Via.refl eT F_m_top_a (hb hby d6_22) ?_
  intro T X eT
  show Go p e below s _ _ T (mkF m 25 #[.val (.ref a), .val (.long q), .second, .val (.double x), .second, .val (.int i1), .val (.int i2), .val (.int (own_adm (2 : Int32) (2 : Int32) q (Rk 0)))] [(.int (2 : Int32)), (.int (2 : Int32))])
  refine Go.of (fun _ kq => XS.icmpYes X.here hx rfl (pc0 := 25) (pc' := 62) rfl (hb hby d6_25) rfl (flt (by decide)).2.1 (by decide) (by decide) kq) ?_
  show Go p e below s _ _ T (mkF m 62 #[.val (.ref a), .val (.long q), .second, .val (.double x), .second, .val (.int i1), .val (.int i2), .val (.int (own_adm (2 : Int32) (2 : Int32) q (Rk 0)))] [])
  refine Go.of (fun _ kq => XS.iload X.here hx rfl (hb hby d6_62) rfl kq) ?_
  show Go p e below s _ _ T (mkF m 64 #[.val (.ref a), .val (.long q), .second, .val (.double x), .second, .val (.int i1), .val (.int i2), .val (.int (own_adm (2 : Int32) (2 : Int32) q (Rk 0)))] [(.int (own_adm (2 : Int32) (2 : Int32) q (Rk 0)))])
  by_cases hc64 : (own_adm (2 : Int32) (2 : Int32) q (Rk 0)) = (0 : Int32)
  · refine Go.of (fun _ kq => XS.ifYes X.here hx rfl (pc0 := 64) (pc' := 83) rfl (hb hby d6_64) rfl ((if0 _ _).trans (teq hc64).1) (by decide) (by decide) kq) ?_
    show Go p e below s _ _ T (mkF m 83 #[.val (.ref a), .val (.long q), .second, .val (.double x), .second, .val (.int i1), .val (.int i2), .val (.int (own_adm (2 : Int32) (2 : Int32) q (Rk 0)))] [])
    refine Go.of (fun _ kq => XS.iload X.here hx rfl (hb hby d6_83) rfl kq) ?_
    show Go p e below s _ _ T (mkF m 85 #[.val (.ref a), .val (.long q), .second, .val (.double x), .second, .val (.int i1), .val (.int i2), .val (.int (own_adm (2 : Int32) (2 : Int32) q (Rk 0)))] [(.int (own_adm (2 : Int32) (2 : Int32) q (Rk 0)))])
    refine Go.retN X hx hret (by simp) hlk (hb hby d6_85) (by decide) (by decide) ?_
    try rw [eT]
    exact ⟨⟨_, rfl⟩, N, K, _, _, _, _, _, TT, rfl, (if_neg (own_a0 hc64)).symm⟩
  · refine Go.of (fun _ kq => XS.ifNo X.here hx rfl (hb hby d6_64) rfl ((if0 _ _).trans (feq hc64).1) kq) ?_
    show Go p e below s _ _ T (mkF m 67 #[.val (.ref a), .val (.long q), .second, .val (.double x), .second, .val (.int i1), .val (.int i2), .val (.int (own_adm (2 : Int32) (2 : Int32) q (Rk 0)))] [])
    refine Go.of (fun _ kq => XS.aloadN X.here hx rfl (hb hby d6_67) rfl rfl kq) ?_
    show Go p e below s _ _ T (mkF m 68 #[.val (.ref a), .val (.long q), .second, .val (.double x), .second, .val (.int i1), .val (.int i2), .val (.int (own_adm (2 : Int32) (2 : Int32) q (Rk 0)))] [(.ref a)])
    refine Go.of (fun _ kq => XS.lloadN X.here hx rfl (hb hby d6_68) rfl kq) ?_
    show Go p e below s _ _ T (mkF m 69 #[.val (.ref a), .val (.long q), .second, .val (.double x), .second, .val (.int i1), .val (.int i2), .val (.int (own_adm (2 : Int32) (2 : Int32) q (Rk 0)))] [(.long q), (.ref a)])
    refine Go.of (fun _ kq => XS.dloadN X.here hx rfl (hb hby d6_69) rfl kq) ?_
    show Go p e below s _ _ T (mkF m 70 #[.val (.ref a), .val (.long q), .second, .val (.double x), .second, .val (.int i1), .val (.int i2), .val (.int (own_adm (2 : Int32) (2 : Int32) q (Rk 0)))] [(.double x), (.long q), (.ref a)])
    refine Go.of (fun _ kq => XS.iload X.here hx rfl (hb hby d6_70) rfl kq) ?_
    show Go p e below s _ _ T (mkF m 72 #[.val (.ref a), .val (.long q), .second, .val (.double x), .second, .val (.int i1), .val (.int i2), .val (.int (own_adm (2 : Int32) (2 : Int32) q (Rk 0)))] [(.int i1), (.double x), (.long q), (.ref a)])
    refine Go.of (fun _ kq => XS.i2l X.here hx rfl (hb hby d6_72) rfl kq) ?_
    show Go p e below s _ _ T (mkF m 73 #[.val (.ref a), .val (.long q), .second, .val (.double x), .second, .val (.int i1), .val (.int i2), .val (.int (own_adm (2 : Int32) (2 : Int32) q (Rk 0)))] [(.long (i1.toInt64)), (.double x), (.long q), (.ref a)])
    refine Go.of (fun _ kq => XS.bipush X.here hx rfl (hb hby d6_73) kq) ?_
    show Go p e below s _ _ T (mkF m 75 #[.val (.ref a), .val (.long q), .second, .val (.double x), .second, .val (.int i1), .val (.int i2), .val (.int (own_adm (2 : Int32) (2 : Int32) q (Rk 0)))] [(.int (32 : Int32)), (.long (i1.toInt64)), (.double x), (.long q), (.ref a)])
    refine Go.of (fun _ kq => XS.lshl X.here hx rfl (hb hby d6_75) rfl kq) ?_
    show Go p e below s _ _ T (mkF m 76 #[.val (.ref a), .val (.long q), .second, .val (.double x), .second, .val (.int i1), .val (.int i2), .val (.int (own_adm (2 : Int32) (2 : Int32) q (Rk 0)))] [(.long ((i1.toInt64) <<< ((32 : Int32) &&& 0x3f).toInt64)), (.double x), (.long q), (.ref a)])
    refine Go.of (fun _ kq => XS.iload X.here hx rfl (hb hby d6_76) rfl kq) ?_
    show Go p e below s _ _ T (mkF m 78 #[.val (.ref a), .val (.long q), .second, .val (.double x), .second, .val (.int i1), .val (.int i2), .val (.int (own_adm (2 : Int32) (2 : Int32) q (Rk 0)))] [(.int i2), (.long ((i1.toInt64) <<< ((32 : Int32) &&& 0x3f).toInt64)), (.double x), (.long q), (.ref a)])
    refine Go.of (fun _ kq => XS.i2l X.here hx rfl (hb hby d6_78) rfl kq) ?_
    show Go p e below s _ _ T (mkF m 79 #[.val (.ref a), .val (.long q), .second, .val (.double x), .second, .val (.int i1), .val (.int i2), .val (.int (own_adm (2 : Int32) (2 : Int32) q (Rk 0)))] [(.long (i2.toInt64)), (.long ((i1.toInt64) <<< ((32 : Int32) &&& 0x3f).toInt64)), (.double x), (.long q), (.ref a)])
    refine Go.of (fun _ kq => XS.lor X.here hx rfl (hb hby d6_79) rfl kq) ?_
    show Go p e below s _ _ T (mkF m 80 #[.val (.ref a), .val (.long q), .second, .val (.double x), .second, .val (.int i1), .val (.int i2), .val (.int (own_adm (2 : Int32) (2 : Int32) q (Rk 0)))] [(.long (((i1.toInt64) <<< ((32 : Int32) &&& 0x3f).toInt64) ||| (i2.toInt64))), (.double x), (.long q), (.ref a)])
    refine Go.priv (a := a) X hx hZ hown (hw _ (List.mem_of_getElem? (i := 73) rfl)) (hw _ (List.mem_of_getElem? (i := 74) rfl)) (hw _ (List.mem_of_getElem? (i := 1) rfl)) (hw _ (List.mem_of_getElem? (i := 75) rfl)) (hw _ (List.mem_of_getElem? (i := 2) rfl)) (hw _ (List.mem_of_getElem? (i := 76) rfl)) (by decide) (rmDown2 hw q x (((i1.toInt64) <<< ((32 : Int32) &&& 0x3f).toInt64) ||| (i2.toInt64)) a r sc d (2 : Int32) (tt + (1 : Int64)) cap Rk Sc Dc _ n0 g_a g_r g_sc g_d ne_a_r ne_a_sc ne_a_d ne_r_sc ne_r_d ne_sc_d h0_ h1_ E_a TT) eT E_a 0 (by decide) (by decide) (by decide) (by decide) (by rw [hml]; rfl) (argsL := [(.long q), (.double x), (.long (((i1.toInt64) <<< ((32 : Int32) &&& 0x3f).toInt64) ||| (i2.toInt64)))]) [] (lenOf pd8 rfl) rfl rfl (Nat.le_of_eq rfl) (hb hby d6_80) ?_
    intro v T L' X hQ
    obtain ⟨h, eT⟩ : ∃ z, T.heap = z := ⟨_, rfl⟩
    rw [eT] at hQ
    obtain ⟨rfl, N', K', R2, S2, D2, TT, hrel⟩ := hQ
    have N := Fr.app N N'
    have K := K.trans K' (own_all3 (Or.inl (List.mem_of_getElem? (i := 1) rfl)) (Or.inl (List.mem_of_getElem? (i := 2) rfl)) (Or.inl (List.mem_of_getElem? (i := 3) rfl)))
    have E_a := E_a.keep K'
    have F_m_top_a := F_m_top_a.keep K' (own_ni3 ne_a_r ne_a_sc ne_a_d)
    have F_m_ranks_a := F_m_ranks_a.keep K' (own_ni3 ne_a_r ne_a_sc ne_a_d)
    have F_m_scores_a := F_m_scores_a.keep K' (own_ni3 ne_a_r ne_a_sc ne_a_d)
    have F_m_documents_a := F_m_documents_a.keep K' (own_ni3 ne_a_r ne_a_sc ne_a_d)
    have F_m_kept_a := F_m_kept_a.keep K' (own_ni3 ne_a_r ne_a_sc ne_a_d)
    have F_m_total_a := F_m_total_a.keep K' (own_ni3 ne_a_r ne_a_sc ne_a_d)
    show Go p e below s _ _ T (mkF m 83 #[.val (.ref a), .val (.long q), .second, .val (.double x), .second, .val (.int i1), .val (.int i2), .val (.int (own_adm (2 : Int32) (2 : Int32) q (Rk 0)))] [])
    refine Go.of (fun _ kq => XS.iload X.here hx rfl (hb hby d6_83) rfl kq) ?_
    show Go p e below s _ _ T (mkF m 85 #[.val (.ref a), .val (.long q), .second, .val (.double x), .second, .val (.int i1), .val (.int i2), .val (.int (own_adm (2 : Int32) (2 : Int32) q (Rk 0)))] [(.int (own_adm (2 : Int32) (2 : Int32) q (Rk 0)))])
    refine Go.retN X hx hret (by simp) hlk (hb hby d6_85) (by decide) (by decide) ?_
    try rw [eT]
    exact ⟨⟨_, rfl⟩, N, K, _, _, _, _, _, TT, rfl, hrel.trans (if_pos (own_a1 hc64)).symm⟩
theorem ef_rmOffer_eq2 (m : MethodId) (x0 : Addr) (x1 : Int64) (x2 : Int32) (x3 : Int32) : entryFrame m #[(.ref x0), (.long x1), (.int x2), (.int x3)] 5 = mkF m 0 #[.val (.ref x0), .val (.long x1), .second, .val (.int x2), .val (.int x3)] [] := by first | (simp [entryFrame, mkF, argsToLocals, Value.category]; done) | rfl
set_option maxRecDepth 65536 in
set_option maxHeartbeats 40000000 in
theorem rmOffer_eq2 {l : Launch} {Z : State} {a0 : Array Value} (hw : ∀ d ∈ tables_1, d.before a0 Z = true) (q : Int64) (i1 i2 : Int32) (a r sc d : Addr) (tt : Int64) (cap : Nat) (Rk : Nat → Int64) (Sc : Nat → UInt64) (Dc : Nat → Int64) (h0 : Heap) (n0 : Nat) (g_a : n0 ≤ a) (g_r : n0 ≤ r) (g_sc : n0 ≤ sc) (g_d : n0 ≤ d) (ne_a_r : a ≠ r) (ne_a_sc : a ≠ sc) (ne_a_d : a ≠ d) (ne_r_sc : r ≠ sc) (ne_r_d : r ≠ d) (ne_sc_d : sc ≠ d) (h0_ : 0 < cap) (h1_ : 1 < cap) (E_a : Exa Z h0 a "org/segmentry/search/TopHits") (TT : TH Z h0 a r sc d (2 : Int32) (2 : Int32) tt cap Rk Sc Dc) :
    Met l Z (⟨"org/segmentry/search/TopHits", "offer", "(JII)Z"⟩ : MethodName) prog_94_method_5_code 5 (some .boolean) [] ({ frames := 4, cells := 0, slots := 0, locals := 79 } : Room) #[(.ref a), (.long q), (.int i1), (.int i2)] h0 (fun v h L => (∃ b : Int32, v = some (.int b)) ∧ Fr n0 L ∧ Keep h0 h [a, r, sc, d] ∧ ∃ (k' : Int32) (tt' : Int64) (Rk' : Nat → Int64) (Sc' : Nat → UInt64) (Dc' : Nat → Int64), TH Z h a r sc d (2 : Int32) k' tt' cap Rk' Sc' Dc' ∧ k' = 2 ∧ Rk' 0 = if q < Rk 0 then own_max (Rk 1) q else Rk 0) := by
  refine Met.mk pn5 ?_
  intro p e s m below meth c T hx hby hml hown hnm hret hlk hZ X eT
  refine Go.cast (ef_rmOffer_eq2 m a q i1 i2) ?_
  have N := Fr.nil n0
  have K := Keep.refl h0 [a, r, sc, d]
  show Go p e below s _ _ T (mkF m 0 #[.val (.ref a), .val (.long q), .second, .val (.int i1), .val (.int i2)] [])
  refine Go.of (fun _ kq => XS.aloadN X.here hx rfl (hb hby d5_0) rfl rfl kq) ?_
  show Go p e below s _ _ T (mkF m 1 #[.val (.ref a), .val (.long q), .second, .val (.int i1), .val (.int i2)] [(.ref a)])
  refine Go.of (fun _ kq => XS.lloadN X.here hx rfl (hb hby d5_1) rfl kq) ?_
  show Go p e below s _ _ T (mkF m 2 #[.val (.ref a), .val (.long q), .second, .val (.int i1), .val (.int i2)] [(.long q), (.ref a)])
  refine Go.of (X.ldc2DoubleC hx hown (mvT hZ (hw _ (List.mem_of_getElem? (i := 36) rfl))) (g := (mkF m 2 #[.val (.ref a), .val (.long q), .second, .val (.int i1), .val (.int i2)] [(.long q), (.ref a)])) rfl (hb hby d5_2)) ?_
  show Go p e below s _ _ T (mkF m 5 #[.val (.ref a), .val (.long q), .second, .val (.int i1), .val (.int i2)] [(.double (9221120237041090560 : UInt64)), (.long q), (.ref a)])
  refine Go.of (fun _ kq => XS.iloadN X.here hx rfl (hb hby d5_5) rfl kq) ?_
  show Go p e below s _ _ T (mkF m 6 #[.val (.ref a), .val (.long q), .second, .val (.int i1), .val (.int i2)] [(.int i1), (.double (9221120237041090560 : UInt64)), (.long q), (.ref a)])
  refine Go.of (fun _ kq => XS.iload X.here hx rfl (hb hby d5_6) rfl kq) ?_
  show Go p e below s _ _ T (mkF m 8 #[.val (.ref a), .val (.long q), .second, .val (.int i1), .val (.int i2)] [(.int i2), (.int i1), (.double (9221120237041090560 : UInt64)), (.long q), (.ref a)])
  refine Go.priv (a := a) X hx hZ hown (hw _ (List.mem_of_getElem? (i := 37) rfl)) (hw _ (List.mem_of_getElem? (i := 38) rfl)) (hw _ (List.mem_of_getElem? (i := 1) rfl)) (hw _ (List.mem_of_getElem? (i := 39) rfl)) (hw _ (List.mem_of_getElem? (i := 2) rfl)) (hw _ (List.mem_of_getElem? (i := 40) rfl)) (by decide) (rmKeep_eq2 hw q (9221120237041090560 : UInt64) i1 i2 a r sc d tt cap Rk Sc Dc _ n0 g_a g_r g_sc g_d ne_a_r ne_a_sc ne_a_d ne_r_sc ne_r_d ne_sc_d h0_ h1_ E_a TT) eT E_a 0 (by decide) (by decide) (by decide) (by decide) (by rw [hml]; rfl) (argsL := [(.long q), (.double (9221120237041090560 : UInt64)), (.int i1), (.int i2)]) [] (lenOf pd7 rfl) rfl rfl (Nat.le_of_eq rfl) (hb hby d5_8) ?_
  intro v T L' X hQ
  obtain ⟨h, eT⟩ : ∃ z, T.heap = z := ⟨_, rfl⟩
  rw [eT] at hQ
  obtain ⟨⟨bb, rfl⟩, N', K', RR⟩ := hQ
  have N := Fr.app N N'
  have K := K.trans K' (own_all4 (Or.inl (List.mem_of_getElem? (i := 0) rfl)) (Or.inl (List.mem_of_getElem? (i := 1) rfl)) (Or.inl (List.mem_of_getElem? (i := 2) rfl)) (Or.inl (List.mem_of_getElem? (i := 3) rfl)))
  have E_a := E_a.keep K'
  show Go p e below s _ _ T (mkF m 11 #[.val (.ref a), .val (.long q), .second, .val (.int i1), .val (.int i2)] [(.int bb)])
  refine Go.retN X hx hret (by simp) hlk (hb hby d5_11) (by decide) (by decide) ?_
  try rw [eT]
  exact ⟨⟨_, rfl⟩, N, K, RR⟩
def own_rel (top n : Int32) (a b c : Int64) (k : Int32) (x : Int64) : Prop := k = own_minI top n ∧ (¬ k < top → 0 < top → x = own_worst n top a b c)
def TR (Z : State) (h : Heap) (a r sc d : Addr) (top n : Int32) (cap : Nat) (q1 q2 q3 : Int64) : Prop := ∃ (k : Int32) (tt : Int64) (Rk : Nat → Int64) (Sc : Nat → UInt64) (Dc : Nat → Int64), TH Z h a r sc d top k tt cap Rk Sc Dc ∧ own_rel top n q1 q2 q3 k (Rk 0)
theorem own_top3 (t : Int32) : 0 ≤ (t &&& (3 : Int32)).toInt ∧ (t &&& (3 : Int32)).toInt ≤ 32771 := by
  have m0 : (t &&& 3).toInt = t.toInt % 2 ^ 2 := i32_mask _ _ (by decide) (by decide)
  omega
theorem own_top4 (t : Int32) : 0 ≤ ((t &&& (32767 : Int32)) + (4 : Int32)).toInt ∧ ((t &&& (32767 : Int32)) + (4 : Int32)).toInt ≤ 32771 := by
  have m0 : (t &&& 32767).toInt = t.toInt % 2 ^ 15 := i32_mask _ _ (by decide) (by decide)
  have k4 : (4 : Int32).toInt = 4 := by decide
  have a := i32_add (p := t &&& 32767) (q := 4) (by omega) (by omega)
  omega
theorem own_n4 (t : Int32) : (t &&& (3 : Int32)) = 0 ∨ (t &&& (3 : Int32)) = 1 ∨ (t &&& (3 : Int32)) = 2 ∨ (t &&& (3 : Int32)) = 3 := by
  have m0 : (t &&& 3).toInt = t.toInt % 2 ^ 2 := i32_mask _ _ (by decide) (by decide)
  have k0 : (0 : Int32).toInt = 0 := by decide
  have k1 : (1 : Int32).toInt = 1 := by decide
  have k2 : (2 : Int32).toInt = 2 := by decide
  have k3 : (3 : Int32).toInt = 3 := by decide
  simp only [← Int32.toInt_inj, k0, k1, k2, k3]
  omega
theorem own_tops {top : Int32} (h : 0 ≤ top.toInt ∧ top.toInt ≤ 32771) : top = 0 ∨ top = 1 ∨ top = 2 ∨ 3 ≤ top.toInt := by
  have k0 : (0 : Int32).toInt = 0 := by decide
  have k1 : (1 : Int32).toInt = 1 := by decide
  have k2 : (2 : Int32).toInt = 2 := by decide
  simp only [← Int32.toInt_inj, k0, k1, k2]
  omega
theorem own_c0 {top : Int32} (h : 0 ≤ top.toInt ∧ top.toInt ≤ 32771) : 0 ≤ (own_minI top 16).toInt ∧ (own_minI top 16).toInt ≤ 16 ∧ (3 ≤ top.toInt → 3 ≤ (own_minI top 16).toInt) ∧ (0 < top.toInt → 0 < (own_minI top 16).toInt) := by
  have k : (16 : Int32).toInt = 16 := by decide
  unfold own_minI
  simp only [Int32.lt_iff_toInt_lt, k]
  split <;> omega
theorem own_neg {c : Int32} (h : 0 ≤ c.toInt) : ¬ c < 0 := by
  rw [Int32.lt_iff_toInt_lt, show (0 : Int32).toInt = 0 by decide]; omega
theorem own_capn {c : Int32} {cap : Nat} (h : cap = c.toNatClampNeg) (h0 : 0 ≤ c.toInt) : (cap : Int) = c.toInt := by
  rw [h]; simp only [Int32.toNatClampNeg]; omega
theorem own_ne3 {k : Int32} {cap : Nat} (h : 3 ≤ cap) (h2 : cap ≤ 16) (hk : k.toInt < 3) : ¬ k = cap.toInt32 := fun q => by
  have e : (cap.toInt32).toInt = cap := Int32.toInt_ofNat_small (by omega)
  rw [q, e] at hk; omega
theorem own_gt {top : Int32} (h : 3 ≤ top.toInt) {k : Int32} (hk : k.toInt < 3) : k < top := by rw [Int32.lt_iff_toInt_lt]; omega
theorem own_pos {top : Int32} (h : 0 ≤ top.toInt) (hn : ¬ top = 0) : 0 < top := by
  rw [Int32.lt_iff_toInt_lt, show (0 : Int32).toInt = 0 by decide]
  have : top.toInt ≠ 0 := fun q => hn (Int32.toInt_inj.mp (by rw [q]; decide))
  omega
theorem own_rel3 {top : Int32} (h : 3 ≤ top.toInt) {k n : Int32} (hn : k = n) (hk : k.toInt < 3) {a b c x : Int64} : own_rel top n a b c k x := by
  subst hn
  refine ⟨?_, fun q => absurd (own_gt h hk) q⟩
  unfold own_minI; rw [if_pos (own_gt h hk)]
theorem own_rel33 {top : Int32} (h : 3 ≤ top.toInt) {a b c x : Int64} (hx : x = own_max (own_max a b) c) : own_rel top 3 a b c 3 x := by
  have k3 : (3 : Int32).toInt = 3 := by decide
  refine ⟨?_, fun q _ => ?_⟩
  · unfold own_minI
    by_cases g : (3 : Int32) < top
    · rw [if_pos g]
    · rw [if_neg g]; rw [Int32.lt_iff_toInt_lt, k3] at g; exact Int32.toInt_inj.mp (by rw [k3]; omega)
  · have e : top = 3 := by rw [Int32.lt_iff_toInt_lt, k3] at q; exact Int32.toInt_inj.mp (by rw [k3]; omega)
    subst e; rw [hx]; simp [own_worst]
theorem pn0 : plainFor x = true := plainFor_of_name (by first | (simp [plainName, overriddenIn]; done) | decide +kernel)
theorem ef_rm0 (m : MethodId) (x0 : Int32) (x1 : Int64) (x2 : Int64) (x3 : Int64) (x4 : Int64) : entryFrame m #[(.int x0), (.long x1), (.long x2), (.long x3), (.long x4)] maxLocals = mkF m 0 #[.val (.int x0), .val (.long x1), .second, .val (.long x2), .second, .val (.long x3), .second, .val (.long x4), .second, .unset, .unset, .unset, .unset, .unset] [] := by first | (simp [entryFrame, mkF, argsToLocals, Value.category, maxLocals]; done) | rfl
set_option maxRecDepth 65536 in
set_option maxHeartbeats 40000000 in
theorem rm0 {l : Launch} {Z : State} {a0 : Array Value} (hw : ∀ d ∈ tables_1, d.before a0 Z = true) (t : Int32) (qa qb qc q : Int64) (h0 : Heap) (n0 : Nat) (Z0 : n0 ≤ h0.size) :
    Met l Z x code maxLocals ret tables_1 room_1 #[(.int t), (.long qa), (.long qb), (.long qc), (.long q)] h0 (fun v h L => v = some (.int 1) ∧ Fr n0 L) := by
  refine Met.mk pn0 ?_
  intro p e s m below meth c T hx hby hml hown hnm hret hlk hZ X eT
  refine Go.cast (ef_rm0 m t qa qb qc q) ?_
  have N := Fr.nil n0
  have K := Keep.refl h0 []
  show Go p e below s _ _ T (mkF m 0 #[.val (.int t), .val (.long qa), .second, .val (.long qb), .second, .val (.long qc), .second, .val (.long q), .second, .unset, .unset, .unset, .unset, .unset] [])
  refine Go.join (fun top : Int32 => 0 ≤ top.toInt ∧ top.toInt ≤ 32771) (fun top => (mkF m 22 #[.val (.int t), .val (.long qa), .second, .val (.long qb), .second, .val (.long qc), .second, .val (.long q), .second, .unset, .unset, .unset, .unset, .unset] [(.int top)])) ?_ ?_
  · intro top htop
    show Go p e below s _ _ T (mkF m 22 #[.val (.int t), .val (.long qa), .second, .val (.long qb), .second, .val (.long qc), .second, .val (.long q), .second, .unset, .unset, .unset, .unset, .unset] [(.int top)])
    refine Go.of (fun _ kq => XS.istore X.here hx rfl (hb hby at_22) rfl (l' := #[.val (.int t), .val (.long qa), .second, .val (.long qb), .second, .val (.long qc), .second, .val (.long q), .second, .val (.int top), .unset, .unset, .unset, .unset]) rfl kq) ?_
    show Go p e below s _ _ T (mkF m 24 #[.val (.int t), .val (.long qa), .second, .val (.long qb), .second, .val (.long qc), .second, .val (.long q), .second, .val (.int top), .unset, .unset, .unset, .unset] [])
    refine Go.of (fun _ kq => XS.iloadN X.here hx rfl (hb hby at_24) rfl kq) ?_
    show Go p e below s _ _ T (mkF m 25 #[.val (.int t), .val (.long qa), .second, .val (.long qb), .second, .val (.long qc), .second, .val (.long q), .second, .val (.int top), .unset, .unset, .unset, .unset] [(.int t)])
    refine Go.of (fun _ kq => XS.iconst X.here hx rfl (hb hby at_25) kq) ?_
    show Go p e below s _ _ T (mkF m 26 #[.val (.int t), .val (.long qa), .second, .val (.long qb), .second, .val (.long qc), .second, .val (.long q), .second, .val (.int top), .unset, .unset, .unset, .unset] [(.int (3 : Int32)), (.int t)])
    refine Go.of (fun _ kq => XS.iushr X.here hx rfl (hb hby at_26) rfl kq) ?_
    show Go p e below s _ _ T (mkF m 27 #[.val (.int t), .val (.long qa), .second, .val (.long qb), .second, .val (.long qc), .second, .val (.long q), .second, .val (.int top), .unset, .unset, .unset, .unset] [(.int ((t.toUInt32 >>> ((3 : Int32) &&& 31).toUInt32).toInt32))])
    refine Go.of (fun _ kq => XS.iconst X.here hx rfl (hb hby at_27) kq) ?_
    show Go p e below s _ _ T (mkF m 28 #[.val (.int t), .val (.long qa), .second, .val (.long qb), .second, .val (.long qc), .second, .val (.long q), .second, .val (.int top), .unset, .unset, .unset, .unset] [(.int (3 : Int32)), (.int ((t.toUInt32 >>> ((3 : Int32) &&& 31).toUInt32).toInt32))])
    refine Go.of (fun _ kq => XS.iand X.here hx rfl (hb hby at_28) rfl kq) ?_
    show Go p e below s _ _ T (mkF m 29 #[.val (.int t), .val (.long qa), .second, .val (.long qb), .second, .val (.long qc), .second, .val (.long q), .second, .val (.int top), .unset, .unset, .unset, .unset] [(.int (((t.toUInt32 >>> ((3 : Int32) &&& 31).toUInt32).toInt32) &&& (3 : Int32)))])
    refine Go.of (fun _ kq => XS.istore X.here hx rfl (hb hby at_29) rfl (l' := #[.val (.int t), .val (.long qa), .second, .val (.long qb), .second, .val (.long qc), .second, .val (.long q), .second, .val (.int top), .val (.int (((t.toUInt32 >>> ((3 : Int32) &&& 31).toUInt32).toInt32) &&& (3 : Int32))), .unset, .unset, .unset]) rfl kq) ?_
    show Go p e below s _ _ T (mkF m 31 #[.val (.int t), .val (.long qa), .second, .val (.long qb), .second, .val (.long qc), .second, .val (.long q), .second, .val (.int top), .val (.int (((t.toUInt32 >>> ((3 : Int32) &&& 31).toUInt32).toInt32) &&& (3 : Int32))), .unset, .unset, .unset] [])
    have hn4 := own_n4 ((t.toUInt32 >>> ((3 : Int32) &&& 31).toUInt32).toInt32)
    obtain ⟨n, h_n⟩ : ∃ z : Int32, z = (((t.toUInt32 >>> ((3 : Int32) &&& 31).toUInt32).toInt32) &&& (3 : Int32)) := ⟨_, rfl⟩
    rw [← h_n]
    rw [← h_n] at hn4
    obtain ⟨c0, hc0⟩ : ∃ z, z = own_minI top 16 := ⟨_, rfl⟩
    have hcc := own_c0 htop
    rw [← hc0] at hcc
    have hneg := own_neg hcc.1
    have hle : c0.toNatClampNeg ≤ 16 := by simp only [Int32.toNatClampNeg]; omega
    refine Go.newO X hx hZ hown (hw _ (List.mem_of_getElem? (i := 0) rfl)) (hw _ (List.mem_of_getElem? (i := 1) rfl)) (hw _ (List.mem_of_getElem? (i := 2) rfl)) eT (hb hby at_31) (by decide) (by decide) ?_
    intro T h b31 X eT E ha E_b31 D_b31
    have z_b31 : h0.size ≤ b31 := by rw [ha]; exact K.1
    have g_b31 : n0 ≤ b31 := Nat.le_trans Z0 z_b31
    have K := K.ext E
    have F_m_top_b31 : Fld Z h b31 "org/segmentry/search/TopHits" "m_top" "I" (.int (0 : Int32)) := D_b31 (Or.inr (hw _ (List.mem_of_getElem? (i := 10) rfl))) (ty := .int) (by decide)
    have F_m_ranks_b31 : Fld Z h b31 "org/segmentry/search/TopHits" "m_ranks" "[J" .null := D_b31 (Or.inl (hw _ (List.mem_of_getElem? (i := 17) rfl))) (ty := (.array .long)) (by decide)
    have F_m_scores_b31 : Fld Z h b31 "org/segmentry/search/TopHits" "m_scores" "[D" .null := D_b31 (Or.inl (hw _ (List.mem_of_getElem? (i := 20) rfl))) (ty := (.array .double)) (by decide)
    have F_m_documents_b31 : Fld Z h b31 "org/segmentry/search/TopHits" "m_documents" "[J" .null := D_b31 (Or.inl (hw _ (List.mem_of_getElem? (i := 22) rfl))) (ty := (.array .long)) (by decide)
    have F_m_kept_b31 : Fld Z h b31 "org/segmentry/search/TopHits" "m_kept" "I" (.int (0 : Int32)) := D_b31 (Or.inl (hw _ (List.mem_of_getElem? (i := 30) rfl))) (ty := .int) (by decide)
    have F_m_total_b31 : Fld Z h b31 "org/segmentry/search/TopHits" "m_total" "J" (.long (0 : Int64)) := D_b31 (Or.inl (hw _ (List.mem_of_getElem? (i := 42) rfl))) (ty := .long) (by decide)
    show Go p e below s _ _ T (mkF m 34 #[.val (.int t), .val (.long qa), .second, .val (.long qb), .second, .val (.long qc), .second, .val (.long q), .second, .val (.int top), .val (.int n), .unset, .unset, .unset] [(.ref b31)])
    refine Go.of (fun _ kq => XS.dup X.here hx rfl (hb hby at_34) rfl rfl kq) ?_
    show Go p e below s _ _ T (mkF m 35 #[.val (.int t), .val (.long qa), .second, .val (.long qb), .second, .val (.long qc), .second, .val (.long q), .second, .val (.int top), .val (.int n), .unset, .unset, .unset] [(.ref b31), (.ref b31)])
    refine Go.of (fun _ kq => XS.iload X.here hx rfl (hb hby at_35) rfl kq) ?_
    show Go p e below s _ _ T (mkF m 37 #[.val (.int t), .val (.long qa), .second, .val (.long qb), .second, .val (.long qc), .second, .val (.long q), .second, .val (.int top), .val (.int n), .unset, .unset, .unset] [(.int top), (.ref b31), (.ref b31)])
    refine Go.special (a := b31) X hx hZ hown rfl (hw _ (List.mem_of_getElem? (i := 3) rfl)) (hw _ (List.mem_of_getElem? (i := 4) rfl)) (hw _ (List.mem_of_getElem? (i := 2) rfl)) (hw _ (List.mem_of_getElem? (i := 5) rfl)) (by decide) (rmIni hw b31 top c0 _ n0 (Nat.le_trans Z0 K.1) g_b31 hc0 hneg hle E_b31 F_m_top_b31 F_m_ranks_b31 F_m_scores_b31 F_m_documents_b31 F_m_kept_b31 F_m_total_b31) eT 1 (by decide) (by decide) (by decide) (by decide) (by rw [hml]; rfl) (argsL := [(.int top)]) [(.ref b31)] (lenOf pd9 rfl) rfl rfl (Nat.le_of_eq rfl) (hb hby at_37) ?_
    intro v T L' X hQ
    obtain ⟨h, eT⟩ : ∃ z, T.heap = z := ⟨_, rfl⟩
    rw [eT] at hQ
    obtain ⟨rfl, N', K', r, sc, d, zr, zsc, zd, ne_b31_r, ne_b31_sc, ne_b31_d, ne_r_sc, ne_r_d, ne_sc_d, TT⟩ := hQ
    have N := Fr.app N N'
    have z_r := Nat.le_trans K.1 zr
    have z_sc := Nat.le_trans K.1 zsc
    have z_d := Nat.le_trans K.1 zd
    have g_r := Nat.le_trans Z0 z_r
    have g_sc := Nat.le_trans Z0 z_sc
    have g_d := Nat.le_trans Z0 z_d
    have K := K.trans K' (own_all1 (Or.inr z_b31))
    have E_b31 := E_b31.keep K'
    obtain ⟨cap, hcap⟩ : ∃ z, z = c0.toNatClampNeg := ⟨_, rfl⟩
    rw [← hcap] at TT
    show Go p e below s _ _ T (mkF m 40 #[.val (.int t), .val (.long qa), .second, .val (.long qb), .second, .val (.long qc), .second, .val (.long q), .second, .val (.int top), .val (.int n), .unset, .unset, .unset] [(.ref b31)])
    refine Go.of (fun _ kq => XS.astore X.here hx rfl (hb hby at_40) rfl rfl (l' := #[.val (.int t), .val (.long qa), .second, .val (.long qb), .second, .val (.long qc), .second, .val (.long q), .second, .val (.int top), .val (.int n), .val (.ref b31), .unset, .unset]) rfl kq) ?_
    show Go p e below s _ _ T (mkF m 42 #[.val (.int t), .val (.long qa), .second, .val (.long qb), .second, .val (.long qc), .second, .val (.long q), .second, .val (.int top), .val (.int n), .val (.ref b31), .unset, .unset] [])
    have hcapI := own_capn hcap hcc.1
    refine Go.joinT (α := Unit) X (fun u locs h => Fr n0 locs ∧ Keep h0 h [] ∧ Exa Z h b31 "org/segmentry/search/TopHits" ∧ TR Z h b31 r sc d top n cap qa qb qc) (fun u => (mkF m 88 #[.val (.int t), .val (.long qa), .second, .val (.long qb), .second, .val (.long qc), .second, .val (.long q), .second, .val (.int top), .val (.int n), .val (.ref b31), .unset, .unset] [])) ?_ ?_
    · intro u T locs h X eT hI
      obtain ⟨N, K, E_b31, TT⟩ := hI
      show Go p e below s _ _ T (mkF m 88 #[.val (.int t), .val (.long qa), .second, .val (.long qb), .second, .val (.long qc), .second, .val (.long q), .second, .val (.int top), .val (.int n), .val (.ref b31), .unset, .unset] [])
      obtain ⟨k, tt, Rk, Sc, Dc, TT, hk, hrel⟩ := TT
      refine Go.of (fun _ kq => XS.iload X.here hx rfl (hb hby at_88) rfl kq) ?_
      show Go p e below s _ _ T (mkF m 90 #[.val (.int t), .val (.long qa), .second, .val (.long qb), .second, .val (.long qc), .second, .val (.long q), .second, .val (.int top), .val (.int n), .val (.ref b31), .unset, .unset] [(.int top)])
      refine Go.of (fun _ kq => XS.iload X.here hx rfl (hb hby at_90) rfl kq) ?_
      show Go p e below s _ _ T (mkF m 92 #[.val (.int t), .val (.long qa), .second, .val (.long qb), .second, .val (.long qc), .second, .val (.long q), .second, .val (.int top), .val (.int n), .val (.ref b31), .unset, .unset] [(.int n), (.int top)])
      refine Go.static X hx hZ hown (hw _ (List.mem_of_getElem? (i := 23) rfl)) (hw _ (List.mem_of_getElem? (i := 12) rfl)) (hw _ (List.mem_of_getElem? (i := 13) rfl)) (hw _ (List.mem_of_getElem? (i := 14) rfl)) (by decide) (rmMinI hw top n _ n0) eT 0 (by decide) (by decide) (by decide) (by decide) (by rw [hml]; rfl) (argsL := [(.int top), (.int n)]) [] (lenOf pd1 rfl) rfl rfl (Nat.le_of_eq rfl) (hb hby at_92) ?_
      intro v T L' X hQ
      obtain ⟨rfl, N', eT⟩ := hQ
      have N := Fr.app N N'
      rw [← hk]
      show Go p e below s _ _ T (mkF m 95 #[.val (.int t), .val (.long qa), .second, .val (.long qb), .second, .val (.long qc), .second, .val (.long q), .second, .val (.int top), .val (.int n), .val (.ref b31), .unset, .unset] [(.int k)])
      refine Go.of (fun _ kq => XS.istore X.here hx rfl (hb hby at_95) rfl (l' := #[.val (.int t), .val (.long qa), .second, .val (.long qb), .second, .val (.long qc), .second, .val (.long q), .second, .val (.int top), .val (.int n), .val (.ref b31), .val (.int k), .unset]) rfl kq) ?_
      show Go p e below s _ _ T (mkF m 97 #[.val (.int t), .val (.long qa), .second, .val (.long qb), .second, .val (.long qc), .second, .val (.long q), .second, .val (.int top), .val (.int n), .val (.ref b31), .val (.int k), .unset] [])
      refine Go.of (fun _ kq => XS.iload X.here hx rfl (hb hby at_97) rfl kq) ?_
      show Go p e below s _ _ T (mkF m 99 #[.val (.int t), .val (.long qa), .second, .val (.long qb), .second, .val (.long qc), .second, .val (.long q), .second, .val (.int top), .val (.int n), .val (.ref b31), .val (.int k), .unset] [(.int k)])
      refine Go.of (fun _ kq => XS.iload X.here hx rfl (hb hby at_99) rfl kq) ?_
      show Go p e below s _ _ T (mkF m 101 #[.val (.int t), .val (.long qa), .second, .val (.long qb), .second, .val (.long qc), .second, .val (.long q), .second, .val (.int top), .val (.int n), .val (.ref b31), .val (.int k), .unset] [(.int top), (.int k)])
      by_cases hc101 : k < top
      · refine Go.of (fun _ kq => XS.icmpNo X.here hx rfl (hb hby at_101) rfl (tlt hc101).2.1 kq) ?_
        show Go p e below s _ _ T (mkF m 104 #[.val (.int t), .val (.long qa), .second, .val (.long qb), .second, .val (.long qc), .second, .val (.long q), .second, .val (.int top), .val (.int n), .val (.ref b31), .val (.int k), .unset] [])
        refine Go.of (fun _ kq => XS.iconst X.here hx rfl (hb hby at_104) kq) ?_
        show Go p e below s _ _ T (mkF m 105 #[.val (.int t), .val (.long qa), .second, .val (.long qb), .second, .val (.long qc), .second, .val (.long q), .second, .val (.int top), .val (.int n), .val (.ref b31), .val (.int k), .unset] [(.int (1 : Int32))])
        refine Go.of (fun _ kq => XS.istore X.here hx rfl (hb hby at_105) rfl (l' := #[.val (.int t), .val (.long qa), .second, .val (.long qb), .second, .val (.long qc), .second, .val (.long q), .second, .val (.int top), .val (.int n), .val (.ref b31), .val (.int k), .val (.int (1 : Int32))]) rfl kq) ?_
        show Go p e below s _ _ T (mkF m 107 #[.val (.int t), .val (.long qa), .second, .val (.long qb), .second, .val (.long qc), .second, .val (.long q), .second, .val (.int top), .val (.int n), .val (.ref b31), .val (.int k), .val (.int (1 : Int32))] [])
        refine Go.of (fun _ kq => XS.goto X.here hx rfl (pc0 := 107) (pc' := 145) rfl (hb hby at_107) (by decide) (by decide) kq) ?_
        show Go p e below s _ _ T (mkF m 145 #[.val (.int t), .val (.long qa), .second, .val (.long qb), .second, .val (.long qc), .second, .val (.long q), .second, .val (.int top), .val (.int n), .val (.ref b31), .val (.int k), .val (.int (1 : Int32))] [])
        refine Go.of (fun _ kq => XS.aload X.here hx rfl (hb hby at_145) rfl rfl kq) ?_
        show Go p e below s _ _ T (mkF m 147 #[.val (.int t), .val (.long qa), .second, .val (.long qb), .second, .val (.long qc), .second, .val (.long q), .second, .val (.int top), .val (.int n), .val (.ref b31), .val (.int k), .val (.int (1 : Int32))] [(.ref b31)])
        refine Go.of (fun _ kq => XS.lload X.here hx rfl (hb hby at_147) rfl kq) ?_
        show Go p e below s _ _ T (mkF m 149 #[.val (.int t), .val (.long qa), .second, .val (.long qb), .second, .val (.long qc), .second, .val (.long q), .second, .val (.int top), .val (.int n), .val (.ref b31), .val (.int k), .val (.int (1 : Int32))] [(.long q), (.ref b31)])
        refine Go.virtual (a := b31) X hx hZ hown (hw _ (List.mem_of_getElem? (i := 24) rfl)) (hw _ (List.mem_of_getElem? (i := 25) rfl)) (notFace_of_selects (args := #[]) (mvT hZ (hw _ (List.mem_of_getElem? (i := 27) rfl)))) (hw _ (List.mem_of_getElem? (i := 27) rfl)) (hw _ (List.mem_of_getElem? (i := 26) rfl)) (hw _ (List.mem_of_getElem? (i := 2) rfl)) (hw _ (List.mem_of_getElem? (i := 28) rfl)) (by decide) (rmAdm hw q (Rk 0) b31 r sc d top k tt cap Rk Sc Dc _ n0 TT (fun _ q => by rw [Int32.lt_iff_toInt_lt, show (0 : Int32).toInt = 0 by decide] at q; have := hcc.2.2.2 q; omega) rfl) eT E_b31 0 (by decide) (by decide) (by decide) (by decide) (by rw [hml]; rfl) (argsL := [(.long q)]) [] (lenOf pd5 rfl) rfl rfl (Nat.le_of_eq rfl) (hb hby at_149) ?_
        intro v T L' X hQ
        obtain ⟨rfl, N', eT⟩ := hQ
        have N := Fr.app N N'
        show Go p e below s _ _ T (mkF m 152 #[.val (.int t), .val (.long qa), .second, .val (.long qb), .second, .val (.long qc), .second, .val (.long q), .second, .val (.int top), .val (.int n), .val (.ref b31), .val (.int k), .val (.int (1 : Int32))] [(.int (own_adm k top q (Rk 0)))])
        refine Go.of (fun _ kq => XS.iload X.here hx rfl (hb hby at_152) rfl kq) ?_
        show Go p e below s _ _ T (mkF m 154 #[.val (.int t), .val (.long qa), .second, .val (.long qb), .second, .val (.long qc), .second, .val (.long q), .second, .val (.int top), .val (.int n), .val (.ref b31), .val (.int k), .val (.int (1 : Int32))] [(.int (1 : Int32)), (.int (own_adm k top q (Rk 0)))])
        refine Go.of (fun _ kq => XS.icmpNo X.here hx rfl (hb hby at_154) rfl (teq (by simp [own_adm, hc101])).2 kq) ?_
        show Go p e below s _ _ T (mkF m 157 #[.val (.int t), .val (.long qa), .second, .val (.long qb), .second, .val (.long qc), .second, .val (.long q), .second, .val (.int top), .val (.int n), .val (.ref b31), .val (.int k), .val (.int (1 : Int32))] [])
        refine Go.of (fun _ kq => XS.iconst X.here hx rfl (hb hby at_157) kq) ?_
        show Go p e below s _ _ T (mkF m 158 #[.val (.int t), .val (.long qa), .second, .val (.long qb), .second, .val (.long qc), .second, .val (.long q), .second, .val (.int top), .val (.int n), .val (.ref b31), .val (.int k), .val (.int (1 : Int32))] [(.int (1 : Int32))])
        refine Go.of (fun _ kq => XS.goto X.here hx rfl (pc0 := 158) (pc' := 162) rfl (hb hby at_158) (by decide) (by decide) kq) ?_
        show Go p e below s _ _ T (mkF m 162 #[.val (.int t), .val (.long qa), .second, .val (.long qb), .second, .val (.long qc), .second, .val (.long q), .second, .val (.int top), .val (.int n), .val (.ref b31), .val (.int k), .val (.int (1 : Int32))] [(.int (1 : Int32))])
        refine Go.retN X hx hret (by simp) hlk (hb hby at_162) (by decide) (by decide) ?_
        try rw [eT]
        exact ⟨rfl, N⟩
      · refine Go.of (fun _ kq => XS.icmpYes X.here hx rfl (pc0 := 101) (pc' := 110) rfl (hb hby at_101) rfl (flt hc101).2.1 (by decide) (by decide) kq) ?_
        show Go p e below s _ _ T (mkF m 110 #[.val (.int t), .val (.long qa), .second, .val (.long qb), .second, .val (.long qc), .second, .val (.long q), .second, .val (.int top), .val (.int n), .val (.ref b31), .val (.int k), .unset] [])
        refine Go.of (fun _ kq => XS.iload X.here hx rfl (hb hby at_110) rfl kq) ?_
        show Go p e below s _ _ T (mkF m 112 #[.val (.int t), .val (.long qa), .second, .val (.long qb), .second, .val (.long qc), .second, .val (.long q), .second, .val (.int top), .val (.int n), .val (.ref b31), .val (.int k), .unset] [(.int top)])
        by_cases hc112 : top = (0 : Int32)
        · refine Go.of (fun _ kq => XS.ifNo X.here hx rfl (hb hby at_112) rfl ((if0 _ _).trans (teq hc112).2) kq) ?_
          show Go p e below s _ _ T (mkF m 115 #[.val (.int t), .val (.long qa), .second, .val (.long qb), .second, .val (.long qc), .second, .val (.long q), .second, .val (.int top), .val (.int n), .val (.ref b31), .val (.int k), .unset] [])
          refine Go.of (fun _ kq => XS.iconst X.here hx rfl (hb hby at_115) kq) ?_
          show Go p e below s _ _ T (mkF m 116 #[.val (.int t), .val (.long qa), .second, .val (.long qb), .second, .val (.long qc), .second, .val (.long q), .second, .val (.int top), .val (.int n), .val (.ref b31), .val (.int k), .unset] [(.int (0 : Int32))])
          refine Go.of (fun _ kq => XS.istore X.here hx rfl (hb hby at_116) rfl (l' := #[.val (.int t), .val (.long qa), .second, .val (.long qb), .second, .val (.long qc), .second, .val (.long q), .second, .val (.int top), .val (.int n), .val (.ref b31), .val (.int k), .val (.int (0 : Int32))]) rfl kq) ?_
          show Go p e below s _ _ T (mkF m 118 #[.val (.int t), .val (.long qa), .second, .val (.long qb), .second, .val (.long qc), .second, .val (.long q), .second, .val (.int top), .val (.int n), .val (.ref b31), .val (.int k), .val (.int (0 : Int32))] [])
          refine Go.of (fun _ kq => XS.goto X.here hx rfl (pc0 := 118) (pc' := 145) rfl (hb hby at_118) (by decide) (by decide) kq) ?_
          show Go p e below s _ _ T (mkF m 145 #[.val (.int t), .val (.long qa), .second, .val (.long qb), .second, .val (.long qc), .second, .val (.long q), .second, .val (.int top), .val (.int n), .val (.ref b31), .val (.int k), .val (.int (0 : Int32))] [])
          refine Go.of (fun _ kq => XS.aload X.here hx rfl (hb hby at_145) rfl rfl kq) ?_
          show Go p e below s _ _ T (mkF m 147 #[.val (.int t), .val (.long qa), .second, .val (.long qb), .second, .val (.long qc), .second, .val (.long q), .second, .val (.int top), .val (.int n), .val (.ref b31), .val (.int k), .val (.int (0 : Int32))] [(.ref b31)])
          refine Go.of (fun _ kq => XS.lload X.here hx rfl (hb hby at_147) rfl kq) ?_
          show Go p e below s _ _ T (mkF m 149 #[.val (.int t), .val (.long qa), .second, .val (.long qb), .second, .val (.long qc), .second, .val (.long q), .second, .val (.int top), .val (.int n), .val (.ref b31), .val (.int k), .val (.int (0 : Int32))] [(.long q), (.ref b31)])
          refine Go.virtual (a := b31) X hx hZ hown (hw _ (List.mem_of_getElem? (i := 24) rfl)) (hw _ (List.mem_of_getElem? (i := 25) rfl)) (notFace_of_selects (args := #[]) (mvT hZ (hw _ (List.mem_of_getElem? (i := 27) rfl)))) (hw _ (List.mem_of_getElem? (i := 27) rfl)) (hw _ (List.mem_of_getElem? (i := 26) rfl)) (hw _ (List.mem_of_getElem? (i := 2) rfl)) (hw _ (List.mem_of_getElem? (i := 28) rfl)) (by decide) (rmAdm hw q (Rk 0) b31 r sc d top k tt cap Rk Sc Dc _ n0 TT (fun _ q => by rw [Int32.lt_iff_toInt_lt, show (0 : Int32).toInt = 0 by decide] at q; have := hcc.2.2.2 q; omega) rfl) eT E_b31 0 (by decide) (by decide) (by decide) (by decide) (by rw [hml]; rfl) (argsL := [(.long q)]) [] (lenOf pd5 rfl) rfl rfl (Nat.le_of_eq rfl) (hb hby at_149) ?_
          intro v T L' X hQ
          obtain ⟨rfl, N', eT⟩ := hQ
          have N := Fr.app N N'
          show Go p e below s _ _ T (mkF m 152 #[.val (.int t), .val (.long qa), .second, .val (.long qb), .second, .val (.long qc), .second, .val (.long q), .second, .val (.int top), .val (.int n), .val (.ref b31), .val (.int k), .val (.int (0 : Int32))] [(.int (own_adm k top q (Rk 0)))])
          refine Go.of (fun _ kq => XS.iload X.here hx rfl (hb hby at_152) rfl kq) ?_
          show Go p e below s _ _ T (mkF m 154 #[.val (.int t), .val (.long qa), .second, .val (.long qb), .second, .val (.long qc), .second, .val (.long q), .second, .val (.int top), .val (.int n), .val (.ref b31), .val (.int k), .val (.int (0 : Int32))] [(.int (0 : Int32)), (.int (own_adm k top q (Rk 0)))])
          refine Go.of (fun _ kq => XS.icmpNo X.here hx rfl (hb hby at_154) rfl (teq (by unfold own_adm; rw [if_neg hc101, if_neg (by rw [hc112]; decide)])).2 kq) ?_
          show Go p e below s _ _ T (mkF m 157 #[.val (.int t), .val (.long qa), .second, .val (.long qb), .second, .val (.long qc), .second, .val (.long q), .second, .val (.int top), .val (.int n), .val (.ref b31), .val (.int k), .val (.int (0 : Int32))] [])
          refine Go.of (fun _ kq => XS.iconst X.here hx rfl (hb hby at_157) kq) ?_
          show Go p e below s _ _ T (mkF m 158 #[.val (.int t), .val (.long qa), .second, .val (.long qb), .second, .val (.long qc), .second, .val (.long q), .second, .val (.int top), .val (.int n), .val (.ref b31), .val (.int k), .val (.int (0 : Int32))] [(.int (1 : Int32))])
          refine Go.of (fun _ kq => XS.goto X.here hx rfl (pc0 := 158) (pc' := 162) rfl (hb hby at_158) (by decide) (by decide) kq) ?_
          show Go p e below s _ _ T (mkF m 162 #[.val (.int t), .val (.long qa), .second, .val (.long qb), .second, .val (.long qc), .second, .val (.long q), .second, .val (.int top), .val (.int n), .val (.ref b31), .val (.int k), .val (.int (0 : Int32))] [(.int (1 : Int32))])
          refine Go.retN X hx hret (by simp) hlk (hb hby at_162) (by decide) (by decide) ?_
          try rw [eT]
          exact ⟨rfl, N⟩
        · refine Go.of (fun _ kq => XS.ifYes X.here hx rfl (pc0 := 112) (pc' := 121) rfl (hb hby at_112) rfl ((if0 _ _).trans (feq hc112).2) (by decide) (by decide) kq) ?_
          show Go p e below s _ _ T (mkF m 121 #[.val (.int t), .val (.long qa), .second, .val (.long qb), .second, .val (.long qc), .second, .val (.long q), .second, .val (.int top), .val (.int n), .val (.ref b31), .val (.int k), .unset] [])
          refine Go.of (fun _ kq => XS.lload X.here hx rfl (hb hby at_121) rfl kq) ?_
          show Go p e below s _ _ T (mkF m 123 #[.val (.int t), .val (.long qa), .second, .val (.long qb), .second, .val (.long qc), .second, .val (.long q), .second, .val (.int top), .val (.int n), .val (.ref b31), .val (.int k), .unset] [(.long q)])
          refine Go.of (fun _ kq => XS.iload X.here hx rfl (hb hby at_123) rfl kq) ?_
          show Go p e below s _ _ T (mkF m 125 #[.val (.int t), .val (.long qa), .second, .val (.long qb), .second, .val (.long qc), .second, .val (.long q), .second, .val (.int top), .val (.int n), .val (.ref b31), .val (.int k), .unset] [(.int n), (.long q)])
          refine Go.of (fun _ kq => XS.iload X.here hx rfl (hb hby at_125) rfl kq) ?_
          show Go p e below s _ _ T (mkF m 127 #[.val (.int t), .val (.long qa), .second, .val (.long qb), .second, .val (.long qc), .second, .val (.long q), .second, .val (.int top), .val (.int n), .val (.ref b31), .val (.int k), .unset] [(.int top), (.int n), (.long q)])
          refine Go.of (fun _ kq => XS.lloadN X.here hx rfl (hb hby at_127) rfl kq) ?_
          show Go p e below s _ _ T (mkF m 128 #[.val (.int t), .val (.long qa), .second, .val (.long qb), .second, .val (.long qc), .second, .val (.long q), .second, .val (.int top), .val (.int n), .val (.ref b31), .val (.int k), .unset] [(.long qa), (.int top), (.int n), (.long q)])
          refine Go.of (fun _ kq => XS.lloadN X.here hx rfl (hb hby at_128) rfl kq) ?_
          show Go p e below s _ _ T (mkF m 129 #[.val (.int t), .val (.long qa), .second, .val (.long qb), .second, .val (.long qc), .second, .val (.long q), .second, .val (.int top), .val (.int n), .val (.ref b31), .val (.int k), .unset] [(.long qb), (.long qa), (.int top), (.int n), (.long q)])
          refine Go.of (fun _ kq => XS.lload X.here hx rfl (hb hby at_129) rfl kq) ?_
          show Go p e below s _ _ T (mkF m 131 #[.val (.int t), .val (.long qa), .second, .val (.long qb), .second, .val (.long qc), .second, .val (.long q), .second, .val (.int top), .val (.int n), .val (.ref b31), .val (.int k), .unset] [(.long qc), (.long qb), (.long qa), (.int top), (.int n), (.long q)])
          refine Go.static X hx hZ hown (hw _ (List.mem_of_getElem? (i := 63) rfl)) (hw _ (List.mem_of_getElem? (i := 64) rfl)) (hw _ (List.mem_of_getElem? (i := 65) rfl)) (hw _ (List.mem_of_getElem? (i := 66) rfl)) (by decide) (rmWorst hw n top qa qb qc _ n0) eT 2 (by decide) (by decide) (by decide) (by decide) (by rw [hml]; rfl) (argsL := [(.int n), (.int top), (.long qa), (.long qb), (.long qc)]) [(.long q)] (lenOf pd10 rfl) rfl rfl (Nat.le_of_eq rfl) (hb hby at_131) ?_
          intro v T L' X hQ
          obtain ⟨rfl, N', eT⟩ := hQ
          have N := Fr.app N N'
          show Go p e below s _ _ T (mkF m 134 #[.val (.int t), .val (.long qa), .second, .val (.long qb), .second, .val (.long qc), .second, .val (.long q), .second, .val (.int top), .val (.int n), .val (.ref b31), .val (.int k), .unset] [(.long (own_worst n top qa qb qc)), (.long q)])
          refine Go.of (fun _ kq => XS.lcmp X.here hx rfl (hb hby at_134) rfl kq) ?_
          show Go p e below s _ _ T (mkF m 135 #[.val (.int t), .val (.long qa), .second, .val (.long qb), .second, .val (.long qc), .second, .val (.long q), .second, .val (.int top), .val (.int n), .val (.ref b31), .val (.int k), .unset] [(.int (lcmpW q (own_worst n top qa qb qc)))])
          by_cases hc135 : q < (own_worst n top qa qb qc)
          · refine Go.of (fun _ kq => XS.ifNo X.here hx rfl (hb hby at_135) rfl (cZlt hc135).2 kq) ?_
            show Go p e below s _ _ T (mkF m 138 #[.val (.int t), .val (.long qa), .second, .val (.long qb), .second, .val (.long qc), .second, .val (.long q), .second, .val (.int top), .val (.int n), .val (.ref b31), .val (.int k), .unset] [])
            refine Go.of (fun _ kq => XS.iconst X.here hx rfl (hb hby at_138) kq) ?_
            show Go p e below s _ _ T (mkF m 139 #[.val (.int t), .val (.long qa), .second, .val (.long qb), .second, .val (.long qc), .second, .val (.long q), .second, .val (.int top), .val (.int n), .val (.ref b31), .val (.int k), .unset] [(.int (1 : Int32))])
            refine Go.of (fun _ kq => XS.goto X.here hx rfl (pc0 := 139) (pc' := 143) rfl (hb hby at_139) (by decide) (by decide) kq) ?_
            show Go p e below s _ _ T (mkF m 143 #[.val (.int t), .val (.long qa), .second, .val (.long qb), .second, .val (.long qc), .second, .val (.long q), .second, .val (.int top), .val (.int n), .val (.ref b31), .val (.int k), .unset] [(.int (1 : Int32))])
            refine Go.of (fun _ kq => XS.istore X.here hx rfl (hb hby at_143) rfl (l' := #[.val (.int t), .val (.long qa), .second, .val (.long qb), .second, .val (.long qc), .second, .val (.long q), .second, .val (.int top), .val (.int n), .val (.ref b31), .val (.int k), .val (.int (1 : Int32))]) rfl kq) ?_
            show Go p e below s _ _ T (mkF m 145 #[.val (.int t), .val (.long qa), .second, .val (.long qb), .second, .val (.long qc), .second, .val (.long q), .second, .val (.int top), .val (.int n), .val (.ref b31), .val (.int k), .val (.int (1 : Int32))] [])
            refine Go.of (fun _ kq => XS.aload X.here hx rfl (hb hby at_145) rfl rfl kq) ?_
            show Go p e below s _ _ T (mkF m 147 #[.val (.int t), .val (.long qa), .second, .val (.long qb), .second, .val (.long qc), .second, .val (.long q), .second, .val (.int top), .val (.int n), .val (.ref b31), .val (.int k), .val (.int (1 : Int32))] [(.ref b31)])
            refine Go.of (fun _ kq => XS.lload X.here hx rfl (hb hby at_147) rfl kq) ?_
            show Go p e below s _ _ T (mkF m 149 #[.val (.int t), .val (.long qa), .second, .val (.long qb), .second, .val (.long qc), .second, .val (.long q), .second, .val (.int top), .val (.int n), .val (.ref b31), .val (.int k), .val (.int (1 : Int32))] [(.long q), (.ref b31)])
            refine Go.virtual (a := b31) X hx hZ hown (hw _ (List.mem_of_getElem? (i := 24) rfl)) (hw _ (List.mem_of_getElem? (i := 25) rfl)) (notFace_of_selects (args := #[]) (mvT hZ (hw _ (List.mem_of_getElem? (i := 27) rfl)))) (hw _ (List.mem_of_getElem? (i := 27) rfl)) (hw _ (List.mem_of_getElem? (i := 26) rfl)) (hw _ (List.mem_of_getElem? (i := 2) rfl)) (hw _ (List.mem_of_getElem? (i := 28) rfl)) (by decide) (rmAdm hw q (Rk 0) b31 r sc d top k tt cap Rk Sc Dc _ n0 TT (fun _ q => by rw [Int32.lt_iff_toInt_lt, show (0 : Int32).toInt = 0 by decide] at q; have := hcc.2.2.2 q; omega) rfl) eT E_b31 0 (by decide) (by decide) (by decide) (by decide) (by rw [hml]; rfl) (argsL := [(.long q)]) [] (lenOf pd5 rfl) rfl rfl (Nat.le_of_eq rfl) (hb hby at_149) ?_
            intro v T L' X hQ
            obtain ⟨rfl, N', eT⟩ := hQ
            have N := Fr.app N N'
            show Go p e below s _ _ T (mkF m 152 #[.val (.int t), .val (.long qa), .second, .val (.long qb), .second, .val (.long qc), .second, .val (.long q), .second, .val (.int top), .val (.int n), .val (.ref b31), .val (.int k), .val (.int (1 : Int32))] [(.int (own_adm k top q (Rk 0)))])
            refine Go.of (fun _ kq => XS.iload X.here hx rfl (hb hby at_152) rfl kq) ?_
            show Go p e below s _ _ T (mkF m 154 #[.val (.int t), .val (.long qa), .second, .val (.long qb), .second, .val (.long qc), .second, .val (.long q), .second, .val (.int top), .val (.int n), .val (.ref b31), .val (.int k), .val (.int (1 : Int32))] [(.int (1 : Int32)), (.int (own_adm k top q (Rk 0)))])
            refine Go.of (fun _ kq => XS.icmpNo X.here hx rfl (hb hby at_154) rfl (teq (by unfold own_adm; rw [if_neg hc101, if_pos (own_pos htop.1 hc112), hrel hc101 (own_pos htop.1 hc112), if_pos hc135])).2 kq) ?_
            show Go p e below s _ _ T (mkF m 157 #[.val (.int t), .val (.long qa), .second, .val (.long qb), .second, .val (.long qc), .second, .val (.long q), .second, .val (.int top), .val (.int n), .val (.ref b31), .val (.int k), .val (.int (1 : Int32))] [])
            refine Go.of (fun _ kq => XS.iconst X.here hx rfl (hb hby at_157) kq) ?_
            show Go p e below s _ _ T (mkF m 158 #[.val (.int t), .val (.long qa), .second, .val (.long qb), .second, .val (.long qc), .second, .val (.long q), .second, .val (.int top), .val (.int n), .val (.ref b31), .val (.int k), .val (.int (1 : Int32))] [(.int (1 : Int32))])
            refine Go.of (fun _ kq => XS.goto X.here hx rfl (pc0 := 158) (pc' := 162) rfl (hb hby at_158) (by decide) (by decide) kq) ?_
            show Go p e below s _ _ T (mkF m 162 #[.val (.int t), .val (.long qa), .second, .val (.long qb), .second, .val (.long qc), .second, .val (.long q), .second, .val (.int top), .val (.int n), .val (.ref b31), .val (.int k), .val (.int (1 : Int32))] [(.int (1 : Int32))])
            refine Go.retN X hx hret (by simp) hlk (hb hby at_162) (by decide) (by decide) ?_
            try rw [eT]
            exact ⟨rfl, N⟩
          · refine Go.of (fun _ kq => XS.ifYes X.here hx rfl (pc0 := 135) (pc' := 142) rfl (hb hby at_135) rfl (cFlt hc135).2 (by decide) (by decide) kq) ?_
            show Go p e below s _ _ T (mkF m 142 #[.val (.int t), .val (.long qa), .second, .val (.long qb), .second, .val (.long qc), .second, .val (.long q), .second, .val (.int top), .val (.int n), .val (.ref b31), .val (.int k), .unset] [])
            refine Go.of (fun _ kq => XS.iconst X.here hx rfl (hb hby at_142) kq) ?_
            show Go p e below s _ _ T (mkF m 143 #[.val (.int t), .val (.long qa), .second, .val (.long qb), .second, .val (.long qc), .second, .val (.long q), .second, .val (.int top), .val (.int n), .val (.ref b31), .val (.int k), .unset] [(.int (0 : Int32))])
            refine Go.of (fun _ kq => XS.istore X.here hx rfl (hb hby at_143) rfl (l' := #[.val (.int t), .val (.long qa), .second, .val (.long qb), .second, .val (.long qc), .second, .val (.long q), .second, .val (.int top), .val (.int n), .val (.ref b31), .val (.int k), .val (.int (0 : Int32))]) rfl kq) ?_
            show Go p e below s _ _ T (mkF m 145 #[.val (.int t), .val (.long qa), .second, .val (.long qb), .second, .val (.long qc), .second, .val (.long q), .second, .val (.int top), .val (.int n), .val (.ref b31), .val (.int k), .val (.int (0 : Int32))] [])
            refine Go.of (fun _ kq => XS.aload X.here hx rfl (hb hby at_145) rfl rfl kq) ?_
            show Go p e below s _ _ T (mkF m 147 #[.val (.int t), .val (.long qa), .second, .val (.long qb), .second, .val (.long qc), .second, .val (.long q), .second, .val (.int top), .val (.int n), .val (.ref b31), .val (.int k), .val (.int (0 : Int32))] [(.ref b31)])
            refine Go.of (fun _ kq => XS.lload X.here hx rfl (hb hby at_147) rfl kq) ?_
            show Go p e below s _ _ T (mkF m 149 #[.val (.int t), .val (.long qa), .second, .val (.long qb), .second, .val (.long qc), .second, .val (.long q), .second, .val (.int top), .val (.int n), .val (.ref b31), .val (.int k), .val (.int (0 : Int32))] [(.long q), (.ref b31)])
            refine Go.virtual (a := b31) X hx hZ hown (hw _ (List.mem_of_getElem? (i := 24) rfl)) (hw _ (List.mem_of_getElem? (i := 25) rfl)) (notFace_of_selects (args := #[]) (mvT hZ (hw _ (List.mem_of_getElem? (i := 27) rfl)))) (hw _ (List.mem_of_getElem? (i := 27) rfl)) (hw _ (List.mem_of_getElem? (i := 26) rfl)) (hw _ (List.mem_of_getElem? (i := 2) rfl)) (hw _ (List.mem_of_getElem? (i := 28) rfl)) (by decide) (rmAdm hw q (Rk 0) b31 r sc d top k tt cap Rk Sc Dc _ n0 TT (fun _ q => by rw [Int32.lt_iff_toInt_lt, show (0 : Int32).toInt = 0 by decide] at q; have := hcc.2.2.2 q; omega) rfl) eT E_b31 0 (by decide) (by decide) (by decide) (by decide) (by rw [hml]; rfl) (argsL := [(.long q)]) [] (lenOf pd5 rfl) rfl rfl (Nat.le_of_eq rfl) (hb hby at_149) ?_
            intro v T L' X hQ
            obtain ⟨rfl, N', eT⟩ := hQ
            have N := Fr.app N N'
            show Go p e below s _ _ T (mkF m 152 #[.val (.int t), .val (.long qa), .second, .val (.long qb), .second, .val (.long qc), .second, .val (.long q), .second, .val (.int top), .val (.int n), .val (.ref b31), .val (.int k), .val (.int (0 : Int32))] [(.int (own_adm k top q (Rk 0)))])
            refine Go.of (fun _ kq => XS.iload X.here hx rfl (hb hby at_152) rfl kq) ?_
            show Go p e below s _ _ T (mkF m 154 #[.val (.int t), .val (.long qa), .second, .val (.long qb), .second, .val (.long qc), .second, .val (.long q), .second, .val (.int top), .val (.int n), .val (.ref b31), .val (.int k), .val (.int (0 : Int32))] [(.int (0 : Int32)), (.int (own_adm k top q (Rk 0)))])
            refine Go.of (fun _ kq => XS.icmpNo X.here hx rfl (hb hby at_154) rfl (teq (by unfold own_adm; rw [if_neg hc101, if_pos (own_pos htop.1 hc112), hrel hc101 (own_pos htop.1 hc112), if_neg hc135])).2 kq) ?_
            show Go p e below s _ _ T (mkF m 157 #[.val (.int t), .val (.long qa), .second, .val (.long qb), .second, .val (.long qc), .second, .val (.long q), .second, .val (.int top), .val (.int n), .val (.ref b31), .val (.int k), .val (.int (0 : Int32))] [])
            refine Go.of (fun _ kq => XS.iconst X.here hx rfl (hb hby at_157) kq) ?_
            show Go p e below s _ _ T (mkF m 158 #[.val (.int t), .val (.long qa), .second, .val (.long qb), .second, .val (.long qc), .second, .val (.long q), .second, .val (.int top), .val (.int n), .val (.ref b31), .val (.int k), .val (.int (0 : Int32))] [(.int (1 : Int32))])
            refine Go.of (fun _ kq => XS.goto X.here hx rfl (pc0 := 158) (pc' := 162) rfl (hb hby at_158) (by decide) (by decide) kq) ?_
            show Go p e below s _ _ T (mkF m 162 #[.val (.int t), .val (.long qa), .second, .val (.long qb), .second, .val (.long qc), .second, .val (.long q), .second, .val (.int top), .val (.int n), .val (.ref b31), .val (.int k), .val (.int (0 : Int32))] [(.int (1 : Int32))])
            refine Go.retN X hx hret (by simp) hlk (hb hby at_162) (by decide) (by decide) ?_
            try rw [eT]
            exact ⟨rfl, N⟩
    · intro jn88
      show Go p e below s _ _ T (mkF m 42 #[.val (.int t), .val (.long qa), .second, .val (.long qb), .second, .val (.long qc), .second, .val (.long q), .second, .val (.int top), .val (.int n), .val (.ref b31), .unset, .unset] [])
      rcases own_tops htop with ht | ht | ht | ht
      · subst ht
        have hcv : cap = 0 := by rw [hcap, hc0]; decide
        rcases hn4 with hn | hn | hn | hn
        · subst hn
          show Go p e below s _ _ T (mkF m 42 #[.val (.int t), .val (.long qa), .second, .val (.long qb), .second, .val (.long qc), .second, .val (.long q), .second, .val (.int (0 : Int32)), .val (.int (0 : Int32)), .val (.ref b31), .unset, .unset] [])
          refine Go.of (fun _ kq => XS.iload X.here hx rfl (hb hby at_42) rfl kq) ?_
          show Go p e below s _ _ T (mkF m 44 #[.val (.int t), .val (.long qa), .second, .val (.long qb), .second, .val (.long qc), .second, .val (.long q), .second, .val (.int (0 : Int32)), .val (.int (0 : Int32)), .val (.ref b31), .unset, .unset] [(.int (0 : Int32))])
          refine Go.of (fun _ kq => XS.iconst X.here hx rfl (hb hby at_44) kq) ?_
          show Go p e below s _ _ T (mkF m 45 #[.val (.int t), .val (.long qa), .second, .val (.long qb), .second, .val (.long qc), .second, .val (.long q), .second, .val (.int (0 : Int32)), .val (.int (0 : Int32)), .val (.ref b31), .unset, .unset] [(.int (1 : Int32)), (.int (0 : Int32))])
          refine Go.of (fun _ kq => XS.icmpYes X.here hx rfl (pc0 := 45) (pc' := 57) rfl (hb hby at_45) rfl (tlt (by decide)).1 (by decide) (by decide) kq) ?_
          show Go p e below s _ _ T (mkF m 57 #[.val (.int t), .val (.long qa), .second, .val (.long qb), .second, .val (.long qc), .second, .val (.long q), .second, .val (.int (0 : Int32)), .val (.int (0 : Int32)), .val (.ref b31), .unset, .unset] [])
          refine Go.of (fun _ kq => XS.iload X.here hx rfl (hb hby at_57) rfl kq) ?_
          show Go p e below s _ _ T (mkF m 59 #[.val (.int t), .val (.long qa), .second, .val (.long qb), .second, .val (.long qc), .second, .val (.long q), .second, .val (.int (0 : Int32)), .val (.int (0 : Int32)), .val (.ref b31), .unset, .unset] [(.int (0 : Int32))])
          refine Go.of (fun _ kq => XS.iconst X.here hx rfl (hb hby at_59) kq) ?_
          show Go p e below s _ _ T (mkF m 60 #[.val (.int t), .val (.long qa), .second, .val (.long qb), .second, .val (.long qc), .second, .val (.long q), .second, .val (.int (0 : Int32)), .val (.int (0 : Int32)), .val (.ref b31), .unset, .unset] [(.int (2 : Int32)), (.int (0 : Int32))])
          refine Go.of (fun _ kq => XS.icmpYes X.here hx rfl (pc0 := 60) (pc' := 72) rfl (hb hby at_60) rfl (tlt (by decide)).1 (by decide) (by decide) kq) ?_
          show Go p e below s _ _ T (mkF m 72 #[.val (.int t), .val (.long qa), .second, .val (.long qb), .second, .val (.long qc), .second, .val (.long q), .second, .val (.int (0 : Int32)), .val (.int (0 : Int32)), .val (.ref b31), .unset, .unset] [])
          refine Go.of (fun _ kq => XS.iload X.here hx rfl (hb hby at_72) rfl kq) ?_
          show Go p e below s _ _ T (mkF m 74 #[.val (.int t), .val (.long qa), .second, .val (.long qb), .second, .val (.long qc), .second, .val (.long q), .second, .val (.int (0 : Int32)), .val (.int (0 : Int32)), .val (.ref b31), .unset, .unset] [(.int (0 : Int32))])
          refine Go.of (fun _ kq => XS.iconst X.here hx rfl (hb hby at_74) kq) ?_
          show Go p e below s _ _ T (mkF m 75 #[.val (.int t), .val (.long qa), .second, .val (.long qb), .second, .val (.long qc), .second, .val (.long q), .second, .val (.int (0 : Int32)), .val (.int (0 : Int32)), .val (.ref b31), .unset, .unset] [(.int (3 : Int32)), (.int (0 : Int32))])
          refine Go.of (fun _ kq => XS.icmpYes X.here hx rfl (pc0 := 75) (pc' := 88) rfl (hb hby at_75) rfl (tlt (by decide)).1 (by decide) (by decide) kq) ?_
          show Go p e below s _ _ T (mkF m 88 #[.val (.int t), .val (.long qa), .second, .val (.long qb), .second, .val (.long qc), .second, .val (.long q), .second, .val (.int (0 : Int32)), .val (.int (0 : Int32)), .val (.ref b31), .unset, .unset] [])
          have TT : TR Z h b31 r sc d (0 : Int32) (0 : Int32) cap qa qb qc := ⟨_, _, _, _, _, TT, ⟨by decide, fun _ q => absurd q (by decide)⟩⟩
          exact jn88 () T _ _ X eT ⟨N, K, E_b31, TT⟩
        · subst hn
          show Go p e below s _ _ T (mkF m 42 #[.val (.int t), .val (.long qa), .second, .val (.long qb), .second, .val (.long qc), .second, .val (.long q), .second, .val (.int (0 : Int32)), .val (.int (1 : Int32)), .val (.ref b31), .unset, .unset] [])
          refine Go.of (fun _ kq => XS.iload X.here hx rfl (hb hby at_42) rfl kq) ?_
          show Go p e below s _ _ T (mkF m 44 #[.val (.int t), .val (.long qa), .second, .val (.long qb), .second, .val (.long qc), .second, .val (.long q), .second, .val (.int (0 : Int32)), .val (.int (1 : Int32)), .val (.ref b31), .unset, .unset] [(.int (1 : Int32))])
          refine Go.of (fun _ kq => XS.iconst X.here hx rfl (hb hby at_44) kq) ?_
          show Go p e below s _ _ T (mkF m 45 #[.val (.int t), .val (.long qa), .second, .val (.long qb), .second, .val (.long qc), .second, .val (.long q), .second, .val (.int (0 : Int32)), .val (.int (1 : Int32)), .val (.ref b31), .unset, .unset] [(.int (1 : Int32)), (.int (1 : Int32))])
          refine Go.of (fun _ kq => XS.icmpNo X.here hx rfl (hb hby at_45) rfl (flt (by decide)).1 kq) ?_
          show Go p e below s _ _ T (mkF m 48 #[.val (.int t), .val (.long qa), .second, .val (.long qb), .second, .val (.long qc), .second, .val (.long q), .second, .val (.int (0 : Int32)), .val (.int (1 : Int32)), .val (.ref b31), .unset, .unset] [])
          refine Go.of (fun _ kq => XS.aload X.here hx rfl (hb hby at_48) rfl rfl kq) ?_
          show Go p e below s _ _ T (mkF m 50 #[.val (.int t), .val (.long qa), .second, .val (.long qb), .second, .val (.long qc), .second, .val (.long q), .second, .val (.int (0 : Int32)), .val (.int (1 : Int32)), .val (.ref b31), .unset, .unset] [(.ref b31)])
          refine Go.of (fun _ kq => XS.lloadN X.here hx rfl (hb hby at_50) rfl kq) ?_
          show Go p e below s _ _ T (mkF m 51 #[.val (.int t), .val (.long qa), .second, .val (.long qb), .second, .val (.long qc), .second, .val (.long q), .second, .val (.int (0 : Int32)), .val (.int (1 : Int32)), .val (.ref b31), .unset, .unset] [(.long qa), (.ref b31)])
          refine Go.of (fun _ kq => XS.iconst X.here hx rfl (hb hby at_51) kq) ?_
          show Go p e below s _ _ T (mkF m 52 #[.val (.int t), .val (.long qa), .second, .val (.long qb), .second, .val (.long qc), .second, .val (.long q), .second, .val (.int (0 : Int32)), .val (.int (1 : Int32)), .val (.ref b31), .unset, .unset] [(.int (0 : Int32)), (.long qa), (.ref b31)])
          refine Go.of (fun _ kq => XS.iconst X.here hx rfl (hb hby at_52) kq) ?_
          show Go p e below s _ _ T (mkF m 53 #[.val (.int t), .val (.long qa), .second, .val (.long qb), .second, .val (.long qc), .second, .val (.long q), .second, .val (.int (0 : Int32)), .val (.int (1 : Int32)), .val (.ref b31), .unset, .unset] [(.int (0 : Int32)), (.int (0 : Int32)), (.long qa), (.ref b31)])
          refine Go.virtual (a := b31) X hx hZ hown (hw _ (List.mem_of_getElem? (i := 31) rfl)) (hw _ (List.mem_of_getElem? (i := 32) rfl)) (notFace_of_selects (args := #[]) (mvT hZ (hw _ (List.mem_of_getElem? (i := 34) rfl)))) (hw _ (List.mem_of_getElem? (i := 34) rfl)) (hw _ (List.mem_of_getElem? (i := 33) rfl)) (hw _ (List.mem_of_getElem? (i := 2) rfl)) (hw _ (List.mem_of_getElem? (i := 35) rfl)) (by decide) (rmOffer_eq0 hw qa (0 : Int32) (0 : Int32) b31 r sc d (0 : Int64) cap (fun _ => 0) (fun _ => 0) (fun _ => 0) _ n0 g_b31 g_r g_sc g_d ne_b31_r ne_b31_sc ne_b31_d ne_r_sc ne_r_d ne_sc_d  E_b31 TT) eT E_b31 0 (by decide) (by decide) (by decide) (by decide) (by rw [hml]; rfl) (argsL := [(.long qa), (.int (0 : Int32)), (.int (0 : Int32))]) [] (lenOf pd11 rfl) rfl rfl (Nat.le_of_eq rfl) (hb hby at_53) ?_
          intro v T L' X hQ
          obtain ⟨h, eT⟩ : ∃ z, T.heap = z := ⟨_, rfl⟩
          rw [eT] at hQ
          obtain ⟨⟨bb, rfl⟩, N', K', k0, tt0, R0, S0, D0, TT, hk0⟩ := hQ
          have N := Fr.app N N'
          have K := K.trans K' (own_all4 (Or.inr z_b31) (Or.inr z_r) (Or.inr z_sc) (Or.inr z_d))
          have E_b31 := E_b31.keep K'
          subst hk0
          show Go p e below s _ _ T (mkF m 56 #[.val (.int t), .val (.long qa), .second, .val (.long qb), .second, .val (.long qc), .second, .val (.long q), .second, .val (.int (0 : Int32)), .val (.int (1 : Int32)), .val (.ref b31), .unset, .unset] [(.int bb)])
          refine Go.of (fun _ kq => XS.pop X.here hx rfl (hb hby at_56) rfl rfl kq) ?_
          show Go p e below s _ _ T (mkF m 57 #[.val (.int t), .val (.long qa), .second, .val (.long qb), .second, .val (.long qc), .second, .val (.long q), .second, .val (.int (0 : Int32)), .val (.int (1 : Int32)), .val (.ref b31), .unset, .unset] [])
          refine Go.of (fun _ kq => XS.iload X.here hx rfl (hb hby at_57) rfl kq) ?_
          show Go p e below s _ _ T (mkF m 59 #[.val (.int t), .val (.long qa), .second, .val (.long qb), .second, .val (.long qc), .second, .val (.long q), .second, .val (.int (0 : Int32)), .val (.int (1 : Int32)), .val (.ref b31), .unset, .unset] [(.int (1 : Int32))])
          refine Go.of (fun _ kq => XS.iconst X.here hx rfl (hb hby at_59) kq) ?_
          show Go p e below s _ _ T (mkF m 60 #[.val (.int t), .val (.long qa), .second, .val (.long qb), .second, .val (.long qc), .second, .val (.long q), .second, .val (.int (0 : Int32)), .val (.int (1 : Int32)), .val (.ref b31), .unset, .unset] [(.int (2 : Int32)), (.int (1 : Int32))])
          refine Go.of (fun _ kq => XS.icmpYes X.here hx rfl (pc0 := 60) (pc' := 72) rfl (hb hby at_60) rfl (tlt (by decide)).1 (by decide) (by decide) kq) ?_
          show Go p e below s _ _ T (mkF m 72 #[.val (.int t), .val (.long qa), .second, .val (.long qb), .second, .val (.long qc), .second, .val (.long q), .second, .val (.int (0 : Int32)), .val (.int (1 : Int32)), .val (.ref b31), .unset, .unset] [])
          refine Go.of (fun _ kq => XS.iload X.here hx rfl (hb hby at_72) rfl kq) ?_
          show Go p e below s _ _ T (mkF m 74 #[.val (.int t), .val (.long qa), .second, .val (.long qb), .second, .val (.long qc), .second, .val (.long q), .second, .val (.int (0 : Int32)), .val (.int (1 : Int32)), .val (.ref b31), .unset, .unset] [(.int (1 : Int32))])
          refine Go.of (fun _ kq => XS.iconst X.here hx rfl (hb hby at_74) kq) ?_
          show Go p e below s _ _ T (mkF m 75 #[.val (.int t), .val (.long qa), .second, .val (.long qb), .second, .val (.long qc), .second, .val (.long q), .second, .val (.int (0 : Int32)), .val (.int (1 : Int32)), .val (.ref b31), .unset, .unset] [(.int (3 : Int32)), (.int (1 : Int32))])
          refine Go.of (fun _ kq => XS.icmpYes X.here hx rfl (pc0 := 75) (pc' := 88) rfl (hb hby at_75) rfl (tlt (by decide)).1 (by decide) (by decide) kq) ?_
          show Go p e below s _ _ T (mkF m 88 #[.val (.int t), .val (.long qa), .second, .val (.long qb), .second, .val (.long qc), .second, .val (.long q), .second, .val (.int (0 : Int32)), .val (.int (1 : Int32)), .val (.ref b31), .unset, .unset] [])
          have TT : TR Z h b31 r sc d (0 : Int32) (1 : Int32) cap qa qb qc := ⟨_, _, _, _, _, TT, ⟨by decide, fun _ q => absurd q (by decide)⟩⟩
          exact jn88 () T _ _ X eT ⟨N, K, E_b31, TT⟩
        · subst hn
          show Go p e below s _ _ T (mkF m 42 #[.val (.int t), .val (.long qa), .second, .val (.long qb), .second, .val (.long qc), .second, .val (.long q), .second, .val (.int (0 : Int32)), .val (.int (2 : Int32)), .val (.ref b31), .unset, .unset] [])
          refine Go.of (fun _ kq => XS.iload X.here hx rfl (hb hby at_42) rfl kq) ?_
          show Go p e below s _ _ T (mkF m 44 #[.val (.int t), .val (.long qa), .second, .val (.long qb), .second, .val (.long qc), .second, .val (.long q), .second, .val (.int (0 : Int32)), .val (.int (2 : Int32)), .val (.ref b31), .unset, .unset] [(.int (2 : Int32))])
          refine Go.of (fun _ kq => XS.iconst X.here hx rfl (hb hby at_44) kq) ?_
          show Go p e below s _ _ T (mkF m 45 #[.val (.int t), .val (.long qa), .second, .val (.long qb), .second, .val (.long qc), .second, .val (.long q), .second, .val (.int (0 : Int32)), .val (.int (2 : Int32)), .val (.ref b31), .unset, .unset] [(.int (1 : Int32)), (.int (2 : Int32))])
          refine Go.of (fun _ kq => XS.icmpNo X.here hx rfl (hb hby at_45) rfl (flt (by decide)).1 kq) ?_
          show Go p e below s _ _ T (mkF m 48 #[.val (.int t), .val (.long qa), .second, .val (.long qb), .second, .val (.long qc), .second, .val (.long q), .second, .val (.int (0 : Int32)), .val (.int (2 : Int32)), .val (.ref b31), .unset, .unset] [])
          refine Go.of (fun _ kq => XS.aload X.here hx rfl (hb hby at_48) rfl rfl kq) ?_
          show Go p e below s _ _ T (mkF m 50 #[.val (.int t), .val (.long qa), .second, .val (.long qb), .second, .val (.long qc), .second, .val (.long q), .second, .val (.int (0 : Int32)), .val (.int (2 : Int32)), .val (.ref b31), .unset, .unset] [(.ref b31)])
          refine Go.of (fun _ kq => XS.lloadN X.here hx rfl (hb hby at_50) rfl kq) ?_
          show Go p e below s _ _ T (mkF m 51 #[.val (.int t), .val (.long qa), .second, .val (.long qb), .second, .val (.long qc), .second, .val (.long q), .second, .val (.int (0 : Int32)), .val (.int (2 : Int32)), .val (.ref b31), .unset, .unset] [(.long qa), (.ref b31)])
          refine Go.of (fun _ kq => XS.iconst X.here hx rfl (hb hby at_51) kq) ?_
          show Go p e below s _ _ T (mkF m 52 #[.val (.int t), .val (.long qa), .second, .val (.long qb), .second, .val (.long qc), .second, .val (.long q), .second, .val (.int (0 : Int32)), .val (.int (2 : Int32)), .val (.ref b31), .unset, .unset] [(.int (0 : Int32)), (.long qa), (.ref b31)])
          refine Go.of (fun _ kq => XS.iconst X.here hx rfl (hb hby at_52) kq) ?_
          show Go p e below s _ _ T (mkF m 53 #[.val (.int t), .val (.long qa), .second, .val (.long qb), .second, .val (.long qc), .second, .val (.long q), .second, .val (.int (0 : Int32)), .val (.int (2 : Int32)), .val (.ref b31), .unset, .unset] [(.int (0 : Int32)), (.int (0 : Int32)), (.long qa), (.ref b31)])
          refine Go.virtual (a := b31) X hx hZ hown (hw _ (List.mem_of_getElem? (i := 31) rfl)) (hw _ (List.mem_of_getElem? (i := 32) rfl)) (notFace_of_selects (args := #[]) (mvT hZ (hw _ (List.mem_of_getElem? (i := 34) rfl)))) (hw _ (List.mem_of_getElem? (i := 34) rfl)) (hw _ (List.mem_of_getElem? (i := 33) rfl)) (hw _ (List.mem_of_getElem? (i := 2) rfl)) (hw _ (List.mem_of_getElem? (i := 35) rfl)) (by decide) (rmOffer_eq0 hw qa (0 : Int32) (0 : Int32) b31 r sc d (0 : Int64) cap (fun _ => 0) (fun _ => 0) (fun _ => 0) _ n0 g_b31 g_r g_sc g_d ne_b31_r ne_b31_sc ne_b31_d ne_r_sc ne_r_d ne_sc_d  E_b31 TT) eT E_b31 0 (by decide) (by decide) (by decide) (by decide) (by rw [hml]; rfl) (argsL := [(.long qa), (.int (0 : Int32)), (.int (0 : Int32))]) [] (lenOf pd11 rfl) rfl rfl (Nat.le_of_eq rfl) (hb hby at_53) ?_
          intro v T L' X hQ
          obtain ⟨h, eT⟩ : ∃ z, T.heap = z := ⟨_, rfl⟩
          rw [eT] at hQ
          obtain ⟨⟨bb, rfl⟩, N', K', k0, tt0, R0, S0, D0, TT, hk0⟩ := hQ
          have N := Fr.app N N'
          have K := K.trans K' (own_all4 (Or.inr z_b31) (Or.inr z_r) (Or.inr z_sc) (Or.inr z_d))
          have E_b31 := E_b31.keep K'
          subst hk0
          show Go p e below s _ _ T (mkF m 56 #[.val (.int t), .val (.long qa), .second, .val (.long qb), .second, .val (.long qc), .second, .val (.long q), .second, .val (.int (0 : Int32)), .val (.int (2 : Int32)), .val (.ref b31), .unset, .unset] [(.int bb)])
          refine Go.of (fun _ kq => XS.pop X.here hx rfl (hb hby at_56) rfl rfl kq) ?_
          show Go p e below s _ _ T (mkF m 57 #[.val (.int t), .val (.long qa), .second, .val (.long qb), .second, .val (.long qc), .second, .val (.long q), .second, .val (.int (0 : Int32)), .val (.int (2 : Int32)), .val (.ref b31), .unset, .unset] [])
          refine Go.of (fun _ kq => XS.iload X.here hx rfl (hb hby at_57) rfl kq) ?_
          show Go p e below s _ _ T (mkF m 59 #[.val (.int t), .val (.long qa), .second, .val (.long qb), .second, .val (.long qc), .second, .val (.long q), .second, .val (.int (0 : Int32)), .val (.int (2 : Int32)), .val (.ref b31), .unset, .unset] [(.int (2 : Int32))])
          refine Go.of (fun _ kq => XS.iconst X.here hx rfl (hb hby at_59) kq) ?_
          show Go p e below s _ _ T (mkF m 60 #[.val (.int t), .val (.long qa), .second, .val (.long qb), .second, .val (.long qc), .second, .val (.long q), .second, .val (.int (0 : Int32)), .val (.int (2 : Int32)), .val (.ref b31), .unset, .unset] [(.int (2 : Int32)), (.int (2 : Int32))])
          refine Go.of (fun _ kq => XS.icmpNo X.here hx rfl (hb hby at_60) rfl (flt (by decide)).1 kq) ?_
          show Go p e below s _ _ T (mkF m 63 #[.val (.int t), .val (.long qa), .second, .val (.long qb), .second, .val (.long qc), .second, .val (.long q), .second, .val (.int (0 : Int32)), .val (.int (2 : Int32)), .val (.ref b31), .unset, .unset] [])
          refine Go.of (fun _ kq => XS.aload X.here hx rfl (hb hby at_63) rfl rfl kq) ?_
          show Go p e below s _ _ T (mkF m 65 #[.val (.int t), .val (.long qa), .second, .val (.long qb), .second, .val (.long qc), .second, .val (.long q), .second, .val (.int (0 : Int32)), .val (.int (2 : Int32)), .val (.ref b31), .unset, .unset] [(.ref b31)])
          refine Go.of (fun _ kq => XS.lloadN X.here hx rfl (hb hby at_65) rfl kq) ?_
          show Go p e below s _ _ T (mkF m 66 #[.val (.int t), .val (.long qa), .second, .val (.long qb), .second, .val (.long qc), .second, .val (.long q), .second, .val (.int (0 : Int32)), .val (.int (2 : Int32)), .val (.ref b31), .unset, .unset] [(.long qb), (.ref b31)])
          refine Go.of (fun _ kq => XS.iconst X.here hx rfl (hb hby at_66) kq) ?_
          show Go p e below s _ _ T (mkF m 67 #[.val (.int t), .val (.long qa), .second, .val (.long qb), .second, .val (.long qc), .second, .val (.long q), .second, .val (.int (0 : Int32)), .val (.int (2 : Int32)), .val (.ref b31), .unset, .unset] [(.int (0 : Int32)), (.long qb), (.ref b31)])
          refine Go.of (fun _ kq => XS.iconst X.here hx rfl (hb hby at_67) kq) ?_
          show Go p e below s _ _ T (mkF m 68 #[.val (.int t), .val (.long qa), .second, .val (.long qb), .second, .val (.long qc), .second, .val (.long q), .second, .val (.int (0 : Int32)), .val (.int (2 : Int32)), .val (.ref b31), .unset, .unset] [(.int (1 : Int32)), (.int (0 : Int32)), (.long qb), (.ref b31)])
          refine Go.virtual (a := b31) X hx hZ hown (hw _ (List.mem_of_getElem? (i := 31) rfl)) (hw _ (List.mem_of_getElem? (i := 32) rfl)) (notFace_of_selects (args := #[]) (mvT hZ (hw _ (List.mem_of_getElem? (i := 34) rfl)))) (hw _ (List.mem_of_getElem? (i := 34) rfl)) (hw _ (List.mem_of_getElem? (i := 33) rfl)) (hw _ (List.mem_of_getElem? (i := 2) rfl)) (hw _ (List.mem_of_getElem? (i := 35) rfl)) (by decide) (rmOffer_eq0 hw qb (0 : Int32) (1 : Int32) b31 r sc d tt0 cap R0 S0 D0 _ n0 g_b31 g_r g_sc g_d ne_b31_r ne_b31_sc ne_b31_d ne_r_sc ne_r_d ne_sc_d  E_b31 TT) eT E_b31 0 (by decide) (by decide) (by decide) (by decide) (by rw [hml]; rfl) (argsL := [(.long qb), (.int (0 : Int32)), (.int (1 : Int32))]) [] (lenOf pd11 rfl) rfl rfl (Nat.le_of_eq rfl) (hb hby at_68) ?_
          intro v T L' X hQ
          obtain ⟨h, eT⟩ : ∃ z, T.heap = z := ⟨_, rfl⟩
          rw [eT] at hQ
          obtain ⟨⟨bb, rfl⟩, N', K', k1, tt1, R1, S1, D1, TT, hk1⟩ := hQ
          have N := Fr.app N N'
          have K := K.trans K' (own_all4 (Or.inr z_b31) (Or.inr z_r) (Or.inr z_sc) (Or.inr z_d))
          have E_b31 := E_b31.keep K'
          subst hk1
          show Go p e below s _ _ T (mkF m 71 #[.val (.int t), .val (.long qa), .second, .val (.long qb), .second, .val (.long qc), .second, .val (.long q), .second, .val (.int (0 : Int32)), .val (.int (2 : Int32)), .val (.ref b31), .unset, .unset] [(.int bb)])
          refine Go.of (fun _ kq => XS.pop X.here hx rfl (hb hby at_71) rfl rfl kq) ?_
          show Go p e below s _ _ T (mkF m 72 #[.val (.int t), .val (.long qa), .second, .val (.long qb), .second, .val (.long qc), .second, .val (.long q), .second, .val (.int (0 : Int32)), .val (.int (2 : Int32)), .val (.ref b31), .unset, .unset] [])
          refine Go.of (fun _ kq => XS.iload X.here hx rfl (hb hby at_72) rfl kq) ?_
          show Go p e below s _ _ T (mkF m 74 #[.val (.int t), .val (.long qa), .second, .val (.long qb), .second, .val (.long qc), .second, .val (.long q), .second, .val (.int (0 : Int32)), .val (.int (2 : Int32)), .val (.ref b31), .unset, .unset] [(.int (2 : Int32))])
          refine Go.of (fun _ kq => XS.iconst X.here hx rfl (hb hby at_74) kq) ?_
          show Go p e below s _ _ T (mkF m 75 #[.val (.int t), .val (.long qa), .second, .val (.long qb), .second, .val (.long qc), .second, .val (.long q), .second, .val (.int (0 : Int32)), .val (.int (2 : Int32)), .val (.ref b31), .unset, .unset] [(.int (3 : Int32)), (.int (2 : Int32))])
          refine Go.of (fun _ kq => XS.icmpYes X.here hx rfl (pc0 := 75) (pc' := 88) rfl (hb hby at_75) rfl (tlt (by decide)).1 (by decide) (by decide) kq) ?_
          show Go p e below s _ _ T (mkF m 88 #[.val (.int t), .val (.long qa), .second, .val (.long qb), .second, .val (.long qc), .second, .val (.long q), .second, .val (.int (0 : Int32)), .val (.int (2 : Int32)), .val (.ref b31), .unset, .unset] [])
          have TT : TR Z h b31 r sc d (0 : Int32) (2 : Int32) cap qa qb qc := ⟨_, _, _, _, _, TT, ⟨by decide, fun _ q => absurd q (by decide)⟩⟩
          exact jn88 () T _ _ X eT ⟨N, K, E_b31, TT⟩
        · subst hn
          show Go p e below s _ _ T (mkF m 42 #[.val (.int t), .val (.long qa), .second, .val (.long qb), .second, .val (.long qc), .second, .val (.long q), .second, .val (.int (0 : Int32)), .val (.int (3 : Int32)), .val (.ref b31), .unset, .unset] [])
          refine Go.of (fun _ kq => XS.iload X.here hx rfl (hb hby at_42) rfl kq) ?_
          show Go p e below s _ _ T (mkF m 44 #[.val (.int t), .val (.long qa), .second, .val (.long qb), .second, .val (.long qc), .second, .val (.long q), .second, .val (.int (0 : Int32)), .val (.int (3 : Int32)), .val (.ref b31), .unset, .unset] [(.int (3 : Int32))])
          refine Go.of (fun _ kq => XS.iconst X.here hx rfl (hb hby at_44) kq) ?_
          show Go p e below s _ _ T (mkF m 45 #[.val (.int t), .val (.long qa), .second, .val (.long qb), .second, .val (.long qc), .second, .val (.long q), .second, .val (.int (0 : Int32)), .val (.int (3 : Int32)), .val (.ref b31), .unset, .unset] [(.int (1 : Int32)), (.int (3 : Int32))])
          refine Go.of (fun _ kq => XS.icmpNo X.here hx rfl (hb hby at_45) rfl (flt (by decide)).1 kq) ?_
          show Go p e below s _ _ T (mkF m 48 #[.val (.int t), .val (.long qa), .second, .val (.long qb), .second, .val (.long qc), .second, .val (.long q), .second, .val (.int (0 : Int32)), .val (.int (3 : Int32)), .val (.ref b31), .unset, .unset] [])
          refine Go.of (fun _ kq => XS.aload X.here hx rfl (hb hby at_48) rfl rfl kq) ?_
          show Go p e below s _ _ T (mkF m 50 #[.val (.int t), .val (.long qa), .second, .val (.long qb), .second, .val (.long qc), .second, .val (.long q), .second, .val (.int (0 : Int32)), .val (.int (3 : Int32)), .val (.ref b31), .unset, .unset] [(.ref b31)])
          refine Go.of (fun _ kq => XS.lloadN X.here hx rfl (hb hby at_50) rfl kq) ?_
          show Go p e below s _ _ T (mkF m 51 #[.val (.int t), .val (.long qa), .second, .val (.long qb), .second, .val (.long qc), .second, .val (.long q), .second, .val (.int (0 : Int32)), .val (.int (3 : Int32)), .val (.ref b31), .unset, .unset] [(.long qa), (.ref b31)])
          refine Go.of (fun _ kq => XS.iconst X.here hx rfl (hb hby at_51) kq) ?_
          show Go p e below s _ _ T (mkF m 52 #[.val (.int t), .val (.long qa), .second, .val (.long qb), .second, .val (.long qc), .second, .val (.long q), .second, .val (.int (0 : Int32)), .val (.int (3 : Int32)), .val (.ref b31), .unset, .unset] [(.int (0 : Int32)), (.long qa), (.ref b31)])
          refine Go.of (fun _ kq => XS.iconst X.here hx rfl (hb hby at_52) kq) ?_
          show Go p e below s _ _ T (mkF m 53 #[.val (.int t), .val (.long qa), .second, .val (.long qb), .second, .val (.long qc), .second, .val (.long q), .second, .val (.int (0 : Int32)), .val (.int (3 : Int32)), .val (.ref b31), .unset, .unset] [(.int (0 : Int32)), (.int (0 : Int32)), (.long qa), (.ref b31)])
          refine Go.virtual (a := b31) X hx hZ hown (hw _ (List.mem_of_getElem? (i := 31) rfl)) (hw _ (List.mem_of_getElem? (i := 32) rfl)) (notFace_of_selects (args := #[]) (mvT hZ (hw _ (List.mem_of_getElem? (i := 34) rfl)))) (hw _ (List.mem_of_getElem? (i := 34) rfl)) (hw _ (List.mem_of_getElem? (i := 33) rfl)) (hw _ (List.mem_of_getElem? (i := 2) rfl)) (hw _ (List.mem_of_getElem? (i := 35) rfl)) (by decide) (rmOffer_eq0 hw qa (0 : Int32) (0 : Int32) b31 r sc d (0 : Int64) cap (fun _ => 0) (fun _ => 0) (fun _ => 0) _ n0 g_b31 g_r g_sc g_d ne_b31_r ne_b31_sc ne_b31_d ne_r_sc ne_r_d ne_sc_d  E_b31 TT) eT E_b31 0 (by decide) (by decide) (by decide) (by decide) (by rw [hml]; rfl) (argsL := [(.long qa), (.int (0 : Int32)), (.int (0 : Int32))]) [] (lenOf pd11 rfl) rfl rfl (Nat.le_of_eq rfl) (hb hby at_53) ?_
          intro v T L' X hQ
          obtain ⟨h, eT⟩ : ∃ z, T.heap = z := ⟨_, rfl⟩
          rw [eT] at hQ
          obtain ⟨⟨bb, rfl⟩, N', K', k0, tt0, R0, S0, D0, TT, hk0⟩ := hQ
          have N := Fr.app N N'
          have K := K.trans K' (own_all4 (Or.inr z_b31) (Or.inr z_r) (Or.inr z_sc) (Or.inr z_d))
          have E_b31 := E_b31.keep K'
          subst hk0
          show Go p e below s _ _ T (mkF m 56 #[.val (.int t), .val (.long qa), .second, .val (.long qb), .second, .val (.long qc), .second, .val (.long q), .second, .val (.int (0 : Int32)), .val (.int (3 : Int32)), .val (.ref b31), .unset, .unset] [(.int bb)])
          refine Go.of (fun _ kq => XS.pop X.here hx rfl (hb hby at_56) rfl rfl kq) ?_
          show Go p e below s _ _ T (mkF m 57 #[.val (.int t), .val (.long qa), .second, .val (.long qb), .second, .val (.long qc), .second, .val (.long q), .second, .val (.int (0 : Int32)), .val (.int (3 : Int32)), .val (.ref b31), .unset, .unset] [])
          refine Go.of (fun _ kq => XS.iload X.here hx rfl (hb hby at_57) rfl kq) ?_
          show Go p e below s _ _ T (mkF m 59 #[.val (.int t), .val (.long qa), .second, .val (.long qb), .second, .val (.long qc), .second, .val (.long q), .second, .val (.int (0 : Int32)), .val (.int (3 : Int32)), .val (.ref b31), .unset, .unset] [(.int (3 : Int32))])
          refine Go.of (fun _ kq => XS.iconst X.here hx rfl (hb hby at_59) kq) ?_
          show Go p e below s _ _ T (mkF m 60 #[.val (.int t), .val (.long qa), .second, .val (.long qb), .second, .val (.long qc), .second, .val (.long q), .second, .val (.int (0 : Int32)), .val (.int (3 : Int32)), .val (.ref b31), .unset, .unset] [(.int (2 : Int32)), (.int (3 : Int32))])
          refine Go.of (fun _ kq => XS.icmpNo X.here hx rfl (hb hby at_60) rfl (flt (by decide)).1 kq) ?_
          show Go p e below s _ _ T (mkF m 63 #[.val (.int t), .val (.long qa), .second, .val (.long qb), .second, .val (.long qc), .second, .val (.long q), .second, .val (.int (0 : Int32)), .val (.int (3 : Int32)), .val (.ref b31), .unset, .unset] [])
          refine Go.of (fun _ kq => XS.aload X.here hx rfl (hb hby at_63) rfl rfl kq) ?_
          show Go p e below s _ _ T (mkF m 65 #[.val (.int t), .val (.long qa), .second, .val (.long qb), .second, .val (.long qc), .second, .val (.long q), .second, .val (.int (0 : Int32)), .val (.int (3 : Int32)), .val (.ref b31), .unset, .unset] [(.ref b31)])
          refine Go.of (fun _ kq => XS.lloadN X.here hx rfl (hb hby at_65) rfl kq) ?_
          show Go p e below s _ _ T (mkF m 66 #[.val (.int t), .val (.long qa), .second, .val (.long qb), .second, .val (.long qc), .second, .val (.long q), .second, .val (.int (0 : Int32)), .val (.int (3 : Int32)), .val (.ref b31), .unset, .unset] [(.long qb), (.ref b31)])
          refine Go.of (fun _ kq => XS.iconst X.here hx rfl (hb hby at_66) kq) ?_
          show Go p e below s _ _ T (mkF m 67 #[.val (.int t), .val (.long qa), .second, .val (.long qb), .second, .val (.long qc), .second, .val (.long q), .second, .val (.int (0 : Int32)), .val (.int (3 : Int32)), .val (.ref b31), .unset, .unset] [(.int (0 : Int32)), (.long qb), (.ref b31)])
          refine Go.of (fun _ kq => XS.iconst X.here hx rfl (hb hby at_67) kq) ?_
          show Go p e below s _ _ T (mkF m 68 #[.val (.int t), .val (.long qa), .second, .val (.long qb), .second, .val (.long qc), .second, .val (.long q), .second, .val (.int (0 : Int32)), .val (.int (3 : Int32)), .val (.ref b31), .unset, .unset] [(.int (1 : Int32)), (.int (0 : Int32)), (.long qb), (.ref b31)])
          refine Go.virtual (a := b31) X hx hZ hown (hw _ (List.mem_of_getElem? (i := 31) rfl)) (hw _ (List.mem_of_getElem? (i := 32) rfl)) (notFace_of_selects (args := #[]) (mvT hZ (hw _ (List.mem_of_getElem? (i := 34) rfl)))) (hw _ (List.mem_of_getElem? (i := 34) rfl)) (hw _ (List.mem_of_getElem? (i := 33) rfl)) (hw _ (List.mem_of_getElem? (i := 2) rfl)) (hw _ (List.mem_of_getElem? (i := 35) rfl)) (by decide) (rmOffer_eq0 hw qb (0 : Int32) (1 : Int32) b31 r sc d tt0 cap R0 S0 D0 _ n0 g_b31 g_r g_sc g_d ne_b31_r ne_b31_sc ne_b31_d ne_r_sc ne_r_d ne_sc_d  E_b31 TT) eT E_b31 0 (by decide) (by decide) (by decide) (by decide) (by rw [hml]; rfl) (argsL := [(.long qb), (.int (0 : Int32)), (.int (1 : Int32))]) [] (lenOf pd11 rfl) rfl rfl (Nat.le_of_eq rfl) (hb hby at_68) ?_
          intro v T L' X hQ
          obtain ⟨h, eT⟩ : ∃ z, T.heap = z := ⟨_, rfl⟩
          rw [eT] at hQ
          obtain ⟨⟨bb, rfl⟩, N', K', k1, tt1, R1, S1, D1, TT, hk1⟩ := hQ
          have N := Fr.app N N'
          have K := K.trans K' (own_all4 (Or.inr z_b31) (Or.inr z_r) (Or.inr z_sc) (Or.inr z_d))
          have E_b31 := E_b31.keep K'
          subst hk1
          show Go p e below s _ _ T (mkF m 71 #[.val (.int t), .val (.long qa), .second, .val (.long qb), .second, .val (.long qc), .second, .val (.long q), .second, .val (.int (0 : Int32)), .val (.int (3 : Int32)), .val (.ref b31), .unset, .unset] [(.int bb)])
          refine Go.of (fun _ kq => XS.pop X.here hx rfl (hb hby at_71) rfl rfl kq) ?_
          show Go p e below s _ _ T (mkF m 72 #[.val (.int t), .val (.long qa), .second, .val (.long qb), .second, .val (.long qc), .second, .val (.long q), .second, .val (.int (0 : Int32)), .val (.int (3 : Int32)), .val (.ref b31), .unset, .unset] [])
          refine Go.of (fun _ kq => XS.iload X.here hx rfl (hb hby at_72) rfl kq) ?_
          show Go p e below s _ _ T (mkF m 74 #[.val (.int t), .val (.long qa), .second, .val (.long qb), .second, .val (.long qc), .second, .val (.long q), .second, .val (.int (0 : Int32)), .val (.int (3 : Int32)), .val (.ref b31), .unset, .unset] [(.int (3 : Int32))])
          refine Go.of (fun _ kq => XS.iconst X.here hx rfl (hb hby at_74) kq) ?_
          show Go p e below s _ _ T (mkF m 75 #[.val (.int t), .val (.long qa), .second, .val (.long qb), .second, .val (.long qc), .second, .val (.long q), .second, .val (.int (0 : Int32)), .val (.int (3 : Int32)), .val (.ref b31), .unset, .unset] [(.int (3 : Int32)), (.int (3 : Int32))])
          refine Go.of (fun _ kq => XS.icmpNo X.here hx rfl (hb hby at_75) rfl (flt (by decide)).1 kq) ?_
          show Go p e below s _ _ T (mkF m 78 #[.val (.int t), .val (.long qa), .second, .val (.long qb), .second, .val (.long qc), .second, .val (.long q), .second, .val (.int (0 : Int32)), .val (.int (3 : Int32)), .val (.ref b31), .unset, .unset] [])
          refine Go.of (fun _ kq => XS.aload X.here hx rfl (hb hby at_78) rfl rfl kq) ?_
          show Go p e below s _ _ T (mkF m 80 #[.val (.int t), .val (.long qa), .second, .val (.long qb), .second, .val (.long qc), .second, .val (.long q), .second, .val (.int (0 : Int32)), .val (.int (3 : Int32)), .val (.ref b31), .unset, .unset] [(.ref b31)])
          refine Go.of (fun _ kq => XS.lload X.here hx rfl (hb hby at_80) rfl kq) ?_
          show Go p e below s _ _ T (mkF m 82 #[.val (.int t), .val (.long qa), .second, .val (.long qb), .second, .val (.long qc), .second, .val (.long q), .second, .val (.int (0 : Int32)), .val (.int (3 : Int32)), .val (.ref b31), .unset, .unset] [(.long qc), (.ref b31)])
          refine Go.of (fun _ kq => XS.iconst X.here hx rfl (hb hby at_82) kq) ?_
          show Go p e below s _ _ T (mkF m 83 #[.val (.int t), .val (.long qa), .second, .val (.long qb), .second, .val (.long qc), .second, .val (.long q), .second, .val (.int (0 : Int32)), .val (.int (3 : Int32)), .val (.ref b31), .unset, .unset] [(.int (0 : Int32)), (.long qc), (.ref b31)])
          refine Go.of (fun _ kq => XS.iconst X.here hx rfl (hb hby at_83) kq) ?_
          show Go p e below s _ _ T (mkF m 84 #[.val (.int t), .val (.long qa), .second, .val (.long qb), .second, .val (.long qc), .second, .val (.long q), .second, .val (.int (0 : Int32)), .val (.int (3 : Int32)), .val (.ref b31), .unset, .unset] [(.int (2 : Int32)), (.int (0 : Int32)), (.long qc), (.ref b31)])
          refine Go.virtual (a := b31) X hx hZ hown (hw _ (List.mem_of_getElem? (i := 31) rfl)) (hw _ (List.mem_of_getElem? (i := 32) rfl)) (notFace_of_selects (args := #[]) (mvT hZ (hw _ (List.mem_of_getElem? (i := 34) rfl)))) (hw _ (List.mem_of_getElem? (i := 34) rfl)) (hw _ (List.mem_of_getElem? (i := 33) rfl)) (hw _ (List.mem_of_getElem? (i := 2) rfl)) (hw _ (List.mem_of_getElem? (i := 35) rfl)) (by decide) (rmOffer_eq0 hw qc (0 : Int32) (2 : Int32) b31 r sc d tt1 cap R1 S1 D1 _ n0 g_b31 g_r g_sc g_d ne_b31_r ne_b31_sc ne_b31_d ne_r_sc ne_r_d ne_sc_d  E_b31 TT) eT E_b31 0 (by decide) (by decide) (by decide) (by decide) (by rw [hml]; rfl) (argsL := [(.long qc), (.int (0 : Int32)), (.int (2 : Int32))]) [] (lenOf pd11 rfl) rfl rfl (Nat.le_of_eq rfl) (hb hby at_84) ?_
          intro v T L' X hQ
          obtain ⟨h, eT⟩ : ∃ z, T.heap = z := ⟨_, rfl⟩
          rw [eT] at hQ
          obtain ⟨⟨bb, rfl⟩, N', K', k2, tt2, R2, S2, D2, TT, hk2⟩ := hQ
          have N := Fr.app N N'
          have K := K.trans K' (own_all4 (Or.inr z_b31) (Or.inr z_r) (Or.inr z_sc) (Or.inr z_d))
          have E_b31 := E_b31.keep K'
          subst hk2
          show Go p e below s _ _ T (mkF m 87 #[.val (.int t), .val (.long qa), .second, .val (.long qb), .second, .val (.long qc), .second, .val (.long q), .second, .val (.int (0 : Int32)), .val (.int (3 : Int32)), .val (.ref b31), .unset, .unset] [(.int bb)])
          refine Go.of (fun _ kq => XS.pop X.here hx rfl (hb hby at_87) rfl rfl kq) ?_
          show Go p e below s _ _ T (mkF m 88 #[.val (.int t), .val (.long qa), .second, .val (.long qb), .second, .val (.long qc), .second, .val (.long q), .second, .val (.int (0 : Int32)), .val (.int (3 : Int32)), .val (.ref b31), .unset, .unset] [])
          have TT : TR Z h b31 r sc d (0 : Int32) (3 : Int32) cap qa qb qc := ⟨_, _, _, _, _, TT, ⟨by decide, fun _ q => absurd q (by decide)⟩⟩
          exact jn88 () T _ _ X eT ⟨N, K, E_b31, TT⟩
      · subst ht
        have hcv : cap = 1 := by rw [hcap, hc0]; decide
        rcases hn4 with hn | hn | hn | hn
        · subst hn
          show Go p e below s _ _ T (mkF m 42 #[.val (.int t), .val (.long qa), .second, .val (.long qb), .second, .val (.long qc), .second, .val (.long q), .second, .val (.int (1 : Int32)), .val (.int (0 : Int32)), .val (.ref b31), .unset, .unset] [])
          refine Go.of (fun _ kq => XS.iload X.here hx rfl (hb hby at_42) rfl kq) ?_
          show Go p e below s _ _ T (mkF m 44 #[.val (.int t), .val (.long qa), .second, .val (.long qb), .second, .val (.long qc), .second, .val (.long q), .second, .val (.int (1 : Int32)), .val (.int (0 : Int32)), .val (.ref b31), .unset, .unset] [(.int (0 : Int32))])
          refine Go.of (fun _ kq => XS.iconst X.here hx rfl (hb hby at_44) kq) ?_
          show Go p e below s _ _ T (mkF m 45 #[.val (.int t), .val (.long qa), .second, .val (.long qb), .second, .val (.long qc), .second, .val (.long q), .second, .val (.int (1 : Int32)), .val (.int (0 : Int32)), .val (.ref b31), .unset, .unset] [(.int (1 : Int32)), (.int (0 : Int32))])
          refine Go.of (fun _ kq => XS.icmpYes X.here hx rfl (pc0 := 45) (pc' := 57) rfl (hb hby at_45) rfl (tlt (by decide)).1 (by decide) (by decide) kq) ?_
          show Go p e below s _ _ T (mkF m 57 #[.val (.int t), .val (.long qa), .second, .val (.long qb), .second, .val (.long qc), .second, .val (.long q), .second, .val (.int (1 : Int32)), .val (.int (0 : Int32)), .val (.ref b31), .unset, .unset] [])
          refine Go.of (fun _ kq => XS.iload X.here hx rfl (hb hby at_57) rfl kq) ?_
          show Go p e below s _ _ T (mkF m 59 #[.val (.int t), .val (.long qa), .second, .val (.long qb), .second, .val (.long qc), .second, .val (.long q), .second, .val (.int (1 : Int32)), .val (.int (0 : Int32)), .val (.ref b31), .unset, .unset] [(.int (0 : Int32))])
          refine Go.of (fun _ kq => XS.iconst X.here hx rfl (hb hby at_59) kq) ?_
          show Go p e below s _ _ T (mkF m 60 #[.val (.int t), .val (.long qa), .second, .val (.long qb), .second, .val (.long qc), .second, .val (.long q), .second, .val (.int (1 : Int32)), .val (.int (0 : Int32)), .val (.ref b31), .unset, .unset] [(.int (2 : Int32)), (.int (0 : Int32))])
          refine Go.of (fun _ kq => XS.icmpYes X.here hx rfl (pc0 := 60) (pc' := 72) rfl (hb hby at_60) rfl (tlt (by decide)).1 (by decide) (by decide) kq) ?_
          show Go p e below s _ _ T (mkF m 72 #[.val (.int t), .val (.long qa), .second, .val (.long qb), .second, .val (.long qc), .second, .val (.long q), .second, .val (.int (1 : Int32)), .val (.int (0 : Int32)), .val (.ref b31), .unset, .unset] [])
          refine Go.of (fun _ kq => XS.iload X.here hx rfl (hb hby at_72) rfl kq) ?_
          show Go p e below s _ _ T (mkF m 74 #[.val (.int t), .val (.long qa), .second, .val (.long qb), .second, .val (.long qc), .second, .val (.long q), .second, .val (.int (1 : Int32)), .val (.int (0 : Int32)), .val (.ref b31), .unset, .unset] [(.int (0 : Int32))])
          refine Go.of (fun _ kq => XS.iconst X.here hx rfl (hb hby at_74) kq) ?_
          show Go p e below s _ _ T (mkF m 75 #[.val (.int t), .val (.long qa), .second, .val (.long qb), .second, .val (.long qc), .second, .val (.long q), .second, .val (.int (1 : Int32)), .val (.int (0 : Int32)), .val (.ref b31), .unset, .unset] [(.int (3 : Int32)), (.int (0 : Int32))])
          refine Go.of (fun _ kq => XS.icmpYes X.here hx rfl (pc0 := 75) (pc' := 88) rfl (hb hby at_75) rfl (tlt (by decide)).1 (by decide) (by decide) kq) ?_
          show Go p e below s _ _ T (mkF m 88 #[.val (.int t), .val (.long qa), .second, .val (.long qb), .second, .val (.long qc), .second, .val (.long q), .second, .val (.int (1 : Int32)), .val (.int (0 : Int32)), .val (.ref b31), .unset, .unset] [])
          have TT : TR Z h b31 r sc d (1 : Int32) (0 : Int32) cap qa qb qc := ⟨_, _, _, _, _, TT, ⟨by decide, fun q => absurd (by decide) q⟩⟩
          exact jn88 () T _ _ X eT ⟨N, K, E_b31, TT⟩
        · subst hn
          show Go p e below s _ _ T (mkF m 42 #[.val (.int t), .val (.long qa), .second, .val (.long qb), .second, .val (.long qc), .second, .val (.long q), .second, .val (.int (1 : Int32)), .val (.int (1 : Int32)), .val (.ref b31), .unset, .unset] [])
          refine Go.of (fun _ kq => XS.iload X.here hx rfl (hb hby at_42) rfl kq) ?_
          show Go p e below s _ _ T (mkF m 44 #[.val (.int t), .val (.long qa), .second, .val (.long qb), .second, .val (.long qc), .second, .val (.long q), .second, .val (.int (1 : Int32)), .val (.int (1 : Int32)), .val (.ref b31), .unset, .unset] [(.int (1 : Int32))])
          refine Go.of (fun _ kq => XS.iconst X.here hx rfl (hb hby at_44) kq) ?_
          show Go p e below s _ _ T (mkF m 45 #[.val (.int t), .val (.long qa), .second, .val (.long qb), .second, .val (.long qc), .second, .val (.long q), .second, .val (.int (1 : Int32)), .val (.int (1 : Int32)), .val (.ref b31), .unset, .unset] [(.int (1 : Int32)), (.int (1 : Int32))])
          refine Go.of (fun _ kq => XS.icmpNo X.here hx rfl (hb hby at_45) rfl (flt (by decide)).1 kq) ?_
          show Go p e below s _ _ T (mkF m 48 #[.val (.int t), .val (.long qa), .second, .val (.long qb), .second, .val (.long qc), .second, .val (.long q), .second, .val (.int (1 : Int32)), .val (.int (1 : Int32)), .val (.ref b31), .unset, .unset] [])
          refine Go.of (fun _ kq => XS.aload X.here hx rfl (hb hby at_48) rfl rfl kq) ?_
          show Go p e below s _ _ T (mkF m 50 #[.val (.int t), .val (.long qa), .second, .val (.long qb), .second, .val (.long qc), .second, .val (.long q), .second, .val (.int (1 : Int32)), .val (.int (1 : Int32)), .val (.ref b31), .unset, .unset] [(.ref b31)])
          refine Go.of (fun _ kq => XS.lloadN X.here hx rfl (hb hby at_50) rfl kq) ?_
          show Go p e below s _ _ T (mkF m 51 #[.val (.int t), .val (.long qa), .second, .val (.long qb), .second, .val (.long qc), .second, .val (.long q), .second, .val (.int (1 : Int32)), .val (.int (1 : Int32)), .val (.ref b31), .unset, .unset] [(.long qa), (.ref b31)])
          refine Go.of (fun _ kq => XS.iconst X.here hx rfl (hb hby at_51) kq) ?_
          show Go p e below s _ _ T (mkF m 52 #[.val (.int t), .val (.long qa), .second, .val (.long qb), .second, .val (.long qc), .second, .val (.long q), .second, .val (.int (1 : Int32)), .val (.int (1 : Int32)), .val (.ref b31), .unset, .unset] [(.int (0 : Int32)), (.long qa), (.ref b31)])
          refine Go.of (fun _ kq => XS.iconst X.here hx rfl (hb hby at_52) kq) ?_
          show Go p e below s _ _ T (mkF m 53 #[.val (.int t), .val (.long qa), .second, .val (.long qb), .second, .val (.long qc), .second, .val (.long q), .second, .val (.int (1 : Int32)), .val (.int (1 : Int32)), .val (.ref b31), .unset, .unset] [(.int (0 : Int32)), (.int (0 : Int32)), (.long qa), (.ref b31)])
          refine Go.virtual (a := b31) X hx hZ hown (hw _ (List.mem_of_getElem? (i := 31) rfl)) (hw _ (List.mem_of_getElem? (i := 32) rfl)) (notFace_of_selects (args := #[]) (mvT hZ (hw _ (List.mem_of_getElem? (i := 34) rfl)))) (hw _ (List.mem_of_getElem? (i := 34) rfl)) (hw _ (List.mem_of_getElem? (i := 33) rfl)) (hw _ (List.mem_of_getElem? (i := 2) rfl)) (hw _ (List.mem_of_getElem? (i := 35) rfl)) (by decide) (rmOffer_lt0 hw qa (0 : Int32) (0 : Int32) b31 r sc d (1 : Int32) (0 : Int64) cap (fun _ => 0) (fun _ => 0) (fun _ => 0) _ n0 g_b31 g_r g_sc g_d ne_b31_r ne_b31_sc ne_b31_d ne_r_sc ne_r_d ne_sc_d (by decide) (by omega) (by omega) (by rw [hcv]; decide) E_b31 TT) eT E_b31 0 (by decide) (by decide) (by decide) (by decide) (by rw [hml]; rfl) (argsL := [(.long qa), (.int (0 : Int32)), (.int (0 : Int32))]) [] (lenOf pd11 rfl) rfl rfl (Nat.le_of_eq rfl) (hb hby at_53) ?_
          intro v T L' X hQ
          obtain ⟨h, eT⟩ : ∃ z, T.heap = z := ⟨_, rfl⟩
          rw [eT] at hQ
          obtain ⟨⟨bb, rfl⟩, N', K', k0, tt0, R0, S0, D0, TT, hk0, hR0⟩ := hQ
          have N := Fr.app N N'
          have K := K.trans K' (own_all4 (Or.inr z_b31) (Or.inr z_r) (Or.inr z_sc) (Or.inr z_d))
          have E_b31 := E_b31.keep K'
          subst hk0
          show Go p e below s _ _ T (mkF m 56 #[.val (.int t), .val (.long qa), .second, .val (.long qb), .second, .val (.long qc), .second, .val (.long q), .second, .val (.int (1 : Int32)), .val (.int (1 : Int32)), .val (.ref b31), .unset, .unset] [(.int bb)])
          refine Go.of (fun _ kq => XS.pop X.here hx rfl (hb hby at_56) rfl rfl kq) ?_
          show Go p e below s _ _ T (mkF m 57 #[.val (.int t), .val (.long qa), .second, .val (.long qb), .second, .val (.long qc), .second, .val (.long q), .second, .val (.int (1 : Int32)), .val (.int (1 : Int32)), .val (.ref b31), .unset, .unset] [])
          refine Go.of (fun _ kq => XS.iload X.here hx rfl (hb hby at_57) rfl kq) ?_
          show Go p e below s _ _ T (mkF m 59 #[.val (.int t), .val (.long qa), .second, .val (.long qb), .second, .val (.long qc), .second, .val (.long q), .second, .val (.int (1 : Int32)), .val (.int (1 : Int32)), .val (.ref b31), .unset, .unset] [(.int (1 : Int32))])
          refine Go.of (fun _ kq => XS.iconst X.here hx rfl (hb hby at_59) kq) ?_
          show Go p e below s _ _ T (mkF m 60 #[.val (.int t), .val (.long qa), .second, .val (.long qb), .second, .val (.long qc), .second, .val (.long q), .second, .val (.int (1 : Int32)), .val (.int (1 : Int32)), .val (.ref b31), .unset, .unset] [(.int (2 : Int32)), (.int (1 : Int32))])
          refine Go.of (fun _ kq => XS.icmpYes X.here hx rfl (pc0 := 60) (pc' := 72) rfl (hb hby at_60) rfl (tlt (by decide)).1 (by decide) (by decide) kq) ?_
          show Go p e below s _ _ T (mkF m 72 #[.val (.int t), .val (.long qa), .second, .val (.long qb), .second, .val (.long qc), .second, .val (.long q), .second, .val (.int (1 : Int32)), .val (.int (1 : Int32)), .val (.ref b31), .unset, .unset] [])
          refine Go.of (fun _ kq => XS.iload X.here hx rfl (hb hby at_72) rfl kq) ?_
          show Go p e below s _ _ T (mkF m 74 #[.val (.int t), .val (.long qa), .second, .val (.long qb), .second, .val (.long qc), .second, .val (.long q), .second, .val (.int (1 : Int32)), .val (.int (1 : Int32)), .val (.ref b31), .unset, .unset] [(.int (1 : Int32))])
          refine Go.of (fun _ kq => XS.iconst X.here hx rfl (hb hby at_74) kq) ?_
          show Go p e below s _ _ T (mkF m 75 #[.val (.int t), .val (.long qa), .second, .val (.long qb), .second, .val (.long qc), .second, .val (.long q), .second, .val (.int (1 : Int32)), .val (.int (1 : Int32)), .val (.ref b31), .unset, .unset] [(.int (3 : Int32)), (.int (1 : Int32))])
          refine Go.of (fun _ kq => XS.icmpYes X.here hx rfl (pc0 := 75) (pc' := 88) rfl (hb hby at_75) rfl (tlt (by decide)).1 (by decide) (by decide) kq) ?_
          show Go p e below s _ _ T (mkF m 88 #[.val (.int t), .val (.long qa), .second, .val (.long qb), .second, .val (.long qc), .second, .val (.long q), .second, .val (.int (1 : Int32)), .val (.int (1 : Int32)), .val (.ref b31), .unset, .unset] [])
          have TT : TR Z h b31 r sc d (1 : Int32) (1 : Int32) cap qa qb qc := ⟨_, _, _, _, _, TT, ⟨by decide, fun _ _ => by rw [hR0]; simp [own_worst]⟩⟩
          exact jn88 () T _ _ X eT ⟨N, K, E_b31, TT⟩
        · subst hn
          show Go p e below s _ _ T (mkF m 42 #[.val (.int t), .val (.long qa), .second, .val (.long qb), .second, .val (.long qc), .second, .val (.long q), .second, .val (.int (1 : Int32)), .val (.int (2 : Int32)), .val (.ref b31), .unset, .unset] [])
          refine Go.of (fun _ kq => XS.iload X.here hx rfl (hb hby at_42) rfl kq) ?_
          show Go p e below s _ _ T (mkF m 44 #[.val (.int t), .val (.long qa), .second, .val (.long qb), .second, .val (.long qc), .second, .val (.long q), .second, .val (.int (1 : Int32)), .val (.int (2 : Int32)), .val (.ref b31), .unset, .unset] [(.int (2 : Int32))])
          refine Go.of (fun _ kq => XS.iconst X.here hx rfl (hb hby at_44) kq) ?_
          show Go p e below s _ _ T (mkF m 45 #[.val (.int t), .val (.long qa), .second, .val (.long qb), .second, .val (.long qc), .second, .val (.long q), .second, .val (.int (1 : Int32)), .val (.int (2 : Int32)), .val (.ref b31), .unset, .unset] [(.int (1 : Int32)), (.int (2 : Int32))])
          refine Go.of (fun _ kq => XS.icmpNo X.here hx rfl (hb hby at_45) rfl (flt (by decide)).1 kq) ?_
          show Go p e below s _ _ T (mkF m 48 #[.val (.int t), .val (.long qa), .second, .val (.long qb), .second, .val (.long qc), .second, .val (.long q), .second, .val (.int (1 : Int32)), .val (.int (2 : Int32)), .val (.ref b31), .unset, .unset] [])
          refine Go.of (fun _ kq => XS.aload X.here hx rfl (hb hby at_48) rfl rfl kq) ?_
          show Go p e below s _ _ T (mkF m 50 #[.val (.int t), .val (.long qa), .second, .val (.long qb), .second, .val (.long qc), .second, .val (.long q), .second, .val (.int (1 : Int32)), .val (.int (2 : Int32)), .val (.ref b31), .unset, .unset] [(.ref b31)])
          refine Go.of (fun _ kq => XS.lloadN X.here hx rfl (hb hby at_50) rfl kq) ?_
          show Go p e below s _ _ T (mkF m 51 #[.val (.int t), .val (.long qa), .second, .val (.long qb), .second, .val (.long qc), .second, .val (.long q), .second, .val (.int (1 : Int32)), .val (.int (2 : Int32)), .val (.ref b31), .unset, .unset] [(.long qa), (.ref b31)])
          refine Go.of (fun _ kq => XS.iconst X.here hx rfl (hb hby at_51) kq) ?_
          show Go p e below s _ _ T (mkF m 52 #[.val (.int t), .val (.long qa), .second, .val (.long qb), .second, .val (.long qc), .second, .val (.long q), .second, .val (.int (1 : Int32)), .val (.int (2 : Int32)), .val (.ref b31), .unset, .unset] [(.int (0 : Int32)), (.long qa), (.ref b31)])
          refine Go.of (fun _ kq => XS.iconst X.here hx rfl (hb hby at_52) kq) ?_
          show Go p e below s _ _ T (mkF m 53 #[.val (.int t), .val (.long qa), .second, .val (.long qb), .second, .val (.long qc), .second, .val (.long q), .second, .val (.int (1 : Int32)), .val (.int (2 : Int32)), .val (.ref b31), .unset, .unset] [(.int (0 : Int32)), (.int (0 : Int32)), (.long qa), (.ref b31)])
          refine Go.virtual (a := b31) X hx hZ hown (hw _ (List.mem_of_getElem? (i := 31) rfl)) (hw _ (List.mem_of_getElem? (i := 32) rfl)) (notFace_of_selects (args := #[]) (mvT hZ (hw _ (List.mem_of_getElem? (i := 34) rfl)))) (hw _ (List.mem_of_getElem? (i := 34) rfl)) (hw _ (List.mem_of_getElem? (i := 33) rfl)) (hw _ (List.mem_of_getElem? (i := 2) rfl)) (hw _ (List.mem_of_getElem? (i := 35) rfl)) (by decide) (rmOffer_lt0 hw qa (0 : Int32) (0 : Int32) b31 r sc d (1 : Int32) (0 : Int64) cap (fun _ => 0) (fun _ => 0) (fun _ => 0) _ n0 g_b31 g_r g_sc g_d ne_b31_r ne_b31_sc ne_b31_d ne_r_sc ne_r_d ne_sc_d (by decide) (by omega) (by omega) (by rw [hcv]; decide) E_b31 TT) eT E_b31 0 (by decide) (by decide) (by decide) (by decide) (by rw [hml]; rfl) (argsL := [(.long qa), (.int (0 : Int32)), (.int (0 : Int32))]) [] (lenOf pd11 rfl) rfl rfl (Nat.le_of_eq rfl) (hb hby at_53) ?_
          intro v T L' X hQ
          obtain ⟨h, eT⟩ : ∃ z, T.heap = z := ⟨_, rfl⟩
          rw [eT] at hQ
          obtain ⟨⟨bb, rfl⟩, N', K', k0, tt0, R0, S0, D0, TT, hk0, hR0⟩ := hQ
          have N := Fr.app N N'
          have K := K.trans K' (own_all4 (Or.inr z_b31) (Or.inr z_r) (Or.inr z_sc) (Or.inr z_d))
          have E_b31 := E_b31.keep K'
          subst hk0
          show Go p e below s _ _ T (mkF m 56 #[.val (.int t), .val (.long qa), .second, .val (.long qb), .second, .val (.long qc), .second, .val (.long q), .second, .val (.int (1 : Int32)), .val (.int (2 : Int32)), .val (.ref b31), .unset, .unset] [(.int bb)])
          refine Go.of (fun _ kq => XS.pop X.here hx rfl (hb hby at_56) rfl rfl kq) ?_
          show Go p e below s _ _ T (mkF m 57 #[.val (.int t), .val (.long qa), .second, .val (.long qb), .second, .val (.long qc), .second, .val (.long q), .second, .val (.int (1 : Int32)), .val (.int (2 : Int32)), .val (.ref b31), .unset, .unset] [])
          refine Go.of (fun _ kq => XS.iload X.here hx rfl (hb hby at_57) rfl kq) ?_
          show Go p e below s _ _ T (mkF m 59 #[.val (.int t), .val (.long qa), .second, .val (.long qb), .second, .val (.long qc), .second, .val (.long q), .second, .val (.int (1 : Int32)), .val (.int (2 : Int32)), .val (.ref b31), .unset, .unset] [(.int (2 : Int32))])
          refine Go.of (fun _ kq => XS.iconst X.here hx rfl (hb hby at_59) kq) ?_
          show Go p e below s _ _ T (mkF m 60 #[.val (.int t), .val (.long qa), .second, .val (.long qb), .second, .val (.long qc), .second, .val (.long q), .second, .val (.int (1 : Int32)), .val (.int (2 : Int32)), .val (.ref b31), .unset, .unset] [(.int (2 : Int32)), (.int (2 : Int32))])
          refine Go.of (fun _ kq => XS.icmpNo X.here hx rfl (hb hby at_60) rfl (flt (by decide)).1 kq) ?_
          show Go p e below s _ _ T (mkF m 63 #[.val (.int t), .val (.long qa), .second, .val (.long qb), .second, .val (.long qc), .second, .val (.long q), .second, .val (.int (1 : Int32)), .val (.int (2 : Int32)), .val (.ref b31), .unset, .unset] [])
          refine Go.of (fun _ kq => XS.aload X.here hx rfl (hb hby at_63) rfl rfl kq) ?_
          show Go p e below s _ _ T (mkF m 65 #[.val (.int t), .val (.long qa), .second, .val (.long qb), .second, .val (.long qc), .second, .val (.long q), .second, .val (.int (1 : Int32)), .val (.int (2 : Int32)), .val (.ref b31), .unset, .unset] [(.ref b31)])
          refine Go.of (fun _ kq => XS.lloadN X.here hx rfl (hb hby at_65) rfl kq) ?_
          show Go p e below s _ _ T (mkF m 66 #[.val (.int t), .val (.long qa), .second, .val (.long qb), .second, .val (.long qc), .second, .val (.long q), .second, .val (.int (1 : Int32)), .val (.int (2 : Int32)), .val (.ref b31), .unset, .unset] [(.long qb), (.ref b31)])
          refine Go.of (fun _ kq => XS.iconst X.here hx rfl (hb hby at_66) kq) ?_
          show Go p e below s _ _ T (mkF m 67 #[.val (.int t), .val (.long qa), .second, .val (.long qb), .second, .val (.long qc), .second, .val (.long q), .second, .val (.int (1 : Int32)), .val (.int (2 : Int32)), .val (.ref b31), .unset, .unset] [(.int (0 : Int32)), (.long qb), (.ref b31)])
          refine Go.of (fun _ kq => XS.iconst X.here hx rfl (hb hby at_67) kq) ?_
          show Go p e below s _ _ T (mkF m 68 #[.val (.int t), .val (.long qa), .second, .val (.long qb), .second, .val (.long qc), .second, .val (.long q), .second, .val (.int (1 : Int32)), .val (.int (2 : Int32)), .val (.ref b31), .unset, .unset] [(.int (1 : Int32)), (.int (0 : Int32)), (.long qb), (.ref b31)])
          refine Go.virtual (a := b31) X hx hZ hown (hw _ (List.mem_of_getElem? (i := 31) rfl)) (hw _ (List.mem_of_getElem? (i := 32) rfl)) (notFace_of_selects (args := #[]) (mvT hZ (hw _ (List.mem_of_getElem? (i := 34) rfl)))) (hw _ (List.mem_of_getElem? (i := 34) rfl)) (hw _ (List.mem_of_getElem? (i := 33) rfl)) (hw _ (List.mem_of_getElem? (i := 2) rfl)) (hw _ (List.mem_of_getElem? (i := 35) rfl)) (by decide) (rmOffer_eq1 hw qb (0 : Int32) (1 : Int32) b31 r sc d tt0 cap R0 S0 D0 _ n0 g_b31 g_r g_sc g_d ne_b31_r ne_b31_sc ne_b31_d ne_r_sc ne_r_d ne_sc_d (by omega) E_b31 TT) eT E_b31 0 (by decide) (by decide) (by decide) (by decide) (by rw [hml]; rfl) (argsL := [(.long qb), (.int (0 : Int32)), (.int (1 : Int32))]) [] (lenOf pd11 rfl) rfl rfl (Nat.le_of_eq rfl) (hb hby at_68) ?_
          intro v T L' X hQ
          obtain ⟨h, eT⟩ : ∃ z, T.heap = z := ⟨_, rfl⟩
          rw [eT] at hQ
          obtain ⟨⟨bb, rfl⟩, N', K', k1, tt1, R1, S1, D1, TT, hk1, hR1⟩ := hQ
          have N := Fr.app N N'
          have K := K.trans K' (own_all4 (Or.inr z_b31) (Or.inr z_r) (Or.inr z_sc) (Or.inr z_d))
          have E_b31 := E_b31.keep K'
          subst hk1
          show Go p e below s _ _ T (mkF m 71 #[.val (.int t), .val (.long qa), .second, .val (.long qb), .second, .val (.long qc), .second, .val (.long q), .second, .val (.int (1 : Int32)), .val (.int (2 : Int32)), .val (.ref b31), .unset, .unset] [(.int bb)])
          refine Go.of (fun _ kq => XS.pop X.here hx rfl (hb hby at_71) rfl rfl kq) ?_
          show Go p e below s _ _ T (mkF m 72 #[.val (.int t), .val (.long qa), .second, .val (.long qb), .second, .val (.long qc), .second, .val (.long q), .second, .val (.int (1 : Int32)), .val (.int (2 : Int32)), .val (.ref b31), .unset, .unset] [])
          refine Go.of (fun _ kq => XS.iload X.here hx rfl (hb hby at_72) rfl kq) ?_
          show Go p e below s _ _ T (mkF m 74 #[.val (.int t), .val (.long qa), .second, .val (.long qb), .second, .val (.long qc), .second, .val (.long q), .second, .val (.int (1 : Int32)), .val (.int (2 : Int32)), .val (.ref b31), .unset, .unset] [(.int (2 : Int32))])
          refine Go.of (fun _ kq => XS.iconst X.here hx rfl (hb hby at_74) kq) ?_
          show Go p e below s _ _ T (mkF m 75 #[.val (.int t), .val (.long qa), .second, .val (.long qb), .second, .val (.long qc), .second, .val (.long q), .second, .val (.int (1 : Int32)), .val (.int (2 : Int32)), .val (.ref b31), .unset, .unset] [(.int (3 : Int32)), (.int (2 : Int32))])
          refine Go.of (fun _ kq => XS.icmpYes X.here hx rfl (pc0 := 75) (pc' := 88) rfl (hb hby at_75) rfl (tlt (by decide)).1 (by decide) (by decide) kq) ?_
          show Go p e below s _ _ T (mkF m 88 #[.val (.int t), .val (.long qa), .second, .val (.long qb), .second, .val (.long qc), .second, .val (.long q), .second, .val (.int (1 : Int32)), .val (.int (2 : Int32)), .val (.ref b31), .unset, .unset] [])
          have TT : TR Z h b31 r sc d (1 : Int32) (2 : Int32) cap qa qb qc := ⟨_, _, _, _, _, TT, ⟨by decide, fun _ _ => by rw [hR1, hR0]; simp [own_worst]⟩⟩
          exact jn88 () T _ _ X eT ⟨N, K, E_b31, TT⟩
        · subst hn
          show Go p e below s _ _ T (mkF m 42 #[.val (.int t), .val (.long qa), .second, .val (.long qb), .second, .val (.long qc), .second, .val (.long q), .second, .val (.int (1 : Int32)), .val (.int (3 : Int32)), .val (.ref b31), .unset, .unset] [])
          refine Go.of (fun _ kq => XS.iload X.here hx rfl (hb hby at_42) rfl kq) ?_
          show Go p e below s _ _ T (mkF m 44 #[.val (.int t), .val (.long qa), .second, .val (.long qb), .second, .val (.long qc), .second, .val (.long q), .second, .val (.int (1 : Int32)), .val (.int (3 : Int32)), .val (.ref b31), .unset, .unset] [(.int (3 : Int32))])
          refine Go.of (fun _ kq => XS.iconst X.here hx rfl (hb hby at_44) kq) ?_
          show Go p e below s _ _ T (mkF m 45 #[.val (.int t), .val (.long qa), .second, .val (.long qb), .second, .val (.long qc), .second, .val (.long q), .second, .val (.int (1 : Int32)), .val (.int (3 : Int32)), .val (.ref b31), .unset, .unset] [(.int (1 : Int32)), (.int (3 : Int32))])
          refine Go.of (fun _ kq => XS.icmpNo X.here hx rfl (hb hby at_45) rfl (flt (by decide)).1 kq) ?_
          show Go p e below s _ _ T (mkF m 48 #[.val (.int t), .val (.long qa), .second, .val (.long qb), .second, .val (.long qc), .second, .val (.long q), .second, .val (.int (1 : Int32)), .val (.int (3 : Int32)), .val (.ref b31), .unset, .unset] [])
          refine Go.of (fun _ kq => XS.aload X.here hx rfl (hb hby at_48) rfl rfl kq) ?_
          show Go p e below s _ _ T (mkF m 50 #[.val (.int t), .val (.long qa), .second, .val (.long qb), .second, .val (.long qc), .second, .val (.long q), .second, .val (.int (1 : Int32)), .val (.int (3 : Int32)), .val (.ref b31), .unset, .unset] [(.ref b31)])
          refine Go.of (fun _ kq => XS.lloadN X.here hx rfl (hb hby at_50) rfl kq) ?_
          show Go p e below s _ _ T (mkF m 51 #[.val (.int t), .val (.long qa), .second, .val (.long qb), .second, .val (.long qc), .second, .val (.long q), .second, .val (.int (1 : Int32)), .val (.int (3 : Int32)), .val (.ref b31), .unset, .unset] [(.long qa), (.ref b31)])
          refine Go.of (fun _ kq => XS.iconst X.here hx rfl (hb hby at_51) kq) ?_
          show Go p e below s _ _ T (mkF m 52 #[.val (.int t), .val (.long qa), .second, .val (.long qb), .second, .val (.long qc), .second, .val (.long q), .second, .val (.int (1 : Int32)), .val (.int (3 : Int32)), .val (.ref b31), .unset, .unset] [(.int (0 : Int32)), (.long qa), (.ref b31)])
          refine Go.of (fun _ kq => XS.iconst X.here hx rfl (hb hby at_52) kq) ?_
          show Go p e below s _ _ T (mkF m 53 #[.val (.int t), .val (.long qa), .second, .val (.long qb), .second, .val (.long qc), .second, .val (.long q), .second, .val (.int (1 : Int32)), .val (.int (3 : Int32)), .val (.ref b31), .unset, .unset] [(.int (0 : Int32)), (.int (0 : Int32)), (.long qa), (.ref b31)])
          refine Go.virtual (a := b31) X hx hZ hown (hw _ (List.mem_of_getElem? (i := 31) rfl)) (hw _ (List.mem_of_getElem? (i := 32) rfl)) (notFace_of_selects (args := #[]) (mvT hZ (hw _ (List.mem_of_getElem? (i := 34) rfl)))) (hw _ (List.mem_of_getElem? (i := 34) rfl)) (hw _ (List.mem_of_getElem? (i := 33) rfl)) (hw _ (List.mem_of_getElem? (i := 2) rfl)) (hw _ (List.mem_of_getElem? (i := 35) rfl)) (by decide) (rmOffer_lt0 hw qa (0 : Int32) (0 : Int32) b31 r sc d (1 : Int32) (0 : Int64) cap (fun _ => 0) (fun _ => 0) (fun _ => 0) _ n0 g_b31 g_r g_sc g_d ne_b31_r ne_b31_sc ne_b31_d ne_r_sc ne_r_d ne_sc_d (by decide) (by omega) (by omega) (by rw [hcv]; decide) E_b31 TT) eT E_b31 0 (by decide) (by decide) (by decide) (by decide) (by rw [hml]; rfl) (argsL := [(.long qa), (.int (0 : Int32)), (.int (0 : Int32))]) [] (lenOf pd11 rfl) rfl rfl (Nat.le_of_eq rfl) (hb hby at_53) ?_
          intro v T L' X hQ
          obtain ⟨h, eT⟩ : ∃ z, T.heap = z := ⟨_, rfl⟩
          rw [eT] at hQ
          obtain ⟨⟨bb, rfl⟩, N', K', k0, tt0, R0, S0, D0, TT, hk0, hR0⟩ := hQ
          have N := Fr.app N N'
          have K := K.trans K' (own_all4 (Or.inr z_b31) (Or.inr z_r) (Or.inr z_sc) (Or.inr z_d))
          have E_b31 := E_b31.keep K'
          subst hk0
          show Go p e below s _ _ T (mkF m 56 #[.val (.int t), .val (.long qa), .second, .val (.long qb), .second, .val (.long qc), .second, .val (.long q), .second, .val (.int (1 : Int32)), .val (.int (3 : Int32)), .val (.ref b31), .unset, .unset] [(.int bb)])
          refine Go.of (fun _ kq => XS.pop X.here hx rfl (hb hby at_56) rfl rfl kq) ?_
          show Go p e below s _ _ T (mkF m 57 #[.val (.int t), .val (.long qa), .second, .val (.long qb), .second, .val (.long qc), .second, .val (.long q), .second, .val (.int (1 : Int32)), .val (.int (3 : Int32)), .val (.ref b31), .unset, .unset] [])
          refine Go.of (fun _ kq => XS.iload X.here hx rfl (hb hby at_57) rfl kq) ?_
          show Go p e below s _ _ T (mkF m 59 #[.val (.int t), .val (.long qa), .second, .val (.long qb), .second, .val (.long qc), .second, .val (.long q), .second, .val (.int (1 : Int32)), .val (.int (3 : Int32)), .val (.ref b31), .unset, .unset] [(.int (3 : Int32))])
          refine Go.of (fun _ kq => XS.iconst X.here hx rfl (hb hby at_59) kq) ?_
          show Go p e below s _ _ T (mkF m 60 #[.val (.int t), .val (.long qa), .second, .val (.long qb), .second, .val (.long qc), .second, .val (.long q), .second, .val (.int (1 : Int32)), .val (.int (3 : Int32)), .val (.ref b31), .unset, .unset] [(.int (2 : Int32)), (.int (3 : Int32))])
          refine Go.of (fun _ kq => XS.icmpNo X.here hx rfl (hb hby at_60) rfl (flt (by decide)).1 kq) ?_
          show Go p e below s _ _ T (mkF m 63 #[.val (.int t), .val (.long qa), .second, .val (.long qb), .second, .val (.long qc), .second, .val (.long q), .second, .val (.int (1 : Int32)), .val (.int (3 : Int32)), .val (.ref b31), .unset, .unset] [])
          refine Go.of (fun _ kq => XS.aload X.here hx rfl (hb hby at_63) rfl rfl kq) ?_
          show Go p e below s _ _ T (mkF m 65 #[.val (.int t), .val (.long qa), .second, .val (.long qb), .second, .val (.long qc), .second, .val (.long q), .second, .val (.int (1 : Int32)), .val (.int (3 : Int32)), .val (.ref b31), .unset, .unset] [(.ref b31)])
          refine Go.of (fun _ kq => XS.lloadN X.here hx rfl (hb hby at_65) rfl kq) ?_
          show Go p e below s _ _ T (mkF m 66 #[.val (.int t), .val (.long qa), .second, .val (.long qb), .second, .val (.long qc), .second, .val (.long q), .second, .val (.int (1 : Int32)), .val (.int (3 : Int32)), .val (.ref b31), .unset, .unset] [(.long qb), (.ref b31)])
          refine Go.of (fun _ kq => XS.iconst X.here hx rfl (hb hby at_66) kq) ?_
          show Go p e below s _ _ T (mkF m 67 #[.val (.int t), .val (.long qa), .second, .val (.long qb), .second, .val (.long qc), .second, .val (.long q), .second, .val (.int (1 : Int32)), .val (.int (3 : Int32)), .val (.ref b31), .unset, .unset] [(.int (0 : Int32)), (.long qb), (.ref b31)])
          refine Go.of (fun _ kq => XS.iconst X.here hx rfl (hb hby at_67) kq) ?_
          show Go p e below s _ _ T (mkF m 68 #[.val (.int t), .val (.long qa), .second, .val (.long qb), .second, .val (.long qc), .second, .val (.long q), .second, .val (.int (1 : Int32)), .val (.int (3 : Int32)), .val (.ref b31), .unset, .unset] [(.int (1 : Int32)), (.int (0 : Int32)), (.long qb), (.ref b31)])
          refine Go.virtual (a := b31) X hx hZ hown (hw _ (List.mem_of_getElem? (i := 31) rfl)) (hw _ (List.mem_of_getElem? (i := 32) rfl)) (notFace_of_selects (args := #[]) (mvT hZ (hw _ (List.mem_of_getElem? (i := 34) rfl)))) (hw _ (List.mem_of_getElem? (i := 34) rfl)) (hw _ (List.mem_of_getElem? (i := 33) rfl)) (hw _ (List.mem_of_getElem? (i := 2) rfl)) (hw _ (List.mem_of_getElem? (i := 35) rfl)) (by decide) (rmOffer_eq1 hw qb (0 : Int32) (1 : Int32) b31 r sc d tt0 cap R0 S0 D0 _ n0 g_b31 g_r g_sc g_d ne_b31_r ne_b31_sc ne_b31_d ne_r_sc ne_r_d ne_sc_d (by omega) E_b31 TT) eT E_b31 0 (by decide) (by decide) (by decide) (by decide) (by rw [hml]; rfl) (argsL := [(.long qb), (.int (0 : Int32)), (.int (1 : Int32))]) [] (lenOf pd11 rfl) rfl rfl (Nat.le_of_eq rfl) (hb hby at_68) ?_
          intro v T L' X hQ
          obtain ⟨h, eT⟩ : ∃ z, T.heap = z := ⟨_, rfl⟩
          rw [eT] at hQ
          obtain ⟨⟨bb, rfl⟩, N', K', k1, tt1, R1, S1, D1, TT, hk1, hR1⟩ := hQ
          have N := Fr.app N N'
          have K := K.trans K' (own_all4 (Or.inr z_b31) (Or.inr z_r) (Or.inr z_sc) (Or.inr z_d))
          have E_b31 := E_b31.keep K'
          subst hk1
          show Go p e below s _ _ T (mkF m 71 #[.val (.int t), .val (.long qa), .second, .val (.long qb), .second, .val (.long qc), .second, .val (.long q), .second, .val (.int (1 : Int32)), .val (.int (3 : Int32)), .val (.ref b31), .unset, .unset] [(.int bb)])
          refine Go.of (fun _ kq => XS.pop X.here hx rfl (hb hby at_71) rfl rfl kq) ?_
          show Go p e below s _ _ T (mkF m 72 #[.val (.int t), .val (.long qa), .second, .val (.long qb), .second, .val (.long qc), .second, .val (.long q), .second, .val (.int (1 : Int32)), .val (.int (3 : Int32)), .val (.ref b31), .unset, .unset] [])
          refine Go.of (fun _ kq => XS.iload X.here hx rfl (hb hby at_72) rfl kq) ?_
          show Go p e below s _ _ T (mkF m 74 #[.val (.int t), .val (.long qa), .second, .val (.long qb), .second, .val (.long qc), .second, .val (.long q), .second, .val (.int (1 : Int32)), .val (.int (3 : Int32)), .val (.ref b31), .unset, .unset] [(.int (3 : Int32))])
          refine Go.of (fun _ kq => XS.iconst X.here hx rfl (hb hby at_74) kq) ?_
          show Go p e below s _ _ T (mkF m 75 #[.val (.int t), .val (.long qa), .second, .val (.long qb), .second, .val (.long qc), .second, .val (.long q), .second, .val (.int (1 : Int32)), .val (.int (3 : Int32)), .val (.ref b31), .unset, .unset] [(.int (3 : Int32)), (.int (3 : Int32))])
          refine Go.of (fun _ kq => XS.icmpNo X.here hx rfl (hb hby at_75) rfl (flt (by decide)).1 kq) ?_
          show Go p e below s _ _ T (mkF m 78 #[.val (.int t), .val (.long qa), .second, .val (.long qb), .second, .val (.long qc), .second, .val (.long q), .second, .val (.int (1 : Int32)), .val (.int (3 : Int32)), .val (.ref b31), .unset, .unset] [])
          refine Go.of (fun _ kq => XS.aload X.here hx rfl (hb hby at_78) rfl rfl kq) ?_
          show Go p e below s _ _ T (mkF m 80 #[.val (.int t), .val (.long qa), .second, .val (.long qb), .second, .val (.long qc), .second, .val (.long q), .second, .val (.int (1 : Int32)), .val (.int (3 : Int32)), .val (.ref b31), .unset, .unset] [(.ref b31)])
          refine Go.of (fun _ kq => XS.lload X.here hx rfl (hb hby at_80) rfl kq) ?_
          show Go p e below s _ _ T (mkF m 82 #[.val (.int t), .val (.long qa), .second, .val (.long qb), .second, .val (.long qc), .second, .val (.long q), .second, .val (.int (1 : Int32)), .val (.int (3 : Int32)), .val (.ref b31), .unset, .unset] [(.long qc), (.ref b31)])
          refine Go.of (fun _ kq => XS.iconst X.here hx rfl (hb hby at_82) kq) ?_
          show Go p e below s _ _ T (mkF m 83 #[.val (.int t), .val (.long qa), .second, .val (.long qb), .second, .val (.long qc), .second, .val (.long q), .second, .val (.int (1 : Int32)), .val (.int (3 : Int32)), .val (.ref b31), .unset, .unset] [(.int (0 : Int32)), (.long qc), (.ref b31)])
          refine Go.of (fun _ kq => XS.iconst X.here hx rfl (hb hby at_83) kq) ?_
          show Go p e below s _ _ T (mkF m 84 #[.val (.int t), .val (.long qa), .second, .val (.long qb), .second, .val (.long qc), .second, .val (.long q), .second, .val (.int (1 : Int32)), .val (.int (3 : Int32)), .val (.ref b31), .unset, .unset] [(.int (2 : Int32)), (.int (0 : Int32)), (.long qc), (.ref b31)])
          refine Go.virtual (a := b31) X hx hZ hown (hw _ (List.mem_of_getElem? (i := 31) rfl)) (hw _ (List.mem_of_getElem? (i := 32) rfl)) (notFace_of_selects (args := #[]) (mvT hZ (hw _ (List.mem_of_getElem? (i := 34) rfl)))) (hw _ (List.mem_of_getElem? (i := 34) rfl)) (hw _ (List.mem_of_getElem? (i := 33) rfl)) (hw _ (List.mem_of_getElem? (i := 2) rfl)) (hw _ (List.mem_of_getElem? (i := 35) rfl)) (by decide) (rmOffer_eq1 hw qc (0 : Int32) (2 : Int32) b31 r sc d tt1 cap R1 S1 D1 _ n0 g_b31 g_r g_sc g_d ne_b31_r ne_b31_sc ne_b31_d ne_r_sc ne_r_d ne_sc_d (by omega) E_b31 TT) eT E_b31 0 (by decide) (by decide) (by decide) (by decide) (by rw [hml]; rfl) (argsL := [(.long qc), (.int (0 : Int32)), (.int (2 : Int32))]) [] (lenOf pd11 rfl) rfl rfl (Nat.le_of_eq rfl) (hb hby at_84) ?_
          intro v T L' X hQ
          obtain ⟨h, eT⟩ : ∃ z, T.heap = z := ⟨_, rfl⟩
          rw [eT] at hQ
          obtain ⟨⟨bb, rfl⟩, N', K', k2, tt2, R2, S2, D2, TT, hk2, hR2⟩ := hQ
          have N := Fr.app N N'
          have K := K.trans K' (own_all4 (Or.inr z_b31) (Or.inr z_r) (Or.inr z_sc) (Or.inr z_d))
          have E_b31 := E_b31.keep K'
          subst hk2
          show Go p e below s _ _ T (mkF m 87 #[.val (.int t), .val (.long qa), .second, .val (.long qb), .second, .val (.long qc), .second, .val (.long q), .second, .val (.int (1 : Int32)), .val (.int (3 : Int32)), .val (.ref b31), .unset, .unset] [(.int bb)])
          refine Go.of (fun _ kq => XS.pop X.here hx rfl (hb hby at_87) rfl rfl kq) ?_
          show Go p e below s _ _ T (mkF m 88 #[.val (.int t), .val (.long qa), .second, .val (.long qb), .second, .val (.long qc), .second, .val (.long q), .second, .val (.int (1 : Int32)), .val (.int (3 : Int32)), .val (.ref b31), .unset, .unset] [])
          have TT : TR Z h b31 r sc d (1 : Int32) (3 : Int32) cap qa qb qc := ⟨_, _, _, _, _, TT, ⟨by decide, fun _ _ => by rw [hR2, hR1, hR0]; simp [own_worst]⟩⟩
          exact jn88 () T _ _ X eT ⟨N, K, E_b31, TT⟩
      · subst ht
        have hcv : cap = 2 := by rw [hcap, hc0]; decide
        rcases hn4 with hn | hn | hn | hn
        · subst hn
          show Go p e below s _ _ T (mkF m 42 #[.val (.int t), .val (.long qa), .second, .val (.long qb), .second, .val (.long qc), .second, .val (.long q), .second, .val (.int (2 : Int32)), .val (.int (0 : Int32)), .val (.ref b31), .unset, .unset] [])
          refine Go.of (fun _ kq => XS.iload X.here hx rfl (hb hby at_42) rfl kq) ?_
          show Go p e below s _ _ T (mkF m 44 #[.val (.int t), .val (.long qa), .second, .val (.long qb), .second, .val (.long qc), .second, .val (.long q), .second, .val (.int (2 : Int32)), .val (.int (0 : Int32)), .val (.ref b31), .unset, .unset] [(.int (0 : Int32))])
          refine Go.of (fun _ kq => XS.iconst X.here hx rfl (hb hby at_44) kq) ?_
          show Go p e below s _ _ T (mkF m 45 #[.val (.int t), .val (.long qa), .second, .val (.long qb), .second, .val (.long qc), .second, .val (.long q), .second, .val (.int (2 : Int32)), .val (.int (0 : Int32)), .val (.ref b31), .unset, .unset] [(.int (1 : Int32)), (.int (0 : Int32))])
          refine Go.of (fun _ kq => XS.icmpYes X.here hx rfl (pc0 := 45) (pc' := 57) rfl (hb hby at_45) rfl (tlt (by decide)).1 (by decide) (by decide) kq) ?_
          show Go p e below s _ _ T (mkF m 57 #[.val (.int t), .val (.long qa), .second, .val (.long qb), .second, .val (.long qc), .second, .val (.long q), .second, .val (.int (2 : Int32)), .val (.int (0 : Int32)), .val (.ref b31), .unset, .unset] [])
          refine Go.of (fun _ kq => XS.iload X.here hx rfl (hb hby at_57) rfl kq) ?_
          show Go p e below s _ _ T (mkF m 59 #[.val (.int t), .val (.long qa), .second, .val (.long qb), .second, .val (.long qc), .second, .val (.long q), .second, .val (.int (2 : Int32)), .val (.int (0 : Int32)), .val (.ref b31), .unset, .unset] [(.int (0 : Int32))])
          refine Go.of (fun _ kq => XS.iconst X.here hx rfl (hb hby at_59) kq) ?_
          show Go p e below s _ _ T (mkF m 60 #[.val (.int t), .val (.long qa), .second, .val (.long qb), .second, .val (.long qc), .second, .val (.long q), .second, .val (.int (2 : Int32)), .val (.int (0 : Int32)), .val (.ref b31), .unset, .unset] [(.int (2 : Int32)), (.int (0 : Int32))])
          refine Go.of (fun _ kq => XS.icmpYes X.here hx rfl (pc0 := 60) (pc' := 72) rfl (hb hby at_60) rfl (tlt (by decide)).1 (by decide) (by decide) kq) ?_
          show Go p e below s _ _ T (mkF m 72 #[.val (.int t), .val (.long qa), .second, .val (.long qb), .second, .val (.long qc), .second, .val (.long q), .second, .val (.int (2 : Int32)), .val (.int (0 : Int32)), .val (.ref b31), .unset, .unset] [])
          refine Go.of (fun _ kq => XS.iload X.here hx rfl (hb hby at_72) rfl kq) ?_
          show Go p e below s _ _ T (mkF m 74 #[.val (.int t), .val (.long qa), .second, .val (.long qb), .second, .val (.long qc), .second, .val (.long q), .second, .val (.int (2 : Int32)), .val (.int (0 : Int32)), .val (.ref b31), .unset, .unset] [(.int (0 : Int32))])
          refine Go.of (fun _ kq => XS.iconst X.here hx rfl (hb hby at_74) kq) ?_
          show Go p e below s _ _ T (mkF m 75 #[.val (.int t), .val (.long qa), .second, .val (.long qb), .second, .val (.long qc), .second, .val (.long q), .second, .val (.int (2 : Int32)), .val (.int (0 : Int32)), .val (.ref b31), .unset, .unset] [(.int (3 : Int32)), (.int (0 : Int32))])
          refine Go.of (fun _ kq => XS.icmpYes X.here hx rfl (pc0 := 75) (pc' := 88) rfl (hb hby at_75) rfl (tlt (by decide)).1 (by decide) (by decide) kq) ?_
          show Go p e below s _ _ T (mkF m 88 #[.val (.int t), .val (.long qa), .second, .val (.long qb), .second, .val (.long qc), .second, .val (.long q), .second, .val (.int (2 : Int32)), .val (.int (0 : Int32)), .val (.ref b31), .unset, .unset] [])
          have TT : TR Z h b31 r sc d (2 : Int32) (0 : Int32) cap qa qb qc := ⟨_, _, _, _, _, TT, ⟨by decide, fun q => absurd (by decide) q⟩⟩
          exact jn88 () T _ _ X eT ⟨N, K, E_b31, TT⟩
        · subst hn
          show Go p e below s _ _ T (mkF m 42 #[.val (.int t), .val (.long qa), .second, .val (.long qb), .second, .val (.long qc), .second, .val (.long q), .second, .val (.int (2 : Int32)), .val (.int (1 : Int32)), .val (.ref b31), .unset, .unset] [])
          refine Go.of (fun _ kq => XS.iload X.here hx rfl (hb hby at_42) rfl kq) ?_
          show Go p e below s _ _ T (mkF m 44 #[.val (.int t), .val (.long qa), .second, .val (.long qb), .second, .val (.long qc), .second, .val (.long q), .second, .val (.int (2 : Int32)), .val (.int (1 : Int32)), .val (.ref b31), .unset, .unset] [(.int (1 : Int32))])
          refine Go.of (fun _ kq => XS.iconst X.here hx rfl (hb hby at_44) kq) ?_
          show Go p e below s _ _ T (mkF m 45 #[.val (.int t), .val (.long qa), .second, .val (.long qb), .second, .val (.long qc), .second, .val (.long q), .second, .val (.int (2 : Int32)), .val (.int (1 : Int32)), .val (.ref b31), .unset, .unset] [(.int (1 : Int32)), (.int (1 : Int32))])
          refine Go.of (fun _ kq => XS.icmpNo X.here hx rfl (hb hby at_45) rfl (flt (by decide)).1 kq) ?_
          show Go p e below s _ _ T (mkF m 48 #[.val (.int t), .val (.long qa), .second, .val (.long qb), .second, .val (.long qc), .second, .val (.long q), .second, .val (.int (2 : Int32)), .val (.int (1 : Int32)), .val (.ref b31), .unset, .unset] [])
          refine Go.of (fun _ kq => XS.aload X.here hx rfl (hb hby at_48) rfl rfl kq) ?_
          show Go p e below s _ _ T (mkF m 50 #[.val (.int t), .val (.long qa), .second, .val (.long qb), .second, .val (.long qc), .second, .val (.long q), .second, .val (.int (2 : Int32)), .val (.int (1 : Int32)), .val (.ref b31), .unset, .unset] [(.ref b31)])
          refine Go.of (fun _ kq => XS.lloadN X.here hx rfl (hb hby at_50) rfl kq) ?_
          show Go p e below s _ _ T (mkF m 51 #[.val (.int t), .val (.long qa), .second, .val (.long qb), .second, .val (.long qc), .second, .val (.long q), .second, .val (.int (2 : Int32)), .val (.int (1 : Int32)), .val (.ref b31), .unset, .unset] [(.long qa), (.ref b31)])
          refine Go.of (fun _ kq => XS.iconst X.here hx rfl (hb hby at_51) kq) ?_
          show Go p e below s _ _ T (mkF m 52 #[.val (.int t), .val (.long qa), .second, .val (.long qb), .second, .val (.long qc), .second, .val (.long q), .second, .val (.int (2 : Int32)), .val (.int (1 : Int32)), .val (.ref b31), .unset, .unset] [(.int (0 : Int32)), (.long qa), (.ref b31)])
          refine Go.of (fun _ kq => XS.iconst X.here hx rfl (hb hby at_52) kq) ?_
          show Go p e below s _ _ T (mkF m 53 #[.val (.int t), .val (.long qa), .second, .val (.long qb), .second, .val (.long qc), .second, .val (.long q), .second, .val (.int (2 : Int32)), .val (.int (1 : Int32)), .val (.ref b31), .unset, .unset] [(.int (0 : Int32)), (.int (0 : Int32)), (.long qa), (.ref b31)])
          refine Go.virtual (a := b31) X hx hZ hown (hw _ (List.mem_of_getElem? (i := 31) rfl)) (hw _ (List.mem_of_getElem? (i := 32) rfl)) (notFace_of_selects (args := #[]) (mvT hZ (hw _ (List.mem_of_getElem? (i := 34) rfl)))) (hw _ (List.mem_of_getElem? (i := 34) rfl)) (hw _ (List.mem_of_getElem? (i := 33) rfl)) (hw _ (List.mem_of_getElem? (i := 2) rfl)) (hw _ (List.mem_of_getElem? (i := 35) rfl)) (by decide) (rmOffer_lt0 hw qa (0 : Int32) (0 : Int32) b31 r sc d (2 : Int32) (0 : Int64) cap (fun _ => 0) (fun _ => 0) (fun _ => 0) _ n0 g_b31 g_r g_sc g_d ne_b31_r ne_b31_sc ne_b31_d ne_r_sc ne_r_d ne_sc_d (by decide) (by omega) (by omega) (by rw [hcv]; decide) E_b31 TT) eT E_b31 0 (by decide) (by decide) (by decide) (by decide) (by rw [hml]; rfl) (argsL := [(.long qa), (.int (0 : Int32)), (.int (0 : Int32))]) [] (lenOf pd11 rfl) rfl rfl (Nat.le_of_eq rfl) (hb hby at_53) ?_
          intro v T L' X hQ
          obtain ⟨h, eT⟩ : ∃ z, T.heap = z := ⟨_, rfl⟩
          rw [eT] at hQ
          obtain ⟨⟨bb, rfl⟩, N', K', k0, tt0, R0, S0, D0, TT, hk0, hR0⟩ := hQ
          have N := Fr.app N N'
          have K := K.trans K' (own_all4 (Or.inr z_b31) (Or.inr z_r) (Or.inr z_sc) (Or.inr z_d))
          have E_b31 := E_b31.keep K'
          subst hk0
          show Go p e below s _ _ T (mkF m 56 #[.val (.int t), .val (.long qa), .second, .val (.long qb), .second, .val (.long qc), .second, .val (.long q), .second, .val (.int (2 : Int32)), .val (.int (1 : Int32)), .val (.ref b31), .unset, .unset] [(.int bb)])
          refine Go.of (fun _ kq => XS.pop X.here hx rfl (hb hby at_56) rfl rfl kq) ?_
          show Go p e below s _ _ T (mkF m 57 #[.val (.int t), .val (.long qa), .second, .val (.long qb), .second, .val (.long qc), .second, .val (.long q), .second, .val (.int (2 : Int32)), .val (.int (1 : Int32)), .val (.ref b31), .unset, .unset] [])
          refine Go.of (fun _ kq => XS.iload X.here hx rfl (hb hby at_57) rfl kq) ?_
          show Go p e below s _ _ T (mkF m 59 #[.val (.int t), .val (.long qa), .second, .val (.long qb), .second, .val (.long qc), .second, .val (.long q), .second, .val (.int (2 : Int32)), .val (.int (1 : Int32)), .val (.ref b31), .unset, .unset] [(.int (1 : Int32))])
          refine Go.of (fun _ kq => XS.iconst X.here hx rfl (hb hby at_59) kq) ?_
          show Go p e below s _ _ T (mkF m 60 #[.val (.int t), .val (.long qa), .second, .val (.long qb), .second, .val (.long qc), .second, .val (.long q), .second, .val (.int (2 : Int32)), .val (.int (1 : Int32)), .val (.ref b31), .unset, .unset] [(.int (2 : Int32)), (.int (1 : Int32))])
          refine Go.of (fun _ kq => XS.icmpYes X.here hx rfl (pc0 := 60) (pc' := 72) rfl (hb hby at_60) rfl (tlt (by decide)).1 (by decide) (by decide) kq) ?_
          show Go p e below s _ _ T (mkF m 72 #[.val (.int t), .val (.long qa), .second, .val (.long qb), .second, .val (.long qc), .second, .val (.long q), .second, .val (.int (2 : Int32)), .val (.int (1 : Int32)), .val (.ref b31), .unset, .unset] [])
          refine Go.of (fun _ kq => XS.iload X.here hx rfl (hb hby at_72) rfl kq) ?_
          show Go p e below s _ _ T (mkF m 74 #[.val (.int t), .val (.long qa), .second, .val (.long qb), .second, .val (.long qc), .second, .val (.long q), .second, .val (.int (2 : Int32)), .val (.int (1 : Int32)), .val (.ref b31), .unset, .unset] [(.int (1 : Int32))])
          refine Go.of (fun _ kq => XS.iconst X.here hx rfl (hb hby at_74) kq) ?_
          show Go p e below s _ _ T (mkF m 75 #[.val (.int t), .val (.long qa), .second, .val (.long qb), .second, .val (.long qc), .second, .val (.long q), .second, .val (.int (2 : Int32)), .val (.int (1 : Int32)), .val (.ref b31), .unset, .unset] [(.int (3 : Int32)), (.int (1 : Int32))])
          refine Go.of (fun _ kq => XS.icmpYes X.here hx rfl (pc0 := 75) (pc' := 88) rfl (hb hby at_75) rfl (tlt (by decide)).1 (by decide) (by decide) kq) ?_
          show Go p e below s _ _ T (mkF m 88 #[.val (.int t), .val (.long qa), .second, .val (.long qb), .second, .val (.long qc), .second, .val (.long q), .second, .val (.int (2 : Int32)), .val (.int (1 : Int32)), .val (.ref b31), .unset, .unset] [])
          have TT : TR Z h b31 r sc d (2 : Int32) (1 : Int32) cap qa qb qc := ⟨_, _, _, _, _, TT, ⟨by decide, fun q => absurd (by decide) q⟩⟩
          exact jn88 () T _ _ X eT ⟨N, K, E_b31, TT⟩
        · subst hn
          show Go p e below s _ _ T (mkF m 42 #[.val (.int t), .val (.long qa), .second, .val (.long qb), .second, .val (.long qc), .second, .val (.long q), .second, .val (.int (2 : Int32)), .val (.int (2 : Int32)), .val (.ref b31), .unset, .unset] [])
          refine Go.of (fun _ kq => XS.iload X.here hx rfl (hb hby at_42) rfl kq) ?_
          show Go p e below s _ _ T (mkF m 44 #[.val (.int t), .val (.long qa), .second, .val (.long qb), .second, .val (.long qc), .second, .val (.long q), .second, .val (.int (2 : Int32)), .val (.int (2 : Int32)), .val (.ref b31), .unset, .unset] [(.int (2 : Int32))])
          refine Go.of (fun _ kq => XS.iconst X.here hx rfl (hb hby at_44) kq) ?_
          show Go p e below s _ _ T (mkF m 45 #[.val (.int t), .val (.long qa), .second, .val (.long qb), .second, .val (.long qc), .second, .val (.long q), .second, .val (.int (2 : Int32)), .val (.int (2 : Int32)), .val (.ref b31), .unset, .unset] [(.int (1 : Int32)), (.int (2 : Int32))])
          refine Go.of (fun _ kq => XS.icmpNo X.here hx rfl (hb hby at_45) rfl (flt (by decide)).1 kq) ?_
          show Go p e below s _ _ T (mkF m 48 #[.val (.int t), .val (.long qa), .second, .val (.long qb), .second, .val (.long qc), .second, .val (.long q), .second, .val (.int (2 : Int32)), .val (.int (2 : Int32)), .val (.ref b31), .unset, .unset] [])
          refine Go.of (fun _ kq => XS.aload X.here hx rfl (hb hby at_48) rfl rfl kq) ?_
          show Go p e below s _ _ T (mkF m 50 #[.val (.int t), .val (.long qa), .second, .val (.long qb), .second, .val (.long qc), .second, .val (.long q), .second, .val (.int (2 : Int32)), .val (.int (2 : Int32)), .val (.ref b31), .unset, .unset] [(.ref b31)])
          refine Go.of (fun _ kq => XS.lloadN X.here hx rfl (hb hby at_50) rfl kq) ?_
          show Go p e below s _ _ T (mkF m 51 #[.val (.int t), .val (.long qa), .second, .val (.long qb), .second, .val (.long qc), .second, .val (.long q), .second, .val (.int (2 : Int32)), .val (.int (2 : Int32)), .val (.ref b31), .unset, .unset] [(.long qa), (.ref b31)])
          refine Go.of (fun _ kq => XS.iconst X.here hx rfl (hb hby at_51) kq) ?_
          show Go p e below s _ _ T (mkF m 52 #[.val (.int t), .val (.long qa), .second, .val (.long qb), .second, .val (.long qc), .second, .val (.long q), .second, .val (.int (2 : Int32)), .val (.int (2 : Int32)), .val (.ref b31), .unset, .unset] [(.int (0 : Int32)), (.long qa), (.ref b31)])
          refine Go.of (fun _ kq => XS.iconst X.here hx rfl (hb hby at_52) kq) ?_
          show Go p e below s _ _ T (mkF m 53 #[.val (.int t), .val (.long qa), .second, .val (.long qb), .second, .val (.long qc), .second, .val (.long q), .second, .val (.int (2 : Int32)), .val (.int (2 : Int32)), .val (.ref b31), .unset, .unset] [(.int (0 : Int32)), (.int (0 : Int32)), (.long qa), (.ref b31)])
          refine Go.virtual (a := b31) X hx hZ hown (hw _ (List.mem_of_getElem? (i := 31) rfl)) (hw _ (List.mem_of_getElem? (i := 32) rfl)) (notFace_of_selects (args := #[]) (mvT hZ (hw _ (List.mem_of_getElem? (i := 34) rfl)))) (hw _ (List.mem_of_getElem? (i := 34) rfl)) (hw _ (List.mem_of_getElem? (i := 33) rfl)) (hw _ (List.mem_of_getElem? (i := 2) rfl)) (hw _ (List.mem_of_getElem? (i := 35) rfl)) (by decide) (rmOffer_lt0 hw qa (0 : Int32) (0 : Int32) b31 r sc d (2 : Int32) (0 : Int64) cap (fun _ => 0) (fun _ => 0) (fun _ => 0) _ n0 g_b31 g_r g_sc g_d ne_b31_r ne_b31_sc ne_b31_d ne_r_sc ne_r_d ne_sc_d (by decide) (by omega) (by omega) (by rw [hcv]; decide) E_b31 TT) eT E_b31 0 (by decide) (by decide) (by decide) (by decide) (by rw [hml]; rfl) (argsL := [(.long qa), (.int (0 : Int32)), (.int (0 : Int32))]) [] (lenOf pd11 rfl) rfl rfl (Nat.le_of_eq rfl) (hb hby at_53) ?_
          intro v T L' X hQ
          obtain ⟨h, eT⟩ : ∃ z, T.heap = z := ⟨_, rfl⟩
          rw [eT] at hQ
          obtain ⟨⟨bb, rfl⟩, N', K', k0, tt0, R0, S0, D0, TT, hk0, hR0⟩ := hQ
          have N := Fr.app N N'
          have K := K.trans K' (own_all4 (Or.inr z_b31) (Or.inr z_r) (Or.inr z_sc) (Or.inr z_d))
          have E_b31 := E_b31.keep K'
          subst hk0
          show Go p e below s _ _ T (mkF m 56 #[.val (.int t), .val (.long qa), .second, .val (.long qb), .second, .val (.long qc), .second, .val (.long q), .second, .val (.int (2 : Int32)), .val (.int (2 : Int32)), .val (.ref b31), .unset, .unset] [(.int bb)])
          refine Go.of (fun _ kq => XS.pop X.here hx rfl (hb hby at_56) rfl rfl kq) ?_
          show Go p e below s _ _ T (mkF m 57 #[.val (.int t), .val (.long qa), .second, .val (.long qb), .second, .val (.long qc), .second, .val (.long q), .second, .val (.int (2 : Int32)), .val (.int (2 : Int32)), .val (.ref b31), .unset, .unset] [])
          refine Go.of (fun _ kq => XS.iload X.here hx rfl (hb hby at_57) rfl kq) ?_
          show Go p e below s _ _ T (mkF m 59 #[.val (.int t), .val (.long qa), .second, .val (.long qb), .second, .val (.long qc), .second, .val (.long q), .second, .val (.int (2 : Int32)), .val (.int (2 : Int32)), .val (.ref b31), .unset, .unset] [(.int (2 : Int32))])
          refine Go.of (fun _ kq => XS.iconst X.here hx rfl (hb hby at_59) kq) ?_
          show Go p e below s _ _ T (mkF m 60 #[.val (.int t), .val (.long qa), .second, .val (.long qb), .second, .val (.long qc), .second, .val (.long q), .second, .val (.int (2 : Int32)), .val (.int (2 : Int32)), .val (.ref b31), .unset, .unset] [(.int (2 : Int32)), (.int (2 : Int32))])
          refine Go.of (fun _ kq => XS.icmpNo X.here hx rfl (hb hby at_60) rfl (flt (by decide)).1 kq) ?_
          show Go p e below s _ _ T (mkF m 63 #[.val (.int t), .val (.long qa), .second, .val (.long qb), .second, .val (.long qc), .second, .val (.long q), .second, .val (.int (2 : Int32)), .val (.int (2 : Int32)), .val (.ref b31), .unset, .unset] [])
          refine Go.of (fun _ kq => XS.aload X.here hx rfl (hb hby at_63) rfl rfl kq) ?_
          show Go p e below s _ _ T (mkF m 65 #[.val (.int t), .val (.long qa), .second, .val (.long qb), .second, .val (.long qc), .second, .val (.long q), .second, .val (.int (2 : Int32)), .val (.int (2 : Int32)), .val (.ref b31), .unset, .unset] [(.ref b31)])
          refine Go.of (fun _ kq => XS.lloadN X.here hx rfl (hb hby at_65) rfl kq) ?_
          show Go p e below s _ _ T (mkF m 66 #[.val (.int t), .val (.long qa), .second, .val (.long qb), .second, .val (.long qc), .second, .val (.long q), .second, .val (.int (2 : Int32)), .val (.int (2 : Int32)), .val (.ref b31), .unset, .unset] [(.long qb), (.ref b31)])
          refine Go.of (fun _ kq => XS.iconst X.here hx rfl (hb hby at_66) kq) ?_
          show Go p e below s _ _ T (mkF m 67 #[.val (.int t), .val (.long qa), .second, .val (.long qb), .second, .val (.long qc), .second, .val (.long q), .second, .val (.int (2 : Int32)), .val (.int (2 : Int32)), .val (.ref b31), .unset, .unset] [(.int (0 : Int32)), (.long qb), (.ref b31)])
          refine Go.of (fun _ kq => XS.iconst X.here hx rfl (hb hby at_67) kq) ?_
          show Go p e below s _ _ T (mkF m 68 #[.val (.int t), .val (.long qa), .second, .val (.long qb), .second, .val (.long qc), .second, .val (.long q), .second, .val (.int (2 : Int32)), .val (.int (2 : Int32)), .val (.ref b31), .unset, .unset] [(.int (1 : Int32)), (.int (0 : Int32)), (.long qb), (.ref b31)])
          refine Go.virtual (a := b31) X hx hZ hown (hw _ (List.mem_of_getElem? (i := 31) rfl)) (hw _ (List.mem_of_getElem? (i := 32) rfl)) (notFace_of_selects (args := #[]) (mvT hZ (hw _ (List.mem_of_getElem? (i := 34) rfl)))) (hw _ (List.mem_of_getElem? (i := 34) rfl)) (hw _ (List.mem_of_getElem? (i := 33) rfl)) (hw _ (List.mem_of_getElem? (i := 2) rfl)) (hw _ (List.mem_of_getElem? (i := 35) rfl)) (by decide) (rmOffer_lt1 hw qb (0 : Int32) (1 : Int32) b31 r sc d (2 : Int32) tt0 cap R0 S0 D0 _ n0 g_b31 g_r g_sc g_d ne_b31_r ne_b31_sc ne_b31_d ne_r_sc ne_r_d ne_sc_d (by decide) (by omega) (by omega) (by rw [hcv]; decide) E_b31 TT) eT E_b31 0 (by decide) (by decide) (by decide) (by decide) (by rw [hml]; rfl) (argsL := [(.long qb), (.int (0 : Int32)), (.int (1 : Int32))]) [] (lenOf pd11 rfl) rfl rfl (Nat.le_of_eq rfl) (hb hby at_68) ?_
          intro v T L' X hQ
          obtain ⟨h, eT⟩ : ∃ z, T.heap = z := ⟨_, rfl⟩
          rw [eT] at hQ
          obtain ⟨⟨bb, rfl⟩, N', K', k1, tt1, R1, S1, D1, TT, hk1, hR1, hM1⟩ := hQ
          have N := Fr.app N N'
          have K := K.trans K' (own_all4 (Or.inr z_b31) (Or.inr z_r) (Or.inr z_sc) (Or.inr z_d))
          have E_b31 := E_b31.keep K'
          subst hk1
          show Go p e below s _ _ T (mkF m 71 #[.val (.int t), .val (.long qa), .second, .val (.long qb), .second, .val (.long qc), .second, .val (.long q), .second, .val (.int (2 : Int32)), .val (.int (2 : Int32)), .val (.ref b31), .unset, .unset] [(.int bb)])
          refine Go.of (fun _ kq => XS.pop X.here hx rfl (hb hby at_71) rfl rfl kq) ?_
          show Go p e below s _ _ T (mkF m 72 #[.val (.int t), .val (.long qa), .second, .val (.long qb), .second, .val (.long qc), .second, .val (.long q), .second, .val (.int (2 : Int32)), .val (.int (2 : Int32)), .val (.ref b31), .unset, .unset] [])
          refine Go.of (fun _ kq => XS.iload X.here hx rfl (hb hby at_72) rfl kq) ?_
          show Go p e below s _ _ T (mkF m 74 #[.val (.int t), .val (.long qa), .second, .val (.long qb), .second, .val (.long qc), .second, .val (.long q), .second, .val (.int (2 : Int32)), .val (.int (2 : Int32)), .val (.ref b31), .unset, .unset] [(.int (2 : Int32))])
          refine Go.of (fun _ kq => XS.iconst X.here hx rfl (hb hby at_74) kq) ?_
          show Go p e below s _ _ T (mkF m 75 #[.val (.int t), .val (.long qa), .second, .val (.long qb), .second, .val (.long qc), .second, .val (.long q), .second, .val (.int (2 : Int32)), .val (.int (2 : Int32)), .val (.ref b31), .unset, .unset] [(.int (3 : Int32)), (.int (2 : Int32))])
          refine Go.of (fun _ kq => XS.icmpYes X.here hx rfl (pc0 := 75) (pc' := 88) rfl (hb hby at_75) rfl (tlt (by decide)).1 (by decide) (by decide) kq) ?_
          show Go p e below s _ _ T (mkF m 88 #[.val (.int t), .val (.long qa), .second, .val (.long qb), .second, .val (.long qc), .second, .val (.long q), .second, .val (.int (2 : Int32)), .val (.int (2 : Int32)), .val (.ref b31), .unset, .unset] [])
          have TT : TR Z h b31 r sc d (2 : Int32) (2 : Int32) cap qa qb qc := ⟨_, _, _, _, _, TT, ⟨by decide, fun _ _ => by rw [hR1, hR0]; simp [own_worst]⟩⟩
          exact jn88 () T _ _ X eT ⟨N, K, E_b31, TT⟩
        · subst hn
          show Go p e below s _ _ T (mkF m 42 #[.val (.int t), .val (.long qa), .second, .val (.long qb), .second, .val (.long qc), .second, .val (.long q), .second, .val (.int (2 : Int32)), .val (.int (3 : Int32)), .val (.ref b31), .unset, .unset] [])
          refine Go.of (fun _ kq => XS.iload X.here hx rfl (hb hby at_42) rfl kq) ?_
          show Go p e below s _ _ T (mkF m 44 #[.val (.int t), .val (.long qa), .second, .val (.long qb), .second, .val (.long qc), .second, .val (.long q), .second, .val (.int (2 : Int32)), .val (.int (3 : Int32)), .val (.ref b31), .unset, .unset] [(.int (3 : Int32))])
          refine Go.of (fun _ kq => XS.iconst X.here hx rfl (hb hby at_44) kq) ?_
          show Go p e below s _ _ T (mkF m 45 #[.val (.int t), .val (.long qa), .second, .val (.long qb), .second, .val (.long qc), .second, .val (.long q), .second, .val (.int (2 : Int32)), .val (.int (3 : Int32)), .val (.ref b31), .unset, .unset] [(.int (1 : Int32)), (.int (3 : Int32))])
          refine Go.of (fun _ kq => XS.icmpNo X.here hx rfl (hb hby at_45) rfl (flt (by decide)).1 kq) ?_
          show Go p e below s _ _ T (mkF m 48 #[.val (.int t), .val (.long qa), .second, .val (.long qb), .second, .val (.long qc), .second, .val (.long q), .second, .val (.int (2 : Int32)), .val (.int (3 : Int32)), .val (.ref b31), .unset, .unset] [])
          refine Go.of (fun _ kq => XS.aload X.here hx rfl (hb hby at_48) rfl rfl kq) ?_
          show Go p e below s _ _ T (mkF m 50 #[.val (.int t), .val (.long qa), .second, .val (.long qb), .second, .val (.long qc), .second, .val (.long q), .second, .val (.int (2 : Int32)), .val (.int (3 : Int32)), .val (.ref b31), .unset, .unset] [(.ref b31)])
          refine Go.of (fun _ kq => XS.lloadN X.here hx rfl (hb hby at_50) rfl kq) ?_
          show Go p e below s _ _ T (mkF m 51 #[.val (.int t), .val (.long qa), .second, .val (.long qb), .second, .val (.long qc), .second, .val (.long q), .second, .val (.int (2 : Int32)), .val (.int (3 : Int32)), .val (.ref b31), .unset, .unset] [(.long qa), (.ref b31)])
          refine Go.of (fun _ kq => XS.iconst X.here hx rfl (hb hby at_51) kq) ?_
          show Go p e below s _ _ T (mkF m 52 #[.val (.int t), .val (.long qa), .second, .val (.long qb), .second, .val (.long qc), .second, .val (.long q), .second, .val (.int (2 : Int32)), .val (.int (3 : Int32)), .val (.ref b31), .unset, .unset] [(.int (0 : Int32)), (.long qa), (.ref b31)])
          refine Go.of (fun _ kq => XS.iconst X.here hx rfl (hb hby at_52) kq) ?_
          show Go p e below s _ _ T (mkF m 53 #[.val (.int t), .val (.long qa), .second, .val (.long qb), .second, .val (.long qc), .second, .val (.long q), .second, .val (.int (2 : Int32)), .val (.int (3 : Int32)), .val (.ref b31), .unset, .unset] [(.int (0 : Int32)), (.int (0 : Int32)), (.long qa), (.ref b31)])
          refine Go.virtual (a := b31) X hx hZ hown (hw _ (List.mem_of_getElem? (i := 31) rfl)) (hw _ (List.mem_of_getElem? (i := 32) rfl)) (notFace_of_selects (args := #[]) (mvT hZ (hw _ (List.mem_of_getElem? (i := 34) rfl)))) (hw _ (List.mem_of_getElem? (i := 34) rfl)) (hw _ (List.mem_of_getElem? (i := 33) rfl)) (hw _ (List.mem_of_getElem? (i := 2) rfl)) (hw _ (List.mem_of_getElem? (i := 35) rfl)) (by decide) (rmOffer_lt0 hw qa (0 : Int32) (0 : Int32) b31 r sc d (2 : Int32) (0 : Int64) cap (fun _ => 0) (fun _ => 0) (fun _ => 0) _ n0 g_b31 g_r g_sc g_d ne_b31_r ne_b31_sc ne_b31_d ne_r_sc ne_r_d ne_sc_d (by decide) (by omega) (by omega) (by rw [hcv]; decide) E_b31 TT) eT E_b31 0 (by decide) (by decide) (by decide) (by decide) (by rw [hml]; rfl) (argsL := [(.long qa), (.int (0 : Int32)), (.int (0 : Int32))]) [] (lenOf pd11 rfl) rfl rfl (Nat.le_of_eq rfl) (hb hby at_53) ?_
          intro v T L' X hQ
          obtain ⟨h, eT⟩ : ∃ z, T.heap = z := ⟨_, rfl⟩
          rw [eT] at hQ
          obtain ⟨⟨bb, rfl⟩, N', K', k0, tt0, R0, S0, D0, TT, hk0, hR0⟩ := hQ
          have N := Fr.app N N'
          have K := K.trans K' (own_all4 (Or.inr z_b31) (Or.inr z_r) (Or.inr z_sc) (Or.inr z_d))
          have E_b31 := E_b31.keep K'
          subst hk0
          show Go p e below s _ _ T (mkF m 56 #[.val (.int t), .val (.long qa), .second, .val (.long qb), .second, .val (.long qc), .second, .val (.long q), .second, .val (.int (2 : Int32)), .val (.int (3 : Int32)), .val (.ref b31), .unset, .unset] [(.int bb)])
          refine Go.of (fun _ kq => XS.pop X.here hx rfl (hb hby at_56) rfl rfl kq) ?_
          show Go p e below s _ _ T (mkF m 57 #[.val (.int t), .val (.long qa), .second, .val (.long qb), .second, .val (.long qc), .second, .val (.long q), .second, .val (.int (2 : Int32)), .val (.int (3 : Int32)), .val (.ref b31), .unset, .unset] [])
          refine Go.of (fun _ kq => XS.iload X.here hx rfl (hb hby at_57) rfl kq) ?_
          show Go p e below s _ _ T (mkF m 59 #[.val (.int t), .val (.long qa), .second, .val (.long qb), .second, .val (.long qc), .second, .val (.long q), .second, .val (.int (2 : Int32)), .val (.int (3 : Int32)), .val (.ref b31), .unset, .unset] [(.int (3 : Int32))])
          refine Go.of (fun _ kq => XS.iconst X.here hx rfl (hb hby at_59) kq) ?_
          show Go p e below s _ _ T (mkF m 60 #[.val (.int t), .val (.long qa), .second, .val (.long qb), .second, .val (.long qc), .second, .val (.long q), .second, .val (.int (2 : Int32)), .val (.int (3 : Int32)), .val (.ref b31), .unset, .unset] [(.int (2 : Int32)), (.int (3 : Int32))])
          refine Go.of (fun _ kq => XS.icmpNo X.here hx rfl (hb hby at_60) rfl (flt (by decide)).1 kq) ?_
          show Go p e below s _ _ T (mkF m 63 #[.val (.int t), .val (.long qa), .second, .val (.long qb), .second, .val (.long qc), .second, .val (.long q), .second, .val (.int (2 : Int32)), .val (.int (3 : Int32)), .val (.ref b31), .unset, .unset] [])
          refine Go.of (fun _ kq => XS.aload X.here hx rfl (hb hby at_63) rfl rfl kq) ?_
          show Go p e below s _ _ T (mkF m 65 #[.val (.int t), .val (.long qa), .second, .val (.long qb), .second, .val (.long qc), .second, .val (.long q), .second, .val (.int (2 : Int32)), .val (.int (3 : Int32)), .val (.ref b31), .unset, .unset] [(.ref b31)])
          refine Go.of (fun _ kq => XS.lloadN X.here hx rfl (hb hby at_65) rfl kq) ?_
          show Go p e below s _ _ T (mkF m 66 #[.val (.int t), .val (.long qa), .second, .val (.long qb), .second, .val (.long qc), .second, .val (.long q), .second, .val (.int (2 : Int32)), .val (.int (3 : Int32)), .val (.ref b31), .unset, .unset] [(.long qb), (.ref b31)])
          refine Go.of (fun _ kq => XS.iconst X.here hx rfl (hb hby at_66) kq) ?_
          show Go p e below s _ _ T (mkF m 67 #[.val (.int t), .val (.long qa), .second, .val (.long qb), .second, .val (.long qc), .second, .val (.long q), .second, .val (.int (2 : Int32)), .val (.int (3 : Int32)), .val (.ref b31), .unset, .unset] [(.int (0 : Int32)), (.long qb), (.ref b31)])
          refine Go.of (fun _ kq => XS.iconst X.here hx rfl (hb hby at_67) kq) ?_
          show Go p e below s _ _ T (mkF m 68 #[.val (.int t), .val (.long qa), .second, .val (.long qb), .second, .val (.long qc), .second, .val (.long q), .second, .val (.int (2 : Int32)), .val (.int (3 : Int32)), .val (.ref b31), .unset, .unset] [(.int (1 : Int32)), (.int (0 : Int32)), (.long qb), (.ref b31)])
          refine Go.virtual (a := b31) X hx hZ hown (hw _ (List.mem_of_getElem? (i := 31) rfl)) (hw _ (List.mem_of_getElem? (i := 32) rfl)) (notFace_of_selects (args := #[]) (mvT hZ (hw _ (List.mem_of_getElem? (i := 34) rfl)))) (hw _ (List.mem_of_getElem? (i := 34) rfl)) (hw _ (List.mem_of_getElem? (i := 33) rfl)) (hw _ (List.mem_of_getElem? (i := 2) rfl)) (hw _ (List.mem_of_getElem? (i := 35) rfl)) (by decide) (rmOffer_lt1 hw qb (0 : Int32) (1 : Int32) b31 r sc d (2 : Int32) tt0 cap R0 S0 D0 _ n0 g_b31 g_r g_sc g_d ne_b31_r ne_b31_sc ne_b31_d ne_r_sc ne_r_d ne_sc_d (by decide) (by omega) (by omega) (by rw [hcv]; decide) E_b31 TT) eT E_b31 0 (by decide) (by decide) (by decide) (by decide) (by rw [hml]; rfl) (argsL := [(.long qb), (.int (0 : Int32)), (.int (1 : Int32))]) [] (lenOf pd11 rfl) rfl rfl (Nat.le_of_eq rfl) (hb hby at_68) ?_
          intro v T L' X hQ
          obtain ⟨h, eT⟩ : ∃ z, T.heap = z := ⟨_, rfl⟩
          rw [eT] at hQ
          obtain ⟨⟨bb, rfl⟩, N', K', k1, tt1, R1, S1, D1, TT, hk1, hR1, hM1⟩ := hQ
          have N := Fr.app N N'
          have K := K.trans K' (own_all4 (Or.inr z_b31) (Or.inr z_r) (Or.inr z_sc) (Or.inr z_d))
          have E_b31 := E_b31.keep K'
          subst hk1
          show Go p e below s _ _ T (mkF m 71 #[.val (.int t), .val (.long qa), .second, .val (.long qb), .second, .val (.long qc), .second, .val (.long q), .second, .val (.int (2 : Int32)), .val (.int (3 : Int32)), .val (.ref b31), .unset, .unset] [(.int bb)])
          refine Go.of (fun _ kq => XS.pop X.here hx rfl (hb hby at_71) rfl rfl kq) ?_
          show Go p e below s _ _ T (mkF m 72 #[.val (.int t), .val (.long qa), .second, .val (.long qb), .second, .val (.long qc), .second, .val (.long q), .second, .val (.int (2 : Int32)), .val (.int (3 : Int32)), .val (.ref b31), .unset, .unset] [])
          refine Go.of (fun _ kq => XS.iload X.here hx rfl (hb hby at_72) rfl kq) ?_
          show Go p e below s _ _ T (mkF m 74 #[.val (.int t), .val (.long qa), .second, .val (.long qb), .second, .val (.long qc), .second, .val (.long q), .second, .val (.int (2 : Int32)), .val (.int (3 : Int32)), .val (.ref b31), .unset, .unset] [(.int (3 : Int32))])
          refine Go.of (fun _ kq => XS.iconst X.here hx rfl (hb hby at_74) kq) ?_
          show Go p e below s _ _ T (mkF m 75 #[.val (.int t), .val (.long qa), .second, .val (.long qb), .second, .val (.long qc), .second, .val (.long q), .second, .val (.int (2 : Int32)), .val (.int (3 : Int32)), .val (.ref b31), .unset, .unset] [(.int (3 : Int32)), (.int (3 : Int32))])
          refine Go.of (fun _ kq => XS.icmpNo X.here hx rfl (hb hby at_75) rfl (flt (by decide)).1 kq) ?_
          show Go p e below s _ _ T (mkF m 78 #[.val (.int t), .val (.long qa), .second, .val (.long qb), .second, .val (.long qc), .second, .val (.long q), .second, .val (.int (2 : Int32)), .val (.int (3 : Int32)), .val (.ref b31), .unset, .unset] [])
          refine Go.of (fun _ kq => XS.aload X.here hx rfl (hb hby at_78) rfl rfl kq) ?_
          show Go p e below s _ _ T (mkF m 80 #[.val (.int t), .val (.long qa), .second, .val (.long qb), .second, .val (.long qc), .second, .val (.long q), .second, .val (.int (2 : Int32)), .val (.int (3 : Int32)), .val (.ref b31), .unset, .unset] [(.ref b31)])
          refine Go.of (fun _ kq => XS.lload X.here hx rfl (hb hby at_80) rfl kq) ?_
          show Go p e below s _ _ T (mkF m 82 #[.val (.int t), .val (.long qa), .second, .val (.long qb), .second, .val (.long qc), .second, .val (.long q), .second, .val (.int (2 : Int32)), .val (.int (3 : Int32)), .val (.ref b31), .unset, .unset] [(.long qc), (.ref b31)])
          refine Go.of (fun _ kq => XS.iconst X.here hx rfl (hb hby at_82) kq) ?_
          show Go p e below s _ _ T (mkF m 83 #[.val (.int t), .val (.long qa), .second, .val (.long qb), .second, .val (.long qc), .second, .val (.long q), .second, .val (.int (2 : Int32)), .val (.int (3 : Int32)), .val (.ref b31), .unset, .unset] [(.int (0 : Int32)), (.long qc), (.ref b31)])
          refine Go.of (fun _ kq => XS.iconst X.here hx rfl (hb hby at_83) kq) ?_
          show Go p e below s _ _ T (mkF m 84 #[.val (.int t), .val (.long qa), .second, .val (.long qb), .second, .val (.long qc), .second, .val (.long q), .second, .val (.int (2 : Int32)), .val (.int (3 : Int32)), .val (.ref b31), .unset, .unset] [(.int (2 : Int32)), (.int (0 : Int32)), (.long qc), (.ref b31)])
          refine Go.virtual (a := b31) X hx hZ hown (hw _ (List.mem_of_getElem? (i := 31) rfl)) (hw _ (List.mem_of_getElem? (i := 32) rfl)) (notFace_of_selects (args := #[]) (mvT hZ (hw _ (List.mem_of_getElem? (i := 34) rfl)))) (hw _ (List.mem_of_getElem? (i := 34) rfl)) (hw _ (List.mem_of_getElem? (i := 33) rfl)) (hw _ (List.mem_of_getElem? (i := 2) rfl)) (hw _ (List.mem_of_getElem? (i := 35) rfl)) (by decide) (rmOffer_eq2 hw qc (0 : Int32) (2 : Int32) b31 r sc d tt1 cap R1 S1 D1 _ n0 g_b31 g_r g_sc g_d ne_b31_r ne_b31_sc ne_b31_d ne_r_sc ne_r_d ne_sc_d (by omega) (by omega) E_b31 TT) eT E_b31 0 (by decide) (by decide) (by decide) (by decide) (by rw [hml]; rfl) (argsL := [(.long qc), (.int (0 : Int32)), (.int (2 : Int32))]) [] (lenOf pd11 rfl) rfl rfl (Nat.le_of_eq rfl) (hb hby at_84) ?_
          intro v T L' X hQ
          obtain ⟨h, eT⟩ : ∃ z, T.heap = z := ⟨_, rfl⟩
          rw [eT] at hQ
          obtain ⟨⟨bb, rfl⟩, N', K', k2, tt2, R2, S2, D2, TT, hk2, hR2⟩ := hQ
          have N := Fr.app N N'
          have K := K.trans K' (own_all4 (Or.inr z_b31) (Or.inr z_r) (Or.inr z_sc) (Or.inr z_d))
          have E_b31 := E_b31.keep K'
          subst hk2
          show Go p e below s _ _ T (mkF m 87 #[.val (.int t), .val (.long qa), .second, .val (.long qb), .second, .val (.long qc), .second, .val (.long q), .second, .val (.int (2 : Int32)), .val (.int (3 : Int32)), .val (.ref b31), .unset, .unset] [(.int bb)])
          refine Go.of (fun _ kq => XS.pop X.here hx rfl (hb hby at_87) rfl rfl kq) ?_
          show Go p e below s _ _ T (mkF m 88 #[.val (.int t), .val (.long qa), .second, .val (.long qb), .second, .val (.long qc), .second, .val (.long q), .second, .val (.int (2 : Int32)), .val (.int (3 : Int32)), .val (.ref b31), .unset, .unset] [])
          have TT : TR Z h b31 r sc d (2 : Int32) (3 : Int32) cap qa qb qc := ⟨_, _, _, _, _, TT, ⟨by decide, fun _ _ => by rw [hR2, hR1, hM1, hR0, own_mid]; simp [own_worst]⟩⟩
          exact jn88 () T _ _ X eT ⟨N, K, E_b31, TT⟩
      · have hcv := hcc.2.2.1 ht
        rcases hn4 with hn | hn | hn | hn
        · subst hn
          show Go p e below s _ _ T (mkF m 42 #[.val (.int t), .val (.long qa), .second, .val (.long qb), .second, .val (.long qc), .second, .val (.long q), .second, .val (.int top), .val (.int (0 : Int32)), .val (.ref b31), .unset, .unset] [])
          refine Go.of (fun _ kq => XS.iload X.here hx rfl (hb hby at_42) rfl kq) ?_
          show Go p e below s _ _ T (mkF m 44 #[.val (.int t), .val (.long qa), .second, .val (.long qb), .second, .val (.long qc), .second, .val (.long q), .second, .val (.int top), .val (.int (0 : Int32)), .val (.ref b31), .unset, .unset] [(.int (0 : Int32))])
          refine Go.of (fun _ kq => XS.iconst X.here hx rfl (hb hby at_44) kq) ?_
          show Go p e below s _ _ T (mkF m 45 #[.val (.int t), .val (.long qa), .second, .val (.long qb), .second, .val (.long qc), .second, .val (.long q), .second, .val (.int top), .val (.int (0 : Int32)), .val (.ref b31), .unset, .unset] [(.int (1 : Int32)), (.int (0 : Int32))])
          refine Go.of (fun _ kq => XS.icmpYes X.here hx rfl (pc0 := 45) (pc' := 57) rfl (hb hby at_45) rfl (tlt (by decide)).1 (by decide) (by decide) kq) ?_
          show Go p e below s _ _ T (mkF m 57 #[.val (.int t), .val (.long qa), .second, .val (.long qb), .second, .val (.long qc), .second, .val (.long q), .second, .val (.int top), .val (.int (0 : Int32)), .val (.ref b31), .unset, .unset] [])
          refine Go.of (fun _ kq => XS.iload X.here hx rfl (hb hby at_57) rfl kq) ?_
          show Go p e below s _ _ T (mkF m 59 #[.val (.int t), .val (.long qa), .second, .val (.long qb), .second, .val (.long qc), .second, .val (.long q), .second, .val (.int top), .val (.int (0 : Int32)), .val (.ref b31), .unset, .unset] [(.int (0 : Int32))])
          refine Go.of (fun _ kq => XS.iconst X.here hx rfl (hb hby at_59) kq) ?_
          show Go p e below s _ _ T (mkF m 60 #[.val (.int t), .val (.long qa), .second, .val (.long qb), .second, .val (.long qc), .second, .val (.long q), .second, .val (.int top), .val (.int (0 : Int32)), .val (.ref b31), .unset, .unset] [(.int (2 : Int32)), (.int (0 : Int32))])
          refine Go.of (fun _ kq => XS.icmpYes X.here hx rfl (pc0 := 60) (pc' := 72) rfl (hb hby at_60) rfl (tlt (by decide)).1 (by decide) (by decide) kq) ?_
          show Go p e below s _ _ T (mkF m 72 #[.val (.int t), .val (.long qa), .second, .val (.long qb), .second, .val (.long qc), .second, .val (.long q), .second, .val (.int top), .val (.int (0 : Int32)), .val (.ref b31), .unset, .unset] [])
          refine Go.of (fun _ kq => XS.iload X.here hx rfl (hb hby at_72) rfl kq) ?_
          show Go p e below s _ _ T (mkF m 74 #[.val (.int t), .val (.long qa), .second, .val (.long qb), .second, .val (.long qc), .second, .val (.long q), .second, .val (.int top), .val (.int (0 : Int32)), .val (.ref b31), .unset, .unset] [(.int (0 : Int32))])
          refine Go.of (fun _ kq => XS.iconst X.here hx rfl (hb hby at_74) kq) ?_
          show Go p e below s _ _ T (mkF m 75 #[.val (.int t), .val (.long qa), .second, .val (.long qb), .second, .val (.long qc), .second, .val (.long q), .second, .val (.int top), .val (.int (0 : Int32)), .val (.ref b31), .unset, .unset] [(.int (3 : Int32)), (.int (0 : Int32))])
          refine Go.of (fun _ kq => XS.icmpYes X.here hx rfl (pc0 := 75) (pc' := 88) rfl (hb hby at_75) rfl (tlt (by decide)).1 (by decide) (by decide) kq) ?_
          show Go p e below s _ _ T (mkF m 88 #[.val (.int t), .val (.long qa), .second, .val (.long qb), .second, .val (.long qc), .second, .val (.long q), .second, .val (.int top), .val (.int (0 : Int32)), .val (.ref b31), .unset, .unset] [])
          have TT : TR Z h b31 r sc d top (0 : Int32) cap qa qb qc := ⟨_, _, _, _, _, TT, own_rel3 ht rfl (by decide)⟩
          exact jn88 () T _ _ X eT ⟨N, K, E_b31, TT⟩
        · subst hn
          show Go p e below s _ _ T (mkF m 42 #[.val (.int t), .val (.long qa), .second, .val (.long qb), .second, .val (.long qc), .second, .val (.long q), .second, .val (.int top), .val (.int (1 : Int32)), .val (.ref b31), .unset, .unset] [])
          refine Go.of (fun _ kq => XS.iload X.here hx rfl (hb hby at_42) rfl kq) ?_
          show Go p e below s _ _ T (mkF m 44 #[.val (.int t), .val (.long qa), .second, .val (.long qb), .second, .val (.long qc), .second, .val (.long q), .second, .val (.int top), .val (.int (1 : Int32)), .val (.ref b31), .unset, .unset] [(.int (1 : Int32))])
          refine Go.of (fun _ kq => XS.iconst X.here hx rfl (hb hby at_44) kq) ?_
          show Go p e below s _ _ T (mkF m 45 #[.val (.int t), .val (.long qa), .second, .val (.long qb), .second, .val (.long qc), .second, .val (.long q), .second, .val (.int top), .val (.int (1 : Int32)), .val (.ref b31), .unset, .unset] [(.int (1 : Int32)), (.int (1 : Int32))])
          refine Go.of (fun _ kq => XS.icmpNo X.here hx rfl (hb hby at_45) rfl (flt (by decide)).1 kq) ?_
          show Go p e below s _ _ T (mkF m 48 #[.val (.int t), .val (.long qa), .second, .val (.long qb), .second, .val (.long qc), .second, .val (.long q), .second, .val (.int top), .val (.int (1 : Int32)), .val (.ref b31), .unset, .unset] [])
          refine Go.of (fun _ kq => XS.aload X.here hx rfl (hb hby at_48) rfl rfl kq) ?_
          show Go p e below s _ _ T (mkF m 50 #[.val (.int t), .val (.long qa), .second, .val (.long qb), .second, .val (.long qc), .second, .val (.long q), .second, .val (.int top), .val (.int (1 : Int32)), .val (.ref b31), .unset, .unset] [(.ref b31)])
          refine Go.of (fun _ kq => XS.lloadN X.here hx rfl (hb hby at_50) rfl kq) ?_
          show Go p e below s _ _ T (mkF m 51 #[.val (.int t), .val (.long qa), .second, .val (.long qb), .second, .val (.long qc), .second, .val (.long q), .second, .val (.int top), .val (.int (1 : Int32)), .val (.ref b31), .unset, .unset] [(.long qa), (.ref b31)])
          refine Go.of (fun _ kq => XS.iconst X.here hx rfl (hb hby at_51) kq) ?_
          show Go p e below s _ _ T (mkF m 52 #[.val (.int t), .val (.long qa), .second, .val (.long qb), .second, .val (.long qc), .second, .val (.long q), .second, .val (.int top), .val (.int (1 : Int32)), .val (.ref b31), .unset, .unset] [(.int (0 : Int32)), (.long qa), (.ref b31)])
          refine Go.of (fun _ kq => XS.iconst X.here hx rfl (hb hby at_52) kq) ?_
          show Go p e below s _ _ T (mkF m 53 #[.val (.int t), .val (.long qa), .second, .val (.long qb), .second, .val (.long qc), .second, .val (.long q), .second, .val (.int top), .val (.int (1 : Int32)), .val (.ref b31), .unset, .unset] [(.int (0 : Int32)), (.int (0 : Int32)), (.long qa), (.ref b31)])
          refine Go.virtual (a := b31) X hx hZ hown (hw _ (List.mem_of_getElem? (i := 31) rfl)) (hw _ (List.mem_of_getElem? (i := 32) rfl)) (notFace_of_selects (args := #[]) (mvT hZ (hw _ (List.mem_of_getElem? (i := 34) rfl)))) (hw _ (List.mem_of_getElem? (i := 34) rfl)) (hw _ (List.mem_of_getElem? (i := 33) rfl)) (hw _ (List.mem_of_getElem? (i := 2) rfl)) (hw _ (List.mem_of_getElem? (i := 35) rfl)) (by decide) (rmOffer_lt0 hw qa (0 : Int32) (0 : Int32) b31 r sc d top (0 : Int64) cap (fun _ => 0) (fun _ => 0) (fun _ => 0) _ n0 g_b31 g_r g_sc g_d ne_b31_r ne_b31_sc ne_b31_d ne_r_sc ne_r_d ne_sc_d (own_gt ht (by decide)) (by omega) (by omega) (own_ne3 (by omega) (by omega) (by decide)) E_b31 TT) eT E_b31 0 (by decide) (by decide) (by decide) (by decide) (by rw [hml]; rfl) (argsL := [(.long qa), (.int (0 : Int32)), (.int (0 : Int32))]) [] (lenOf pd11 rfl) rfl rfl (Nat.le_of_eq rfl) (hb hby at_53) ?_
          intro v T L' X hQ
          obtain ⟨h, eT⟩ : ∃ z, T.heap = z := ⟨_, rfl⟩
          rw [eT] at hQ
          obtain ⟨⟨bb, rfl⟩, N', K', k0, tt0, R0, S0, D0, TT, hk0, hR0⟩ := hQ
          have N := Fr.app N N'
          have K := K.trans K' (own_all4 (Or.inr z_b31) (Or.inr z_r) (Or.inr z_sc) (Or.inr z_d))
          have E_b31 := E_b31.keep K'
          subst hk0
          show Go p e below s _ _ T (mkF m 56 #[.val (.int t), .val (.long qa), .second, .val (.long qb), .second, .val (.long qc), .second, .val (.long q), .second, .val (.int top), .val (.int (1 : Int32)), .val (.ref b31), .unset, .unset] [(.int bb)])
          refine Go.of (fun _ kq => XS.pop X.here hx rfl (hb hby at_56) rfl rfl kq) ?_
          show Go p e below s _ _ T (mkF m 57 #[.val (.int t), .val (.long qa), .second, .val (.long qb), .second, .val (.long qc), .second, .val (.long q), .second, .val (.int top), .val (.int (1 : Int32)), .val (.ref b31), .unset, .unset] [])
          refine Go.of (fun _ kq => XS.iload X.here hx rfl (hb hby at_57) rfl kq) ?_
          show Go p e below s _ _ T (mkF m 59 #[.val (.int t), .val (.long qa), .second, .val (.long qb), .second, .val (.long qc), .second, .val (.long q), .second, .val (.int top), .val (.int (1 : Int32)), .val (.ref b31), .unset, .unset] [(.int (1 : Int32))])
          refine Go.of (fun _ kq => XS.iconst X.here hx rfl (hb hby at_59) kq) ?_
          show Go p e below s _ _ T (mkF m 60 #[.val (.int t), .val (.long qa), .second, .val (.long qb), .second, .val (.long qc), .second, .val (.long q), .second, .val (.int top), .val (.int (1 : Int32)), .val (.ref b31), .unset, .unset] [(.int (2 : Int32)), (.int (1 : Int32))])
          refine Go.of (fun _ kq => XS.icmpYes X.here hx rfl (pc0 := 60) (pc' := 72) rfl (hb hby at_60) rfl (tlt (by decide)).1 (by decide) (by decide) kq) ?_
          show Go p e below s _ _ T (mkF m 72 #[.val (.int t), .val (.long qa), .second, .val (.long qb), .second, .val (.long qc), .second, .val (.long q), .second, .val (.int top), .val (.int (1 : Int32)), .val (.ref b31), .unset, .unset] [])
          refine Go.of (fun _ kq => XS.iload X.here hx rfl (hb hby at_72) rfl kq) ?_
          show Go p e below s _ _ T (mkF m 74 #[.val (.int t), .val (.long qa), .second, .val (.long qb), .second, .val (.long qc), .second, .val (.long q), .second, .val (.int top), .val (.int (1 : Int32)), .val (.ref b31), .unset, .unset] [(.int (1 : Int32))])
          refine Go.of (fun _ kq => XS.iconst X.here hx rfl (hb hby at_74) kq) ?_
          show Go p e below s _ _ T (mkF m 75 #[.val (.int t), .val (.long qa), .second, .val (.long qb), .second, .val (.long qc), .second, .val (.long q), .second, .val (.int top), .val (.int (1 : Int32)), .val (.ref b31), .unset, .unset] [(.int (3 : Int32)), (.int (1 : Int32))])
          refine Go.of (fun _ kq => XS.icmpYes X.here hx rfl (pc0 := 75) (pc' := 88) rfl (hb hby at_75) rfl (tlt (by decide)).1 (by decide) (by decide) kq) ?_
          show Go p e below s _ _ T (mkF m 88 #[.val (.int t), .val (.long qa), .second, .val (.long qb), .second, .val (.long qc), .second, .val (.long q), .second, .val (.int top), .val (.int (1 : Int32)), .val (.ref b31), .unset, .unset] [])
          have TT : TR Z h b31 r sc d top (1 : Int32) cap qa qb qc := ⟨_, _, _, _, _, TT, own_rel3 ht rfl (by decide)⟩
          exact jn88 () T _ _ X eT ⟨N, K, E_b31, TT⟩
        · subst hn
          show Go p e below s _ _ T (mkF m 42 #[.val (.int t), .val (.long qa), .second, .val (.long qb), .second, .val (.long qc), .second, .val (.long q), .second, .val (.int top), .val (.int (2 : Int32)), .val (.ref b31), .unset, .unset] [])
          refine Go.of (fun _ kq => XS.iload X.here hx rfl (hb hby at_42) rfl kq) ?_
          show Go p e below s _ _ T (mkF m 44 #[.val (.int t), .val (.long qa), .second, .val (.long qb), .second, .val (.long qc), .second, .val (.long q), .second, .val (.int top), .val (.int (2 : Int32)), .val (.ref b31), .unset, .unset] [(.int (2 : Int32))])
          refine Go.of (fun _ kq => XS.iconst X.here hx rfl (hb hby at_44) kq) ?_
          show Go p e below s _ _ T (mkF m 45 #[.val (.int t), .val (.long qa), .second, .val (.long qb), .second, .val (.long qc), .second, .val (.long q), .second, .val (.int top), .val (.int (2 : Int32)), .val (.ref b31), .unset, .unset] [(.int (1 : Int32)), (.int (2 : Int32))])
          refine Go.of (fun _ kq => XS.icmpNo X.here hx rfl (hb hby at_45) rfl (flt (by decide)).1 kq) ?_
          show Go p e below s _ _ T (mkF m 48 #[.val (.int t), .val (.long qa), .second, .val (.long qb), .second, .val (.long qc), .second, .val (.long q), .second, .val (.int top), .val (.int (2 : Int32)), .val (.ref b31), .unset, .unset] [])
          refine Go.of (fun _ kq => XS.aload X.here hx rfl (hb hby at_48) rfl rfl kq) ?_
          show Go p e below s _ _ T (mkF m 50 #[.val (.int t), .val (.long qa), .second, .val (.long qb), .second, .val (.long qc), .second, .val (.long q), .second, .val (.int top), .val (.int (2 : Int32)), .val (.ref b31), .unset, .unset] [(.ref b31)])
          refine Go.of (fun _ kq => XS.lloadN X.here hx rfl (hb hby at_50) rfl kq) ?_
          show Go p e below s _ _ T (mkF m 51 #[.val (.int t), .val (.long qa), .second, .val (.long qb), .second, .val (.long qc), .second, .val (.long q), .second, .val (.int top), .val (.int (2 : Int32)), .val (.ref b31), .unset, .unset] [(.long qa), (.ref b31)])
          refine Go.of (fun _ kq => XS.iconst X.here hx rfl (hb hby at_51) kq) ?_
          show Go p e below s _ _ T (mkF m 52 #[.val (.int t), .val (.long qa), .second, .val (.long qb), .second, .val (.long qc), .second, .val (.long q), .second, .val (.int top), .val (.int (2 : Int32)), .val (.ref b31), .unset, .unset] [(.int (0 : Int32)), (.long qa), (.ref b31)])
          refine Go.of (fun _ kq => XS.iconst X.here hx rfl (hb hby at_52) kq) ?_
          show Go p e below s _ _ T (mkF m 53 #[.val (.int t), .val (.long qa), .second, .val (.long qb), .second, .val (.long qc), .second, .val (.long q), .second, .val (.int top), .val (.int (2 : Int32)), .val (.ref b31), .unset, .unset] [(.int (0 : Int32)), (.int (0 : Int32)), (.long qa), (.ref b31)])
          refine Go.virtual (a := b31) X hx hZ hown (hw _ (List.mem_of_getElem? (i := 31) rfl)) (hw _ (List.mem_of_getElem? (i := 32) rfl)) (notFace_of_selects (args := #[]) (mvT hZ (hw _ (List.mem_of_getElem? (i := 34) rfl)))) (hw _ (List.mem_of_getElem? (i := 34) rfl)) (hw _ (List.mem_of_getElem? (i := 33) rfl)) (hw _ (List.mem_of_getElem? (i := 2) rfl)) (hw _ (List.mem_of_getElem? (i := 35) rfl)) (by decide) (rmOffer_lt0 hw qa (0 : Int32) (0 : Int32) b31 r sc d top (0 : Int64) cap (fun _ => 0) (fun _ => 0) (fun _ => 0) _ n0 g_b31 g_r g_sc g_d ne_b31_r ne_b31_sc ne_b31_d ne_r_sc ne_r_d ne_sc_d (own_gt ht (by decide)) (by omega) (by omega) (own_ne3 (by omega) (by omega) (by decide)) E_b31 TT) eT E_b31 0 (by decide) (by decide) (by decide) (by decide) (by rw [hml]; rfl) (argsL := [(.long qa), (.int (0 : Int32)), (.int (0 : Int32))]) [] (lenOf pd11 rfl) rfl rfl (Nat.le_of_eq rfl) (hb hby at_53) ?_
          intro v T L' X hQ
          obtain ⟨h, eT⟩ : ∃ z, T.heap = z := ⟨_, rfl⟩
          rw [eT] at hQ
          obtain ⟨⟨bb, rfl⟩, N', K', k0, tt0, R0, S0, D0, TT, hk0, hR0⟩ := hQ
          have N := Fr.app N N'
          have K := K.trans K' (own_all4 (Or.inr z_b31) (Or.inr z_r) (Or.inr z_sc) (Or.inr z_d))
          have E_b31 := E_b31.keep K'
          subst hk0
          show Go p e below s _ _ T (mkF m 56 #[.val (.int t), .val (.long qa), .second, .val (.long qb), .second, .val (.long qc), .second, .val (.long q), .second, .val (.int top), .val (.int (2 : Int32)), .val (.ref b31), .unset, .unset] [(.int bb)])
          refine Go.of (fun _ kq => XS.pop X.here hx rfl (hb hby at_56) rfl rfl kq) ?_
          show Go p e below s _ _ T (mkF m 57 #[.val (.int t), .val (.long qa), .second, .val (.long qb), .second, .val (.long qc), .second, .val (.long q), .second, .val (.int top), .val (.int (2 : Int32)), .val (.ref b31), .unset, .unset] [])
          refine Go.of (fun _ kq => XS.iload X.here hx rfl (hb hby at_57) rfl kq) ?_
          show Go p e below s _ _ T (mkF m 59 #[.val (.int t), .val (.long qa), .second, .val (.long qb), .second, .val (.long qc), .second, .val (.long q), .second, .val (.int top), .val (.int (2 : Int32)), .val (.ref b31), .unset, .unset] [(.int (2 : Int32))])
          refine Go.of (fun _ kq => XS.iconst X.here hx rfl (hb hby at_59) kq) ?_
          show Go p e below s _ _ T (mkF m 60 #[.val (.int t), .val (.long qa), .second, .val (.long qb), .second, .val (.long qc), .second, .val (.long q), .second, .val (.int top), .val (.int (2 : Int32)), .val (.ref b31), .unset, .unset] [(.int (2 : Int32)), (.int (2 : Int32))])
          refine Go.of (fun _ kq => XS.icmpNo X.here hx rfl (hb hby at_60) rfl (flt (by decide)).1 kq) ?_
          show Go p e below s _ _ T (mkF m 63 #[.val (.int t), .val (.long qa), .second, .val (.long qb), .second, .val (.long qc), .second, .val (.long q), .second, .val (.int top), .val (.int (2 : Int32)), .val (.ref b31), .unset, .unset] [])
          refine Go.of (fun _ kq => XS.aload X.here hx rfl (hb hby at_63) rfl rfl kq) ?_
          show Go p e below s _ _ T (mkF m 65 #[.val (.int t), .val (.long qa), .second, .val (.long qb), .second, .val (.long qc), .second, .val (.long q), .second, .val (.int top), .val (.int (2 : Int32)), .val (.ref b31), .unset, .unset] [(.ref b31)])
          refine Go.of (fun _ kq => XS.lloadN X.here hx rfl (hb hby at_65) rfl kq) ?_
          show Go p e below s _ _ T (mkF m 66 #[.val (.int t), .val (.long qa), .second, .val (.long qb), .second, .val (.long qc), .second, .val (.long q), .second, .val (.int top), .val (.int (2 : Int32)), .val (.ref b31), .unset, .unset] [(.long qb), (.ref b31)])
          refine Go.of (fun _ kq => XS.iconst X.here hx rfl (hb hby at_66) kq) ?_
          show Go p e below s _ _ T (mkF m 67 #[.val (.int t), .val (.long qa), .second, .val (.long qb), .second, .val (.long qc), .second, .val (.long q), .second, .val (.int top), .val (.int (2 : Int32)), .val (.ref b31), .unset, .unset] [(.int (0 : Int32)), (.long qb), (.ref b31)])
          refine Go.of (fun _ kq => XS.iconst X.here hx rfl (hb hby at_67) kq) ?_
          show Go p e below s _ _ T (mkF m 68 #[.val (.int t), .val (.long qa), .second, .val (.long qb), .second, .val (.long qc), .second, .val (.long q), .second, .val (.int top), .val (.int (2 : Int32)), .val (.ref b31), .unset, .unset] [(.int (1 : Int32)), (.int (0 : Int32)), (.long qb), (.ref b31)])
          refine Go.virtual (a := b31) X hx hZ hown (hw _ (List.mem_of_getElem? (i := 31) rfl)) (hw _ (List.mem_of_getElem? (i := 32) rfl)) (notFace_of_selects (args := #[]) (mvT hZ (hw _ (List.mem_of_getElem? (i := 34) rfl)))) (hw _ (List.mem_of_getElem? (i := 34) rfl)) (hw _ (List.mem_of_getElem? (i := 33) rfl)) (hw _ (List.mem_of_getElem? (i := 2) rfl)) (hw _ (List.mem_of_getElem? (i := 35) rfl)) (by decide) (rmOffer_lt1 hw qb (0 : Int32) (1 : Int32) b31 r sc d top tt0 cap R0 S0 D0 _ n0 g_b31 g_r g_sc g_d ne_b31_r ne_b31_sc ne_b31_d ne_r_sc ne_r_d ne_sc_d (own_gt ht (by decide)) (by omega) (by omega) (own_ne3 (by omega) (by omega) (by decide)) E_b31 TT) eT E_b31 0 (by decide) (by decide) (by decide) (by decide) (by rw [hml]; rfl) (argsL := [(.long qb), (.int (0 : Int32)), (.int (1 : Int32))]) [] (lenOf pd11 rfl) rfl rfl (Nat.le_of_eq rfl) (hb hby at_68) ?_
          intro v T L' X hQ
          obtain ⟨h, eT⟩ : ∃ z, T.heap = z := ⟨_, rfl⟩
          rw [eT] at hQ
          obtain ⟨⟨bb, rfl⟩, N', K', k1, tt1, R1, S1, D1, TT, hk1, hR1, hM1⟩ := hQ
          have N := Fr.app N N'
          have K := K.trans K' (own_all4 (Or.inr z_b31) (Or.inr z_r) (Or.inr z_sc) (Or.inr z_d))
          have E_b31 := E_b31.keep K'
          subst hk1
          show Go p e below s _ _ T (mkF m 71 #[.val (.int t), .val (.long qa), .second, .val (.long qb), .second, .val (.long qc), .second, .val (.long q), .second, .val (.int top), .val (.int (2 : Int32)), .val (.ref b31), .unset, .unset] [(.int bb)])
          refine Go.of (fun _ kq => XS.pop X.here hx rfl (hb hby at_71) rfl rfl kq) ?_
          show Go p e below s _ _ T (mkF m 72 #[.val (.int t), .val (.long qa), .second, .val (.long qb), .second, .val (.long qc), .second, .val (.long q), .second, .val (.int top), .val (.int (2 : Int32)), .val (.ref b31), .unset, .unset] [])
          refine Go.of (fun _ kq => XS.iload X.here hx rfl (hb hby at_72) rfl kq) ?_
          show Go p e below s _ _ T (mkF m 74 #[.val (.int t), .val (.long qa), .second, .val (.long qb), .second, .val (.long qc), .second, .val (.long q), .second, .val (.int top), .val (.int (2 : Int32)), .val (.ref b31), .unset, .unset] [(.int (2 : Int32))])
          refine Go.of (fun _ kq => XS.iconst X.here hx rfl (hb hby at_74) kq) ?_
          show Go p e below s _ _ T (mkF m 75 #[.val (.int t), .val (.long qa), .second, .val (.long qb), .second, .val (.long qc), .second, .val (.long q), .second, .val (.int top), .val (.int (2 : Int32)), .val (.ref b31), .unset, .unset] [(.int (3 : Int32)), (.int (2 : Int32))])
          refine Go.of (fun _ kq => XS.icmpYes X.here hx rfl (pc0 := 75) (pc' := 88) rfl (hb hby at_75) rfl (tlt (by decide)).1 (by decide) (by decide) kq) ?_
          show Go p e below s _ _ T (mkF m 88 #[.val (.int t), .val (.long qa), .second, .val (.long qb), .second, .val (.long qc), .second, .val (.long q), .second, .val (.int top), .val (.int (2 : Int32)), .val (.ref b31), .unset, .unset] [])
          have TT : TR Z h b31 r sc d top (2 : Int32) cap qa qb qc := ⟨_, _, _, _, _, TT, own_rel3 ht rfl (by decide)⟩
          exact jn88 () T _ _ X eT ⟨N, K, E_b31, TT⟩
        · subst hn
          show Go p e below s _ _ T (mkF m 42 #[.val (.int t), .val (.long qa), .second, .val (.long qb), .second, .val (.long qc), .second, .val (.long q), .second, .val (.int top), .val (.int (3 : Int32)), .val (.ref b31), .unset, .unset] [])
          refine Go.of (fun _ kq => XS.iload X.here hx rfl (hb hby at_42) rfl kq) ?_
          show Go p e below s _ _ T (mkF m 44 #[.val (.int t), .val (.long qa), .second, .val (.long qb), .second, .val (.long qc), .second, .val (.long q), .second, .val (.int top), .val (.int (3 : Int32)), .val (.ref b31), .unset, .unset] [(.int (3 : Int32))])
          refine Go.of (fun _ kq => XS.iconst X.here hx rfl (hb hby at_44) kq) ?_
          show Go p e below s _ _ T (mkF m 45 #[.val (.int t), .val (.long qa), .second, .val (.long qb), .second, .val (.long qc), .second, .val (.long q), .second, .val (.int top), .val (.int (3 : Int32)), .val (.ref b31), .unset, .unset] [(.int (1 : Int32)), (.int (3 : Int32))])
          refine Go.of (fun _ kq => XS.icmpNo X.here hx rfl (hb hby at_45) rfl (flt (by decide)).1 kq) ?_
          show Go p e below s _ _ T (mkF m 48 #[.val (.int t), .val (.long qa), .second, .val (.long qb), .second, .val (.long qc), .second, .val (.long q), .second, .val (.int top), .val (.int (3 : Int32)), .val (.ref b31), .unset, .unset] [])
          refine Go.of (fun _ kq => XS.aload X.here hx rfl (hb hby at_48) rfl rfl kq) ?_
          show Go p e below s _ _ T (mkF m 50 #[.val (.int t), .val (.long qa), .second, .val (.long qb), .second, .val (.long qc), .second, .val (.long q), .second, .val (.int top), .val (.int (3 : Int32)), .val (.ref b31), .unset, .unset] [(.ref b31)])
          refine Go.of (fun _ kq => XS.lloadN X.here hx rfl (hb hby at_50) rfl kq) ?_
          show Go p e below s _ _ T (mkF m 51 #[.val (.int t), .val (.long qa), .second, .val (.long qb), .second, .val (.long qc), .second, .val (.long q), .second, .val (.int top), .val (.int (3 : Int32)), .val (.ref b31), .unset, .unset] [(.long qa), (.ref b31)])
          refine Go.of (fun _ kq => XS.iconst X.here hx rfl (hb hby at_51) kq) ?_
          show Go p e below s _ _ T (mkF m 52 #[.val (.int t), .val (.long qa), .second, .val (.long qb), .second, .val (.long qc), .second, .val (.long q), .second, .val (.int top), .val (.int (3 : Int32)), .val (.ref b31), .unset, .unset] [(.int (0 : Int32)), (.long qa), (.ref b31)])
          refine Go.of (fun _ kq => XS.iconst X.here hx rfl (hb hby at_52) kq) ?_
          show Go p e below s _ _ T (mkF m 53 #[.val (.int t), .val (.long qa), .second, .val (.long qb), .second, .val (.long qc), .second, .val (.long q), .second, .val (.int top), .val (.int (3 : Int32)), .val (.ref b31), .unset, .unset] [(.int (0 : Int32)), (.int (0 : Int32)), (.long qa), (.ref b31)])
          refine Go.virtual (a := b31) X hx hZ hown (hw _ (List.mem_of_getElem? (i := 31) rfl)) (hw _ (List.mem_of_getElem? (i := 32) rfl)) (notFace_of_selects (args := #[]) (mvT hZ (hw _ (List.mem_of_getElem? (i := 34) rfl)))) (hw _ (List.mem_of_getElem? (i := 34) rfl)) (hw _ (List.mem_of_getElem? (i := 33) rfl)) (hw _ (List.mem_of_getElem? (i := 2) rfl)) (hw _ (List.mem_of_getElem? (i := 35) rfl)) (by decide) (rmOffer_lt0 hw qa (0 : Int32) (0 : Int32) b31 r sc d top (0 : Int64) cap (fun _ => 0) (fun _ => 0) (fun _ => 0) _ n0 g_b31 g_r g_sc g_d ne_b31_r ne_b31_sc ne_b31_d ne_r_sc ne_r_d ne_sc_d (own_gt ht (by decide)) (by omega) (by omega) (own_ne3 (by omega) (by omega) (by decide)) E_b31 TT) eT E_b31 0 (by decide) (by decide) (by decide) (by decide) (by rw [hml]; rfl) (argsL := [(.long qa), (.int (0 : Int32)), (.int (0 : Int32))]) [] (lenOf pd11 rfl) rfl rfl (Nat.le_of_eq rfl) (hb hby at_53) ?_
          intro v T L' X hQ
          obtain ⟨h, eT⟩ : ∃ z, T.heap = z := ⟨_, rfl⟩
          rw [eT] at hQ
          obtain ⟨⟨bb, rfl⟩, N', K', k0, tt0, R0, S0, D0, TT, hk0, hR0⟩ := hQ
          have N := Fr.app N N'
          have K := K.trans K' (own_all4 (Or.inr z_b31) (Or.inr z_r) (Or.inr z_sc) (Or.inr z_d))
          have E_b31 := E_b31.keep K'
          subst hk0
          show Go p e below s _ _ T (mkF m 56 #[.val (.int t), .val (.long qa), .second, .val (.long qb), .second, .val (.long qc), .second, .val (.long q), .second, .val (.int top), .val (.int (3 : Int32)), .val (.ref b31), .unset, .unset] [(.int bb)])
          refine Go.of (fun _ kq => XS.pop X.here hx rfl (hb hby at_56) rfl rfl kq) ?_
          show Go p e below s _ _ T (mkF m 57 #[.val (.int t), .val (.long qa), .second, .val (.long qb), .second, .val (.long qc), .second, .val (.long q), .second, .val (.int top), .val (.int (3 : Int32)), .val (.ref b31), .unset, .unset] [])
          refine Go.of (fun _ kq => XS.iload X.here hx rfl (hb hby at_57) rfl kq) ?_
          show Go p e below s _ _ T (mkF m 59 #[.val (.int t), .val (.long qa), .second, .val (.long qb), .second, .val (.long qc), .second, .val (.long q), .second, .val (.int top), .val (.int (3 : Int32)), .val (.ref b31), .unset, .unset] [(.int (3 : Int32))])
          refine Go.of (fun _ kq => XS.iconst X.here hx rfl (hb hby at_59) kq) ?_
          show Go p e below s _ _ T (mkF m 60 #[.val (.int t), .val (.long qa), .second, .val (.long qb), .second, .val (.long qc), .second, .val (.long q), .second, .val (.int top), .val (.int (3 : Int32)), .val (.ref b31), .unset, .unset] [(.int (2 : Int32)), (.int (3 : Int32))])
          refine Go.of (fun _ kq => XS.icmpNo X.here hx rfl (hb hby at_60) rfl (flt (by decide)).1 kq) ?_
          show Go p e below s _ _ T (mkF m 63 #[.val (.int t), .val (.long qa), .second, .val (.long qb), .second, .val (.long qc), .second, .val (.long q), .second, .val (.int top), .val (.int (3 : Int32)), .val (.ref b31), .unset, .unset] [])
          refine Go.of (fun _ kq => XS.aload X.here hx rfl (hb hby at_63) rfl rfl kq) ?_
          show Go p e below s _ _ T (mkF m 65 #[.val (.int t), .val (.long qa), .second, .val (.long qb), .second, .val (.long qc), .second, .val (.long q), .second, .val (.int top), .val (.int (3 : Int32)), .val (.ref b31), .unset, .unset] [(.ref b31)])
          refine Go.of (fun _ kq => XS.lloadN X.here hx rfl (hb hby at_65) rfl kq) ?_
          show Go p e below s _ _ T (mkF m 66 #[.val (.int t), .val (.long qa), .second, .val (.long qb), .second, .val (.long qc), .second, .val (.long q), .second, .val (.int top), .val (.int (3 : Int32)), .val (.ref b31), .unset, .unset] [(.long qb), (.ref b31)])
          refine Go.of (fun _ kq => XS.iconst X.here hx rfl (hb hby at_66) kq) ?_
          show Go p e below s _ _ T (mkF m 67 #[.val (.int t), .val (.long qa), .second, .val (.long qb), .second, .val (.long qc), .second, .val (.long q), .second, .val (.int top), .val (.int (3 : Int32)), .val (.ref b31), .unset, .unset] [(.int (0 : Int32)), (.long qb), (.ref b31)])
          refine Go.of (fun _ kq => XS.iconst X.here hx rfl (hb hby at_67) kq) ?_
          show Go p e below s _ _ T (mkF m 68 #[.val (.int t), .val (.long qa), .second, .val (.long qb), .second, .val (.long qc), .second, .val (.long q), .second, .val (.int top), .val (.int (3 : Int32)), .val (.ref b31), .unset, .unset] [(.int (1 : Int32)), (.int (0 : Int32)), (.long qb), (.ref b31)])
          refine Go.virtual (a := b31) X hx hZ hown (hw _ (List.mem_of_getElem? (i := 31) rfl)) (hw _ (List.mem_of_getElem? (i := 32) rfl)) (notFace_of_selects (args := #[]) (mvT hZ (hw _ (List.mem_of_getElem? (i := 34) rfl)))) (hw _ (List.mem_of_getElem? (i := 34) rfl)) (hw _ (List.mem_of_getElem? (i := 33) rfl)) (hw _ (List.mem_of_getElem? (i := 2) rfl)) (hw _ (List.mem_of_getElem? (i := 35) rfl)) (by decide) (rmOffer_lt1 hw qb (0 : Int32) (1 : Int32) b31 r sc d top tt0 cap R0 S0 D0 _ n0 g_b31 g_r g_sc g_d ne_b31_r ne_b31_sc ne_b31_d ne_r_sc ne_r_d ne_sc_d (own_gt ht (by decide)) (by omega) (by omega) (own_ne3 (by omega) (by omega) (by decide)) E_b31 TT) eT E_b31 0 (by decide) (by decide) (by decide) (by decide) (by rw [hml]; rfl) (argsL := [(.long qb), (.int (0 : Int32)), (.int (1 : Int32))]) [] (lenOf pd11 rfl) rfl rfl (Nat.le_of_eq rfl) (hb hby at_68) ?_
          intro v T L' X hQ
          obtain ⟨h, eT⟩ : ∃ z, T.heap = z := ⟨_, rfl⟩
          rw [eT] at hQ
          obtain ⟨⟨bb, rfl⟩, N', K', k1, tt1, R1, S1, D1, TT, hk1, hR1, hM1⟩ := hQ
          have N := Fr.app N N'
          have K := K.trans K' (own_all4 (Or.inr z_b31) (Or.inr z_r) (Or.inr z_sc) (Or.inr z_d))
          have E_b31 := E_b31.keep K'
          subst hk1
          show Go p e below s _ _ T (mkF m 71 #[.val (.int t), .val (.long qa), .second, .val (.long qb), .second, .val (.long qc), .second, .val (.long q), .second, .val (.int top), .val (.int (3 : Int32)), .val (.ref b31), .unset, .unset] [(.int bb)])
          refine Go.of (fun _ kq => XS.pop X.here hx rfl (hb hby at_71) rfl rfl kq) ?_
          show Go p e below s _ _ T (mkF m 72 #[.val (.int t), .val (.long qa), .second, .val (.long qb), .second, .val (.long qc), .second, .val (.long q), .second, .val (.int top), .val (.int (3 : Int32)), .val (.ref b31), .unset, .unset] [])
          refine Go.of (fun _ kq => XS.iload X.here hx rfl (hb hby at_72) rfl kq) ?_
          show Go p e below s _ _ T (mkF m 74 #[.val (.int t), .val (.long qa), .second, .val (.long qb), .second, .val (.long qc), .second, .val (.long q), .second, .val (.int top), .val (.int (3 : Int32)), .val (.ref b31), .unset, .unset] [(.int (3 : Int32))])
          refine Go.of (fun _ kq => XS.iconst X.here hx rfl (hb hby at_74) kq) ?_
          show Go p e below s _ _ T (mkF m 75 #[.val (.int t), .val (.long qa), .second, .val (.long qb), .second, .val (.long qc), .second, .val (.long q), .second, .val (.int top), .val (.int (3 : Int32)), .val (.ref b31), .unset, .unset] [(.int (3 : Int32)), (.int (3 : Int32))])
          refine Go.of (fun _ kq => XS.icmpNo X.here hx rfl (hb hby at_75) rfl (flt (by decide)).1 kq) ?_
          show Go p e below s _ _ T (mkF m 78 #[.val (.int t), .val (.long qa), .second, .val (.long qb), .second, .val (.long qc), .second, .val (.long q), .second, .val (.int top), .val (.int (3 : Int32)), .val (.ref b31), .unset, .unset] [])
          refine Go.of (fun _ kq => XS.aload X.here hx rfl (hb hby at_78) rfl rfl kq) ?_
          show Go p e below s _ _ T (mkF m 80 #[.val (.int t), .val (.long qa), .second, .val (.long qb), .second, .val (.long qc), .second, .val (.long q), .second, .val (.int top), .val (.int (3 : Int32)), .val (.ref b31), .unset, .unset] [(.ref b31)])
          refine Go.of (fun _ kq => XS.lload X.here hx rfl (hb hby at_80) rfl kq) ?_
          show Go p e below s _ _ T (mkF m 82 #[.val (.int t), .val (.long qa), .second, .val (.long qb), .second, .val (.long qc), .second, .val (.long q), .second, .val (.int top), .val (.int (3 : Int32)), .val (.ref b31), .unset, .unset] [(.long qc), (.ref b31)])
          refine Go.of (fun _ kq => XS.iconst X.here hx rfl (hb hby at_82) kq) ?_
          show Go p e below s _ _ T (mkF m 83 #[.val (.int t), .val (.long qa), .second, .val (.long qb), .second, .val (.long qc), .second, .val (.long q), .second, .val (.int top), .val (.int (3 : Int32)), .val (.ref b31), .unset, .unset] [(.int (0 : Int32)), (.long qc), (.ref b31)])
          refine Go.of (fun _ kq => XS.iconst X.here hx rfl (hb hby at_83) kq) ?_
          show Go p e below s _ _ T (mkF m 84 #[.val (.int t), .val (.long qa), .second, .val (.long qb), .second, .val (.long qc), .second, .val (.long q), .second, .val (.int top), .val (.int (3 : Int32)), .val (.ref b31), .unset, .unset] [(.int (2 : Int32)), (.int (0 : Int32)), (.long qc), (.ref b31)])
          refine Go.virtual (a := b31) X hx hZ hown (hw _ (List.mem_of_getElem? (i := 31) rfl)) (hw _ (List.mem_of_getElem? (i := 32) rfl)) (notFace_of_selects (args := #[]) (mvT hZ (hw _ (List.mem_of_getElem? (i := 34) rfl)))) (hw _ (List.mem_of_getElem? (i := 34) rfl)) (hw _ (List.mem_of_getElem? (i := 33) rfl)) (hw _ (List.mem_of_getElem? (i := 2) rfl)) (hw _ (List.mem_of_getElem? (i := 35) rfl)) (by decide) (rmOffer_lt2 hw qc (0 : Int32) (2 : Int32) b31 r sc d top tt1 cap R1 S1 D1 _ n0 g_b31 g_r g_sc g_d ne_b31_r ne_b31_sc ne_b31_d ne_r_sc ne_r_d ne_sc_d (own_gt ht (by decide)) (by omega) (by omega) (own_ne3 (by omega) (by omega) (by decide)) E_b31 TT) eT E_b31 0 (by decide) (by decide) (by decide) (by decide) (by rw [hml]; rfl) (argsL := [(.long qc), (.int (0 : Int32)), (.int (2 : Int32))]) [] (lenOf pd11 rfl) rfl rfl (Nat.le_of_eq rfl) (hb hby at_84) ?_
          intro v T L' X hQ
          obtain ⟨h, eT⟩ : ∃ z, T.heap = z := ⟨_, rfl⟩
          rw [eT] at hQ
          obtain ⟨⟨bb, rfl⟩, N', K', k2, tt2, R2, S2, D2, TT, hk2, hR2⟩ := hQ
          have N := Fr.app N N'
          have K := K.trans K' (own_all4 (Or.inr z_b31) (Or.inr z_r) (Or.inr z_sc) (Or.inr z_d))
          have E_b31 := E_b31.keep K'
          subst hk2
          show Go p e below s _ _ T (mkF m 87 #[.val (.int t), .val (.long qa), .second, .val (.long qb), .second, .val (.long qc), .second, .val (.long q), .second, .val (.int top), .val (.int (3 : Int32)), .val (.ref b31), .unset, .unset] [(.int bb)])
          refine Go.of (fun _ kq => XS.pop X.here hx rfl (hb hby at_87) rfl rfl kq) ?_
          show Go p e below s _ _ T (mkF m 88 #[.val (.int t), .val (.long qa), .second, .val (.long qb), .second, .val (.long qc), .second, .val (.long q), .second, .val (.int top), .val (.int (3 : Int32)), .val (.ref b31), .unset, .unset] [])
          have TT : TR Z h b31 r sc d top (3 : Int32) cap qa qb qc := ⟨_, _, _, _, _, TT, own_rel33 ht (by rw [hR2, hR1, hR0])⟩
          exact jn88 () T _ _ X eT ⟨N, K, E_b31, TT⟩
  · intro jn22
    show Go p e below s _ _ T (mkF m 0 #[.val (.int t), .val (.long qa), .second, .val (.long qb), .second, .val (.long qc), .second, .val (.long q), .second, .unset, .unset, .unset, .unset, .unset] [])
    refine Go.of (fun _ kq => XS.iloadN X.here hx rfl (hb hby at_0) rfl kq) ?_
    show Go p e below s _ _ T (mkF m 1 #[.val (.int t), .val (.long qa), .second, .val (.long qb), .second, .val (.long qc), .second, .val (.long q), .second, .unset, .unset, .unset, .unset, .unset] [(.int t)])
    refine Go.of (fun _ kq => XS.iconst X.here hx rfl (hb hby at_1) kq) ?_
    show Go p e below s _ _ T (mkF m 2 #[.val (.int t), .val (.long qa), .second, .val (.long qb), .second, .val (.long qc), .second, .val (.long q), .second, .unset, .unset, .unset, .unset, .unset] [(.int (4 : Int32)), (.int t)])
    refine Go.of (fun _ kq => XS.iand X.here hx rfl (hb hby at_2) rfl kq) ?_
    show Go p e below s _ _ T (mkF m 3 #[.val (.int t), .val (.long qa), .second, .val (.long qb), .second, .val (.long qc), .second, .val (.long q), .second, .unset, .unset, .unset, .unset, .unset] [(.int (t &&& (4 : Int32)))])
    by_cases hc3 : (t &&& (4 : Int32)) = (0 : Int32)
    · refine Go.of (fun _ kq => XS.ifYes X.here hx rfl (pc0 := 3) (pc' := 19) rfl (hb hby at_3) rfl ((if0 _ _).trans (teq hc3).1) (by decide) (by decide) kq) ?_
      show Go p e below s _ _ T (mkF m 19 #[.val (.int t), .val (.long qa), .second, .val (.long qb), .second, .val (.long qc), .second, .val (.long q), .second, .unset, .unset, .unset, .unset, .unset] [])
      refine Go.of (fun _ kq => XS.iloadN X.here hx rfl (hb hby at_19) rfl kq) ?_
      show Go p e below s _ _ T (mkF m 20 #[.val (.int t), .val (.long qa), .second, .val (.long qb), .second, .val (.long qc), .second, .val (.long q), .second, .unset, .unset, .unset, .unset, .unset] [(.int t)])
      refine Go.of (fun _ kq => XS.iconst X.here hx rfl (hb hby at_20) kq) ?_
      show Go p e below s _ _ T (mkF m 21 #[.val (.int t), .val (.long qa), .second, .val (.long qb), .second, .val (.long qc), .second, .val (.long q), .second, .unset, .unset, .unset, .unset, .unset] [(.int (3 : Int32)), (.int t)])
      refine Go.of (fun _ kq => XS.iand X.here hx rfl (hb hby at_21) rfl kq) ?_
      show Go p e below s _ _ T (mkF m 22 #[.val (.int t), .val (.long qa), .second, .val (.long qb), .second, .val (.long qc), .second, .val (.long q), .second, .unset, .unset, .unset, .unset, .unset] [(.int (t &&& (3 : Int32)))])
      exact jn22 _ (own_top3 _)
    · refine Go.of (fun _ kq => XS.ifNo X.here hx rfl (hb hby at_3) rfl ((if0 _ _).trans (feq hc3).1) kq) ?_
      show Go p e below s _ _ T (mkF m 6 #[.val (.int t), .val (.long qa), .second, .val (.long qb), .second, .val (.long qc), .second, .val (.long q), .second, .unset, .unset, .unset, .unset, .unset] [])
      refine Go.of (fun _ kq => XS.iloadN X.here hx rfl (hb hby at_6) rfl kq) ?_
      show Go p e below s _ _ T (mkF m 7 #[.val (.int t), .val (.long qa), .second, .val (.long qb), .second, .val (.long qc), .second, .val (.long q), .second, .unset, .unset, .unset, .unset, .unset] [(.int t)])
      refine Go.of (fun _ kq => XS.bipush X.here hx rfl (hb hby at_7) kq) ?_
      show Go p e below s _ _ T (mkF m 9 #[.val (.int t), .val (.long qa), .second, .val (.long qb), .second, .val (.long qc), .second, .val (.long q), .second, .unset, .unset, .unset, .unset, .unset] [(.int (8 : Int32)), (.int t)])
      refine Go.of (fun _ kq => XS.iushr X.here hx rfl (hb hby at_9) rfl kq) ?_
      show Go p e below s _ _ T (mkF m 10 #[.val (.int t), .val (.long qa), .second, .val (.long qb), .second, .val (.long qc), .second, .val (.long q), .second, .unset, .unset, .unset, .unset, .unset] [(.int ((t.toUInt32 >>> ((8 : Int32) &&& 31).toUInt32).toInt32))])
      refine Go.of (fun _ kq => XS.sipush X.here hx rfl (hb hby at_10) kq) ?_
      show Go p e below s _ _ T (mkF m 13 #[.val (.int t), .val (.long qa), .second, .val (.long qb), .second, .val (.long qc), .second, .val (.long q), .second, .unset, .unset, .unset, .unset, .unset] [(.int (32767 : Int32)), (.int ((t.toUInt32 >>> ((8 : Int32) &&& 31).toUInt32).toInt32))])
      refine Go.of (fun _ kq => XS.iand X.here hx rfl (hb hby at_13) rfl kq) ?_
      show Go p e below s _ _ T (mkF m 14 #[.val (.int t), .val (.long qa), .second, .val (.long qb), .second, .val (.long qc), .second, .val (.long q), .second, .unset, .unset, .unset, .unset, .unset] [(.int (((t.toUInt32 >>> ((8 : Int32) &&& 31).toUInt32).toInt32) &&& (32767 : Int32)))])
      refine Go.of (fun _ kq => XS.iconst X.here hx rfl (hb hby at_14) kq) ?_
      show Go p e below s _ _ T (mkF m 15 #[.val (.int t), .val (.long qa), .second, .val (.long qb), .second, .val (.long qc), .second, .val (.long q), .second, .unset, .unset, .unset, .unset, .unset] [(.int (4 : Int32)), (.int (((t.toUInt32 >>> ((8 : Int32) &&& 31).toUInt32).toInt32) &&& (32767 : Int32)))])
      refine Go.of (fun _ kq => XS.iadd X.here hx rfl (hb hby at_15) rfl kq) ?_
      show Go p e below s _ _ T (mkF m 16 #[.val (.int t), .val (.long qa), .second, .val (.long qb), .second, .val (.long qc), .second, .val (.long q), .second, .unset, .unset, .unset, .unset, .unset] [(.int ((((t.toUInt32 >>> ((8 : Int32) &&& 31).toUInt32).toInt32) &&& (32767 : Int32)) + (4 : Int32)))])
      refine Go.of (fun _ kq => XS.goto X.here hx rfl (pc0 := 16) (pc' := 22) rfl (hb hby at_16) (by decide) (by decide) kq) ?_
      show Go p e below s _ _ T (mkF m 22 #[.val (.int t), .val (.long qa), .second, .val (.long qb), .second, .val (.long qc), .second, .val (.long q), .second, .unset, .unset, .unset, .unset, .unset] [(.int ((((t.toUInt32 >>> ((8 : Int32) &&& 31).toUInt32).toInt32) &&& (32767 : Int32)) + (4 : Int32)))])
      exact jn22 _ (own_top4 _)
set_option maxRecDepth 65536 in
set_option maxHeartbeats 40000000 in
theorem comes_1 {Post : Tables → Env → Array Value → State → Outcome → State → Prop} (hpost : ∀ tb e args s v u, (limb_1_1.after args s (.returned v) u = true ∧ limb_1_2.after args s (.returned v) u = true ∧ True) → FrameEnd s (.returned v) u (Jvm.fieldLocs frame_1_writes args s ++ Jvm.arrayLocs frame_1_arrays args s ++ Jvm.staticLocs frame_1_statics s) 16 192 → Post tb e args s (.returned v) u) :
    ArmFor flags0 classFile x code maxLocals ret World_1 tables_1 room_1 Calls_1 rest_1 Pre_1 Post := by
  intro l hfl _ _ p e ha hc hk s m args below hf hA hF happ hP
  obtain ⟨hcalls, hrest, hpre⟩ := hP
  obtain ⟨-, -, -, hnamed, -, -, -, hat⟩ := (Spec.applies_iff hf).mp happ
  obtain ⟨hg, hn⟩ := and_e (Cond.before_iff.mp (show (Jvm.Cond.and given_1 narrow_1).before args s = true from hpre))
  obtain ⟨gc, g0⟩ := and_e hg
  obtain ⟨k0, g1⟩ := and_e g0
  obtain ⟨k1, g2⟩ := and_e g1
  obtain ⟨k2, g3⟩ := and_e g2
  obtain ⟨k3, g4⟩ := and_e g3
  obtain ⟨w0, w1, w2, w3, w4, rfl⟩ : ∃ w0 w1 w2 w3 w4 : Value, args = #[w0, w1, w2, w3, w4] := by
    have hs : args.size = 5 := by simpa [Cond.value, given_1] using gc
    obtain ⟨L⟩ := args
    match L, hs with
    | [w0, w1, w2, w3, w4], _ => exact ⟨w0, w1, w2, w3, w4, rfl⟩
  have hw := fun d (hd : d ∈ tables_1) => atoms_spec (ws := Jvm.Cond.code x code maxLocals ret :: tables_1) hat d (List.mem_cons_of_mem _ hd)
  obtain ⟨i0, ei0⟩ := is_v k0
  obtain rfl : w0 = (.int i0) := Option.some.inj ei0
  obtain ⟨i1, ei1⟩ := isL_v k1
  obtain rfl : w1 = (.long i1) := Option.some.inj ei1
  obtain ⟨i2, ei2⟩ := isL_v k2
  obtain rfl : w2 = (.long i2) := Option.some.inj ei2
  obtain ⟨i3, ei3⟩ := isL_v k3
  obtain rfl : w3 = (.long i3) := Option.some.inj ei3
  obtain ⟨i4, ei4⟩ := isL_v g4
  obtain rfl : w4 = (.long i4) := Option.some.inj ei4
  obtain ⟨n, o, h1, h2, h3, _, L, rfl, ⟨rfl, N⟩, hq⟩ := rm0 (l := l) (Z := s) hw i0 i1 i2 i3 i4 s.heap s.heap.size (Nat.le_refl _) p e ha hc hk s m _ below hf ((Spec.applies_iff_loose hf).mp happ).1 ⟨rfl, State.Warmed39.refl s, rfl⟩ trivial
  refine ⟨n, _, h1, h2, h3, hpost _ _ _ _ _ _ ⟨Cond.after_iff.mpr rfl, Cond.after_iff.mpr (eq_i res_at (Term.int_eval (1)) rfl), trivial⟩ ⟨hq.1, hq.2.1, (hq.2.2.sift fun y hy => Or.inr (N y hy)).mono (by decide) (by decide)⟩⟩
theorem main_1_1 : Claimed_1_1 := comes_1 fun _ _ _ _ _ _ h hF => ⟨h.1, hF⟩
theorem main_1_2 : Claimed_1_2 := comes_1 fun _ _ _ _ _ _ h hF => ⟨h.2.1, hF⟩
end Jvm.Pilot.@@N@@
namespace Jvm.Pilot.@@N@@
open Jvm Jvm.ClassFile Sem Op Lib Jvm.Free Jvm.Stand Jvm.Pilot.@@N@@.Jvm.D
/-! MADE BY PROGRAM (witnessworld.py) out of the Statement's table words and the real class files: 14 classes; the members and pool entries that the words name. The judged class is class 1, her method 1. -/
namespace start1
open Jvm.ClassFile
def u (s : String) : CpInfo := .utf8 (stringToUtf16 s)
/-- a pool by its gaps: so many unusable entries, then the entry; so many at the end -/
def gap : Nat → List CpInfo → List CpInfo
  | 0, r => r
  | n + 1, r => .unusable :: gap n r
def poolList (es : List (Nat × CpInfo)) (last : Nat) : List CpInfo := es.foldr (fun e r => gap e.1 (e.2 :: r)) (gap last [])
def pool (es : List (Nat × CpInfo)) (last : Nat) : Array CpInfo := ⟨poolList es last⟩
def fileOf (pool : Array CpInfo) (this : Nat) (attrs : Array Attribute := #[]) (ms : Array MethodInfo := #[]) (fl : Nat := 33) (sup : Nat := 0) (ifs : Array Nat := #[]) (fds : Array FieldInfo := #[]) : ClassFile where
  minorVersion := 0
  majorVersion := 65
  constantPool := pool
  accessFlags := fl
  thisClass := this
  superClass := sup
  interfaces := ifs
  fields := fds
  methods := ms
  attributes := attrs
def plain (name : String) (sup : Option ClassId) : Class where
  name := name
  kind := .ordinary
  loader := none
  accessFlags := 33
  super := sup
  interfaces := #[]
  cf := none
  fields := #[]
  methods := #[]
  instanceTypes := #[]
  staticTypes := #[]
  resolved := #[]
  callSites := []
  init := .initialized
  statics := none
  mirror := none

def pool0 : Array CpInfo := pool [(5, u "<init>"), (0, u "()V"), (1, .class_ 10), (1, u "java/lang/Object")] 113

def k0c0 : Code := { maxStack := 0, maxLocals := 1, code := object_method_1_code, exceptionTable := #[], attributes := #[] }
def k0m0 : Method := { name := "<init>", desc := "()V", sig := { parameters := [], returnType := none }, accessFlags := 1, code := some k0c0 }
/-- java/lang/Object -/
def k0 : Class := { plain "java/lang/Object" none with
  accessFlags := 33
  interfaces := #[]
  cf := some (fileOf pool0 8 #[] #[{ accessFlags := 1, nameIndex := 5, descriptorIndex := 6, attributes := #[] }] 33 0 #[] #[])
  fields := #[]
  methods := #[k0m0]
  instanceTypes := #[]
  staticTypes := #[]
  resolved := Array.replicate 124 none
  statics := none }

def pool1 : Array CpInfo := pool [(2, .class_ 4), (1, u "java/lang/Object"), (0, u "<init>"), (0, u "()V"), (0, .class_ 8), (0, u "org/segmentry/search/TopHits"), (0, .methodref 7 10), (0, .nameAndType 5 11), (0, u "(I)V"), (0, .methodref 7 13), (0, .nameAndType 14 15), (0, u "offer"), (0, u "(JII)Z"), (0, .methodref 17 18), (0, .class_ 19), (0, .nameAndType 20 21), (0, u "java/lang/Math"), (0, u "min"), (0, u "(II)I"), (0, .methodref 23 24), (0, .class_ 25), (0, .nameAndType 26 27), (0, u "org/segmentry/search/TopHitsAdmitsPinLaw"), (0, u "worst"), (0, u "(IIJJJ)J"), (0, .methodref 7 29), (0, .nameAndType 30 31), (0, u "admits"), (0, u "(J)Z"), (0, .methodref 17 33), (0, .nameAndType 20 34), (0, u "(JJ)J"), (0, .methodref 17 36), (0, .nameAndType 37 34), (0, u "max"), (2, u "law"), (0, u "(IJJJJ)Z")] 3

def k1m0 : Method := { name := "<init>", desc := "()V", sig := { parameters := [], returnType := none }, accessFlags := 1, code := none }
def k1c1 : Code := { maxStack := 10, maxLocals := 14, code := code, exceptionTable := #[], attributes := #[] }
def k1m1 : Method := { name := "law", desc := "(IJJJJ)Z", sig := { parameters := [.int, .long, .long, .long, .long], returnType := some .boolean }, accessFlags := 9, code := some k1c1 }
def k1c2 : Code := { maxStack := 4, maxLocals := 12, code := method_3_code, exceptionTable := #[], attributes := #[] }
def k1m2 : Method := { name := "worst", desc := "(IIJJJ)J", sig := { parameters := [.int, .int, .long, .long, .long], returnType := some .long }, accessFlags := 10, code := some k1c2 }
/-- org/segmentry/search/TopHitsAdmitsPinLaw -/
def k1 : Class := { plain "org/segmentry/search/TopHitsAdmitsPinLaw" (some 0) with
  accessFlags := 49
  interfaces := #[]
  cf := some (fileOf pool1 23 #[] #[{ accessFlags := 1, nameIndex := 5, descriptorIndex := 6, attributes := #[] }, { accessFlags := 9, nameIndex := 40, descriptorIndex := 41, attributes := #[] }, { accessFlags := 10, nameIndex := 26, descriptorIndex := 27, attributes := #[] }] 49 2 #[] #[])
  fields := #[]
  methods := #[k1m0, k1m1, k1m2]
  instanceTypes := #[]
  staticTypes := #[]
  resolved := Array.replicate 45 none
  statics := none }

def pool2 : Array CpInfo := pool [(2, .class_ 4), (1, u "org/segmentry/search/TopHits$Scored"), (16, u "(II)I"), (3, .methodref 26 27), (0, .class_ 28), (0, .nameAndType 29 30), (0, u "java/lang/Object"), (0, u "<init>"), (0, u "()V"), (0, .fieldref 32 33), (0, .class_ 34), (0, .nameAndType 35 36), (0, u "org/segmentry/search/TopHits"), (0, u "m_top"), (0, u "I"), (0, .methodref 38 39), (0, .class_ 40), (0, .nameAndType 41 21), (0, u "java/lang/Math"), (0, u "min"), (0, .fieldref 32 43), (0, .nameAndType 44 45), (0, u "m_ranks"), (0, u "[J"), (0, .fieldref 32 47), (0, .nameAndType 48 49), (0, u "m_scores"), (0, u "[D"), (0, .fieldref 32 51), (0, .nameAndType 52 45), (0, u "m_documents"), (13, .methodref 32 67), (0, .nameAndType 68 69), (0, u "keep"), (0, u "(JDII)Z"), (0, .double 9221120237041090560), (1, .fieldref 32 73), (0, .nameAndType 74 36), (0, u "m_kept"), (0, .fieldref 32 76), (0, .nameAndType 77 78), (0, u "m_total"), (0, u "J"), (0, .methodref 32 80), (0, .nameAndType 81 82), (0, u "admits"), (0, u "(J)Z"), (0, .methodref 32 84), (0, .nameAndType 85 30), (0, u "grow"), (0, .methodref 32 87), (0, .nameAndType 88 89), (0, u "siftUp"), (0, u "(IJDJ)V"), (0, .methodref 32 91), (0, .nameAndType 92 93), (0, u "siftDown"), (0, u "(JDJ)V"), (17, .long 2), (1, .methodref 38 114), (0, .nameAndType 41 115), (0, u "(JJ)J"), (7, .methodref 32 124), (0, .nameAndType 125 126), (0, u "worse"), (0, u "(JJJJ)Z"), (0, .methodref 32 128), (0, .nameAndType 129 130), (0, u "move"), (0, u "(II)V"), (0, .methodref 32 132), (0, .nameAndType 133 89), (0, u "put"), (8, u "(I)V"), (130, u "sf_firstCapacity"), (8, u "offer"), (0, u "(JII)Z")] 43

def k2c0 : Code := { maxStack := 3, maxLocals := 2, code := prog_94_method_2_code, exceptionTable := #[], attributes := #[] }
def k2m0 : Method := { name := "<init>", desc := "(I)V", sig := { parameters := [.int], returnType := none }, accessFlags := 0, code := some k2c0 }
def k2c1 : Code := { maxStack := 7, maxLocals := 5, code := prog_94_method_5_code, exceptionTable := #[], attributes := #[] }
def k2m1 : Method := { name := "offer", desc := "(JII)Z", sig := { parameters := [.long, .int, .int], returnType := some .boolean }, accessFlags := 0, code := some k2c1 }
def k2c2 : Code := { maxStack := 4, maxLocals := 3, code := prog_94_method_6_code, exceptionTable := #[], attributes := #[] }
def k2m2 : Method := { name := "admits", desc := "(J)Z", sig := { parameters := [.long], returnType := some .boolean }, accessFlags := 0, code := some k2c2 }
def k2c3 : Code := { maxStack := 10, maxLocals := 8, code := prog_94_method_7_code, exceptionTable := #[], attributes := #[] }
def k2m3 : Method := { name := "keep", desc := "(JDII)Z", sig := { parameters := [.long, .double, .int, .int], returnType := some .boolean }, accessFlags := 2, code := some k2c3 }
def k2c4 : Code := { maxStack := 6, maxLocals := 2, code := prog_94_method_10_code, exceptionTable := #[], attributes := #[] }
def k2m4 : Method := { name := "grow", desc := "()V", sig := { parameters := [], returnType := none }, accessFlags := 2, code := some k2c4 }
def k2c5 : Code := { maxStack := 8, maxLocals := 9, code := prog_94_method_11_code, exceptionTable := #[], attributes := #[] }
def k2m5 : Method := { name := "siftUp", desc := "(IJDJ)V", sig := { parameters := [.int, .long, .double, .long], returnType := none }, accessFlags := 2, code := some k2c5 }
def k2c6 : Code := { maxStack := 8, maxLocals := 9, code := prog_94_method_12_code, exceptionTable := #[], attributes := #[] }
def k2m6 : Method := { name := "siftDown", desc := "(JDJ)V", sig := { parameters := [.long, .double, .long], returnType := none }, accessFlags := 2, code := some k2c6 }
def k2c7 : Code := { maxStack := 4, maxLocals := 8, code := prog_94_method_13_code, exceptionTable := #[], attributes := #[] }
def k2m7 : Method := { name := "put", desc := "(IJDJ)V", sig := { parameters := [.int, .long, .double, .long], returnType := none }, accessFlags := 2, code := some k2c7 }
def k2c8 : Code := { maxStack := 8, maxLocals := 3, code := prog_94_method_14_code, exceptionTable := #[], attributes := #[] }
def k2m8 : Method := { name := "move", desc := "(II)V", sig := { parameters := [.int, .int], returnType := none }, accessFlags := 2, code := some k2c8 }
def k2c9 : Code := { maxStack := 4, maxLocals := 8, code := prog_94_method_15_code, exceptionTable := #[], attributes := #[] }
def k2m9 : Method := { name := "worse", desc := "(JJJJ)Z", sig := { parameters := [.long, .long, .long, .long], returnType := some .boolean }, accessFlags := 10, code := some k2c9 }
/-- org/segmentry/search/TopHits -/
def k2 : Class := { plain "org/segmentry/search/TopHits" (some 0) with
  accessFlags := 48
  interfaces := #[]
  cf := some (fileOf pool2 32 #[.nestMembers #[2]] #[{ accessFlags := 0, nameIndex := 29, descriptorIndex := 142, attributes := #[] }, { accessFlags := 0, nameIndex := 282, descriptorIndex := 283, attributes := #[] }, { accessFlags := 0, nameIndex := 81, descriptorIndex := 82, attributes := #[] }, { accessFlags := 2, nameIndex := 68, descriptorIndex := 69, attributes := #[] }, { accessFlags := 2, nameIndex := 85, descriptorIndex := 30, attributes := #[] }, { accessFlags := 2, nameIndex := 88, descriptorIndex := 89, attributes := #[] }, { accessFlags := 2, nameIndex := 92, descriptorIndex := 93, attributes := #[] }, { accessFlags := 2, nameIndex := 133, descriptorIndex := 89, attributes := #[] }, { accessFlags := 2, nameIndex := 129, descriptorIndex := 130, attributes := #[] }, { accessFlags := 10, nameIndex := 125, descriptorIndex := 126, attributes := #[] }] 48 26 #[] #[{ accessFlags := 26, nameIndex := 273, descriptorIndex := 36, attributes := #[] }, { accessFlags := 18, nameIndex := 35, descriptorIndex := 36, attributes := #[] }, { accessFlags := 2, nameIndex := 44, descriptorIndex := 45, attributes := #[] }, { accessFlags := 2, nameIndex := 48, descriptorIndex := 49, attributes := #[] }, { accessFlags := 2, nameIndex := 52, descriptorIndex := 45, attributes := #[] }, { accessFlags := 2, nameIndex := 74, descriptorIndex := 36, attributes := #[] }, { accessFlags := 2, nameIndex := 77, descriptorIndex := 78, attributes := #[] }])
  fields := #[{ name := "sf_firstCapacity", type := .int, accessFlags := 26, slot := 0, constantValue := 0 }, { name := "m_top", type := .int, accessFlags := 18, slot := 0, constantValue := 0 }, { name := "m_ranks", type := (.array .long), accessFlags := 2, slot := 1, constantValue := 0 }, { name := "m_scores", type := (.array .double), accessFlags := 2, slot := 2, constantValue := 0 }, { name := "m_documents", type := (.array .long), accessFlags := 2, slot := 3, constantValue := 0 }, { name := "m_kept", type := .int, accessFlags := 2, slot := 4, constantValue := 0 }, { name := "m_total", type := .long, accessFlags := 2, slot := 5, constantValue := 0 }]
  methods := #[k2m0, k2m1, k2m2, k2m3, k2m4, k2m5, k2m6, k2m7, k2m8, k2m9]
  instanceTypes := #[.int, (.array .long), (.array .double), (.array .long), .int, .long]
  staticTypes := #[.int]
  resolved := Array.replicate 327 none
  statics := none }

def pool3 : Array CpInfo := pool [(1, .class_ 2), (0, u "java/lang/Math"), (1, .class_ 6), (1, u "java/lang/Object"), (0, u "<init>"), (0, u "()V"), (89, .class_ 100), (1, u "java/lang/Math$RandomNumberGeneratorHolder"), (20, u "(JJ)J"), (50, u "negativeZeroFloatBits"), (0, u "J"), (2, u "negativeZeroDoubleBits"), (21, u "max"), (2, u "min"), (43, u "$assertionsDisabled"), (0, u "Z"), (88, u "(II)I"), (2, u "twoToTheDoubleScaleDown"), (0, u "D"), (4, u "twoToTheDoubleScaleUp"), (9, u "E"), (3, u "PI"), (2, u "TAU"), (2, u "DEGREES_TO_RADIANS"), (0, u "RADIANS_TO_DEGREES")] 94

def k3m0 : Method := { name := "<init>", desc := "()V", sig := { parameters := [], returnType := none }, accessFlags := 2, code := none }
def k3c1 : Code := { maxStack := 4, maxLocals := 4, code := jdk_29_method_66_code, exceptionTable := #[], attributes := #[] }
def k3m1 : Method := { name := "max", desc := "(JJ)J", sig := { parameters := [.long, .long], returnType := some .long }, accessFlags := 9, code := some k3c1 }
def k3c2 : Code := { maxStack := 2, maxLocals := 2, code := jdk_29_method_69_code, exceptionTable := #[], attributes := #[] }
def k3m2 : Method := { name := "min", desc := "(II)I", sig := { parameters := [.int, .int], returnType := some .int }, accessFlags := 9, code := some k3c2 }
def k3c3 : Code := { maxStack := 4, maxLocals := 4, code := jdk_29_method_70_code, exceptionTable := #[], attributes := #[] }
def k3m3 : Method := { name := "min", desc := "(JJ)J", sig := { parameters := [.long, .long], returnType := some .long }, accessFlags := 9, code := some k3c3 }
/-- java/lang/Math -/
def k3 : Class := { plain "java/lang/Math" (some 0) with
  accessFlags := 49
  interfaces := #[]
  cf := some (fileOf pool3 1 #[.nestMembers #[98]] #[{ accessFlags := 2, nameIndex := 7, descriptorIndex := 8, attributes := #[] }, { accessFlags := 9, nameIndex := 198, descriptorIndex := 121, attributes := #[] }, { accessFlags := 9, nameIndex := 201, descriptorIndex := 335, attributes := #[] }, { accessFlags := 9, nameIndex := 201, descriptorIndex := 121, attributes := #[] }] 49 4 #[] #[{ accessFlags := 25, nameIndex := 354, descriptorIndex := 339, attributes := #[] }, { accessFlags := 25, nameIndex := 358, descriptorIndex := 339, attributes := #[] }, { accessFlags := 25, nameIndex := 361, descriptorIndex := 339, attributes := #[] }, { accessFlags := 26, nameIndex := 364, descriptorIndex := 339, attributes := #[] }, { accessFlags := 26, nameIndex := 365, descriptorIndex := 339, attributes := #[] }, { accessFlags := 26, nameIndex := 172, descriptorIndex := 173, attributes := #[] }, { accessFlags := 26, nameIndex := 176, descriptorIndex := 173, attributes := #[] }, { accessFlags := 8, nameIndex := 344, descriptorIndex := 339, attributes := #[] }, { accessFlags := 8, nameIndex := 338, descriptorIndex := 339, attributes := #[] }, { accessFlags := 4120, nameIndex := 245, descriptorIndex := 246, attributes := #[] }])
  fields := #[{ name := "E", type := .double, accessFlags := 25, slot := 0, constantValue := 0 }, { name := "PI", type := .double, accessFlags := 25, slot := 1, constantValue := 0 }, { name := "TAU", type := .double, accessFlags := 25, slot := 2, constantValue := 0 }, { name := "DEGREES_TO_RADIANS", type := .double, accessFlags := 26, slot := 3, constantValue := 0 }, { name := "RADIANS_TO_DEGREES", type := .double, accessFlags := 26, slot := 4, constantValue := 0 }, { name := "negativeZeroFloatBits", type := .long, accessFlags := 26, slot := 5, constantValue := 0 }, { name := "negativeZeroDoubleBits", type := .long, accessFlags := 26, slot := 6, constantValue := 0 }, { name := "twoToTheDoubleScaleUp", type := .double, accessFlags := 8, slot := 7, constantValue := 0 }, { name := "twoToTheDoubleScaleDown", type := .double, accessFlags := 8, slot := 8, constantValue := 0 }, { name := "$assertionsDisabled", type := .boolean, accessFlags := 4120, slot := 9, constantValue := 0 }]
  methods := #[k3m0, k3m1, k3m2, k3m3]
  instanceTypes := #[]
  staticTypes := #[.double, .double, .double, .double, .double, .long, .long, .double, .double, .boolean]
  resolved := Array.replicate 460 none
  statics := none }

def pool4 : Array CpInfo := pool [(1, u "java/lang/Cloneable"), (0, .class_ 1), (0, u "java/lang/Object"), (0, .class_ 3)] 3

/-- java/lang/Cloneable -/
def k4 : Class := { plain "java/lang/Cloneable" (some 0) with
  accessFlags := 1537
  interfaces := #[]
  cf := some (fileOf pool4 2 #[] #[] 1537 4 #[] #[])
  fields := #[]
  methods := #[]
  instanceTypes := #[]
  staticTypes := #[]
  resolved := Array.replicate 8 none
  statics := none }

def pool5 : Array CpInfo := pool [(1, u "java/io/Serializable"), (0, .class_ 1), (0, u "java/lang/Object"), (0, .class_ 3)] 3

/-- java/io/Serializable -/
def k5 : Class := { plain "java/io/Serializable" (some 0) with
  accessFlags := 1537
  interfaces := #[]
  cf := some (fileOf pool5 2 #[] #[] 1537 4 #[] #[])
  fields := #[]
  methods := #[]
  instanceTypes := #[]
  staticTypes := #[]
  resolved := Array.replicate 8 none
  statics := none }

/-- the primitive byte -/
def k6 : Class := { plain "byte" none with kind := .primitive 'B', accessFlags := 0x411 }
/-- [B -/
def k7 : Class := { plain "[B" (some 0) with kind := .array 6 .byte, interfaces := #[4, 5], accessFlags := 1041 }

/-- the primitive double -/
def k8 : Class := { plain "double" none with kind := .primitive 'D', accessFlags := 0x411 }
/-- [D -/
def k9 : Class := { plain "[D" (some 0) with kind := .array 8 .double, interfaces := #[4, 5], accessFlags := 1041 }

/-- the primitive int -/
def k10 : Class := { plain "int" none with kind := .primitive 'I', accessFlags := 0x411 }
/-- [I -/
def k11 : Class := { plain "[I" (some 0) with kind := .array 10 .int, interfaces := #[4, 5], accessFlags := 1041 }

/-- the primitive long -/
def k12 : Class := { plain "long" none with kind := .primitive 'J', accessFlags := 0x411 }
/-- [J -/
def k13 : Class := { plain "[J" (some 0) with kind := .array 12 .long, interfaces := #[4, 5], accessFlags := 1041 }

def heap : Heap := #[]
def classes : Array Class := #[k0, k1, k2, k3, k4, k5, k6, k7, k8, k9, k10, k11, k12, k13]
def interned : List (Array UInt16 × Addr) := []
def slotsUsed : Nat := 0
def theMethod : MethodId := ⟨1, 1⟩
def args0 : Array Value := #[.int 5, .long 6, .long 7, .long 8, .long 9]
def aboutOver (below : List Frame) : State where
  vm := { classes := classes, interned := interned.toArray }
  heap := heap
  slotsUsed := slotsUsed
  threads := #[{ frames := .invoking theMethod args0 :: below }]
def below0 : List Frame := [.native { method := ⟨0, 0⟩, args := #[] }]
def about1 : State := aboutOver below0
def p0 : Program := .bare "" "" ""
def e0 : Env := launch0.env 0 0 0
theorem w_frames : about1.frames = Frame.invoking theMethod args0 :: below0 := rfl
set_option maxRecDepth 65536 in
theorem w_args : argsFit about1.vm theMethod args0 = true := by decide +kernel
set_option maxRecDepth 65536 in
theorem w_heap : heapFits about1 = true := by decide +kernel
set_option maxRecDepth 65536 in
theorem w_runnable : about1.curStatus? = some .runnable := by decide +kernel
set_option maxRecDepth 65536 in
theorem w_alone : about1.alone = true := by decide +kernel
set_option maxRecDepth 65536 in
theorem w_named : about1.methodNamed? x = some theMethod := by decide +kernel
set_option maxRecDepth 65536 in
theorem w_hears : about1.hears theMethod below0 = true := by decide +kernel
set_option maxRecDepth 65536 in
theorem w_ripe : about1.ripe theMethod args0 below0 = true := by decide +kernel
theorem w_running : about1.status = .running := rfl
set_option maxRecDepth 65536 in
theorem w_room : about1.hasRoom e0.platform room_1 = true :=
  launch0.hasRoom_least _ room_1 (by decide +kernel) (by decide +kernel) (by decide +kernel) (by decide +kernel) (by decide +kernel) (by decide +kernel)
theorem allAtoms_all (ts : List Jvm.Cond) (a : Array Jvm.Value) (st : Jvm.State) : (allAtoms ts).before a st = ts.all (fun c => c.before a st) := by
  induction ts with
  | nil => rfl
  | cons c t ih =>
    show (Jvm.Cond.and c (allAtoms t)).before a st = _
    rw [Jvm.Cond.before_and, ih, List.all_cons]
def words1 : List Jvm.Cond := Jvm.Cond.code x code maxLocals ret :: tables_1
/-- a 'code' word, met by the world's own term for the bytes: nothing is compared byte by byte -/
theorem code_word {y : MethodName} {bytes : ByteArray} {mx : Nat} {rt : Option FieldType} {a : Array Value} {s : State} {m : MethodId} {meth : Method} {c : Code} (h1 : s.methodNamed? y = some m) (h2 : s.vm.method? m = some meth) (h3 : meth.code = some c) (h4 : c.code = bytes)
    (h5 : (c.maxLocals == mx && c.exceptionTable.isEmpty && decide (c.maxStack ≤ mostOperands) && decide (meth.sig.returnType = rt) && !meth.locks && decide (parseMethodDescriptor y.desc = some meth.sig)) = true) : (Jvm.Cond.code y bytes mx rt).before a s = true := by
  simp only [Bool.and_eq_true, beq_iff_eq, Bool.not_eq_true', decide_eq_true_eq] at h5
  obtain ⟨⟨⟨⟨⟨g1, g2⟩, g3⟩, g4⟩, g5⟩, g6⟩ := h5
  simp [Cond.before, Cond.holds, Cond.value, h1, h2, h3, h4, g1, g2, g3, g4, g5, g6]
def isCode : Jvm.Cond → Bool
  | .code _ _ _ _ => true
  | _ => false
theorem all_split {L : List Jvm.Cond} {P : Jvm.Cond → Bool} (h1 : L.all (fun c => isCode c || P c) = true) (h2 : ∀ c ∈ L.filter isCode, P c = true) : L.all P = true := by
  refine List.all_eq_true.mpr fun c hc => ?_
  have h := List.all_eq_true.mp h1 c hc
  rcases Bool.eq_false_or_eq_true (isCode c) with hi | hi
  · exact h2 c (List.mem_filter.mpr ⟨hc, hi⟩)
  · simpa [hi] using h
set_option maxRecDepth 65536 in
theorem w_c0 : (Jvm.Cond.code x code maxLocals ret).before args0 about1 = true := code_word (m := ⟨1, 1⟩) (meth := k1m1) (c := k1c1) (by decide +kernel) rfl rfl rfl (by decide +kernel)
set_option maxRecDepth 65536 in
theorem w_c1 : (Jvm.Cond.code ({ cls := "org/segmentry/search/TopHits", name := "<init>", desc := "(I)V" } : Jvm.MethodName) prog_94_method_2_code (2 : Nat) (Option.none : Option Jvm.ClassFile.FieldType)).before args0 about1 = true := code_word (m := ⟨2, 0⟩) (meth := k2m0) (c := k2c0) (by decide +kernel) rfl rfl rfl (by decide +kernel)
set_option maxRecDepth 65536 in
theorem w_c2 : (Jvm.Cond.code ({ cls := "java/lang/Object", name := "<init>", desc := "()V" } : Jvm.MethodName) object_method_1_code (1 : Nat) (Option.none : Option Jvm.ClassFile.FieldType)).before args0 about1 = true := code_word (m := ⟨0, 0⟩) (meth := k0m0) (c := k0c0) (by decide +kernel) rfl rfl rfl (by decide +kernel)
set_option maxRecDepth 65536 in
theorem w_c3 : (Jvm.Cond.code ({ cls := "java/lang/Math", name := "min", desc := "(II)I" } : Jvm.MethodName) jdk_29_method_69_code (2 : Nat) (Option.some Jvm.ClassFile.FieldType.int)).before args0 about1 = true := code_word (m := ⟨3, 2⟩) (meth := k3m2) (c := k3c2) (by decide +kernel) rfl rfl rfl (by decide +kernel)
set_option maxRecDepth 65536 in
theorem w_c4 : (Jvm.Cond.code ({ cls := "org/segmentry/search/TopHits", name := "admits", desc := "(J)Z" } : Jvm.MethodName) prog_94_method_6_code (3 : Nat) (Option.some Jvm.ClassFile.FieldType.boolean)).before args0 about1 = true := code_word (m := ⟨2, 2⟩) (meth := k2m2) (c := k2c2) (by decide +kernel) rfl rfl rfl (by decide +kernel)
set_option maxRecDepth 65536 in
theorem w_c5 : (Jvm.Cond.code ({ cls := "org/segmentry/search/TopHits", name := "offer", desc := "(JII)Z" } : Jvm.MethodName) prog_94_method_5_code (5 : Nat) (Option.some Jvm.ClassFile.FieldType.boolean)).before args0 about1 = true := code_word (m := ⟨2, 1⟩) (meth := k2m1) (c := k2c1) (by decide +kernel) rfl rfl rfl (by decide +kernel)
set_option maxRecDepth 65536 in
theorem w_c6 : (Jvm.Cond.code ({ cls := "org/segmentry/search/TopHits", name := "keep", desc := "(JDII)Z" } : Jvm.MethodName) prog_94_method_7_code (8 : Nat) (Option.some Jvm.ClassFile.FieldType.boolean)).before args0 about1 = true := code_word (m := ⟨2, 3⟩) (meth := k2m3) (c := k2c3) (by decide +kernel) rfl rfl rfl (by decide +kernel)
set_option maxRecDepth 65536 in
theorem w_c7 : (Jvm.Cond.code ({ cls := "org/segmentry/search/TopHits", name := "grow", desc := "()V" } : Jvm.MethodName) prog_94_method_10_code (2 : Nat) (Option.none : Option Jvm.ClassFile.FieldType)).before args0 about1 = true := code_word (m := ⟨2, 4⟩) (meth := k2m4) (c := k2c4) (by decide +kernel) rfl rfl rfl (by decide +kernel)
set_option maxRecDepth 65536 in
theorem w_c8 : (Jvm.Cond.code ({ cls := "org/segmentry/search/TopHits", name := "siftUp", desc := "(IJDJ)V" } : Jvm.MethodName) prog_94_method_11_code (9 : Nat) (Option.none : Option Jvm.ClassFile.FieldType)).before args0 about1 = true := code_word (m := ⟨2, 5⟩) (meth := k2m5) (c := k2c5) (by decide +kernel) rfl rfl rfl (by decide +kernel)
set_option maxRecDepth 65536 in
theorem w_c9 : (Jvm.Cond.code ({ cls := "org/segmentry/search/TopHits", name := "put", desc := "(IJDJ)V" } : Jvm.MethodName) prog_94_method_13_code (8 : Nat) (Option.none : Option Jvm.ClassFile.FieldType)).before args0 about1 = true := code_word (m := ⟨2, 7⟩) (meth := k2m7) (c := k2c7) (by decide +kernel) rfl rfl rfl (by decide +kernel)
set_option maxRecDepth 65536 in
theorem w_c10 : (Jvm.Cond.code ({ cls := "org/segmentry/search/TopHits", name := "worse", desc := "(JJJJ)Z" } : Jvm.MethodName) prog_94_method_15_code (8 : Nat) (Option.some Jvm.ClassFile.FieldType.boolean)).before args0 about1 = true := code_word (m := ⟨2, 9⟩) (meth := k2m9) (c := k2c9) (by decide +kernel) rfl rfl rfl (by decide +kernel)
set_option maxRecDepth 65536 in
theorem w_c11 : (Jvm.Cond.code ({ cls := "org/segmentry/search/TopHits", name := "move", desc := "(II)V" } : Jvm.MethodName) prog_94_method_14_code (3 : Nat) (Option.none : Option Jvm.ClassFile.FieldType)).before args0 about1 = true := code_word (m := ⟨2, 8⟩) (meth := k2m8) (c := k2c8) (by decide +kernel) rfl rfl rfl (by decide +kernel)
set_option maxRecDepth 65536 in
theorem w_c12 : (Jvm.Cond.code ({ cls := "org/segmentry/search/TopHitsAdmitsPinLaw", name := "worst", desc := "(IIJJJ)J" } : Jvm.MethodName) method_3_code (12 : Nat) (Option.some Jvm.ClassFile.FieldType.long)).before args0 about1 = true := code_word (m := ⟨1, 2⟩) (meth := k1m2) (c := k1c2) (by decide +kernel) rfl rfl rfl (by decide +kernel)
set_option maxRecDepth 65536 in
theorem w_c13 : (Jvm.Cond.code ({ cls := "java/lang/Math", name := "max", desc := "(JJ)J" } : Jvm.MethodName) jdk_29_method_66_code (4 : Nat) (Option.some Jvm.ClassFile.FieldType.long)).before args0 about1 = true := code_word (m := ⟨3, 1⟩) (meth := k3m1) (c := k3c1) (by decide +kernel) rfl rfl rfl (by decide +kernel)
set_option maxRecDepth 65536 in
theorem w_c14 : (Jvm.Cond.code ({ cls := "java/lang/Math", name := "min", desc := "(JJ)J" } : Jvm.MethodName) jdk_29_method_70_code (4 : Nat) (Option.some Jvm.ClassFile.FieldType.long)).before args0 about1 = true := code_word (m := ⟨3, 3⟩) (meth := k3m3) (c := k3c3) (by decide +kernel) rfl rfl rfl (by decide +kernel)
set_option maxRecDepth 65536 in
theorem w_c15 : (Jvm.Cond.code ({ cls := "org/segmentry/search/TopHits", name := "siftDown", desc := "(JDJ)V" } : Jvm.MethodName) prog_94_method_12_code (9 : Nat) (Option.none : Option Jvm.ClassFile.FieldType)).before args0 about1 = true := code_word (m := ⟨2, 6⟩) (meth := k2m6) (c := k2c6) (by decide +kernel) rfl rfl rfl (by decide +kernel)
def codes1 : List Jvm.Cond := [Jvm.Cond.code x code maxLocals ret, Jvm.Cond.code ({ cls := "org/segmentry/search/TopHits", name := "<init>", desc := "(I)V" } : Jvm.MethodName) prog_94_method_2_code (2 : Nat) (Option.none : Option Jvm.ClassFile.FieldType), Jvm.Cond.code ({ cls := "java/lang/Object", name := "<init>", desc := "()V" } : Jvm.MethodName) object_method_1_code (1 : Nat) (Option.none : Option Jvm.ClassFile.FieldType), Jvm.Cond.code ({ cls := "java/lang/Math", name := "min", desc := "(II)I" } : Jvm.MethodName) jdk_29_method_69_code (2 : Nat) (Option.some Jvm.ClassFile.FieldType.int), Jvm.Cond.code ({ cls := "org/segmentry/search/TopHits", name := "admits", desc := "(J)Z" } : Jvm.MethodName) prog_94_method_6_code (3 : Nat) (Option.some Jvm.ClassFile.FieldType.boolean), Jvm.Cond.code ({ cls := "org/segmentry/search/TopHits", name := "offer", desc := "(JII)Z" } : Jvm.MethodName) prog_94_method_5_code (5 : Nat) (Option.some Jvm.ClassFile.FieldType.boolean), Jvm.Cond.code ({ cls := "org/segmentry/search/TopHits", name := "keep", desc := "(JDII)Z" } : Jvm.MethodName) prog_94_method_7_code (8 : Nat) (Option.some Jvm.ClassFile.FieldType.boolean), Jvm.Cond.code ({ cls := "org/segmentry/search/TopHits", name := "grow", desc := "()V" } : Jvm.MethodName) prog_94_method_10_code (2 : Nat) (Option.none : Option Jvm.ClassFile.FieldType), Jvm.Cond.code ({ cls := "org/segmentry/search/TopHits", name := "siftUp", desc := "(IJDJ)V" } : Jvm.MethodName) prog_94_method_11_code (9 : Nat) (Option.none : Option Jvm.ClassFile.FieldType), Jvm.Cond.code ({ cls := "org/segmentry/search/TopHits", name := "put", desc := "(IJDJ)V" } : Jvm.MethodName) prog_94_method_13_code (8 : Nat) (Option.none : Option Jvm.ClassFile.FieldType), Jvm.Cond.code ({ cls := "org/segmentry/search/TopHits", name := "worse", desc := "(JJJJ)Z" } : Jvm.MethodName) prog_94_method_15_code (8 : Nat) (Option.some Jvm.ClassFile.FieldType.boolean), Jvm.Cond.code ({ cls := "org/segmentry/search/TopHits", name := "move", desc := "(II)V" } : Jvm.MethodName) prog_94_method_14_code (3 : Nat) (Option.none : Option Jvm.ClassFile.FieldType), Jvm.Cond.code ({ cls := "org/segmentry/search/TopHitsAdmitsPinLaw", name := "worst", desc := "(IIJJJ)J" } : Jvm.MethodName) method_3_code (12 : Nat) (Option.some Jvm.ClassFile.FieldType.long), Jvm.Cond.code ({ cls := "java/lang/Math", name := "max", desc := "(JJ)J" } : Jvm.MethodName) jdk_29_method_66_code (4 : Nat) (Option.some Jvm.ClassFile.FieldType.long), Jvm.Cond.code ({ cls := "java/lang/Math", name := "min", desc := "(JJ)J" } : Jvm.MethodName) jdk_29_method_70_code (4 : Nat) (Option.some Jvm.ClassFile.FieldType.long), Jvm.Cond.code ({ cls := "org/segmentry/search/TopHits", name := "siftDown", desc := "(JDJ)V" } : Jvm.MethodName) prog_94_method_12_code (9 : Nat) (Option.none : Option Jvm.ClassFile.FieldType)]
set_option maxRecDepth 65536 in
theorem codes_eq : words1.filter isCode = codes1 := rfl
theorem w_codes : ∀ c ∈ words1.filter isCode, c.before args0 about1 = true := by
  rw [codes_eq]
  intro c hc
  simp only [codes1, List.mem_cons, List.not_mem_nil, or_false] at hc
  rcases hc with rfl | rfl | rfl | rfl | rfl | rfl | rfl | rfl | rfl | rfl | rfl | rfl | rfl | rfl | rfl | rfl
  · exact w_c0
  · exact w_c1
  · exact w_c2
  · exact w_c3
  · exact w_c4
  · exact w_c5
  · exact w_c6
  · exact w_c7
  · exact w_c8
  · exact w_c9
  · exact w_c10
  · exact w_c11
  · exact w_c12
  · exact w_c13
  · exact w_c14
  · exact w_c15
set_option maxRecDepth 65536 in
theorem w_t1 : (words1.take 24).all (fun c => isCode c || c.before args0 about1) = true := by decide +kernel
set_option maxRecDepth 65536 in
theorem w_t2 : ((words1.drop 24).take 24).all (fun c => isCode c || c.before args0 about1) = true := by decide +kernel
set_option maxRecDepth 65536 in
theorem w_t3 : (((words1.drop 24).drop 24).take 24).all (fun c => isCode c || c.before args0 about1) = true := by decide +kernel
set_option maxRecDepth 65536 in
theorem w_t4 : (((words1.drop 24).drop 24).drop 24).all (fun c => isCode c || c.before args0 about1) = true := by decide +kernel
theorem w_tables : (allAtoms (Jvm.Cond.code x code maxLocals ret :: tables_1)).before args0 about1 = true := by
  rw [allAtoms_all]
  show words1.all (fun c => c.before args0 about1) = true
  refine all_split ?_ w_codes
  rw [← List.take_append_drop 24 words1, List.all_append, w_t1, ← List.take_append_drop 24 (words1.drop 24), List.all_append, w_t2, ← List.take_append_drop 24 ((words1.drop 24).drop 24), List.all_append, w_t3, w_t4]
  rfl
set_option maxRecDepth 65536 in
theorem w_case : (Jvm.Cond.and given_1 narrow_1).before args0 about1 = true := by decide +kernel
theorem w_applies : (headSpec (Jvm.Cond.code x code maxLocals ret :: tables_1) room_1).applies x e0.platform about1 = true :=
  (Spec.applies_iff w_frames).mpr ⟨w_running, w_runnable, w_alone, w_named, w_hears, w_ripe, w_room, w_tables⟩
theorem atStart : AtStart classFile x code maxLocals ret World_1 tables_1 room_1 Calls_1 rest_1 Pre_1 launch0 p0 e0 about1 theMethod args0 below0 :=
  ⟨lists_1, trivial, launch0.admits_env _ _ _, launch0.least_env, fairChoices_fair.cas, fairChoices_fair.clock, w_frames, w_args, w_heap, w_applies, trivial, trivial, w_case⟩
end start1
theorem witness_1 : WitnessClaimed_1 := ⟨start1.p0, start1.e0, start1.about1, start1.theMethod, start1.args0, start1.below0, start1.atStart⟩
end Jvm.Pilot.@@N@@
