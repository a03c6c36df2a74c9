import JvmDerived
import JvmDerived.Pilot.@@N@@Statement
import JvmDerived.Pilot.@@N@@Code
set_option linter.unusedVariables false
set_option linter.unusedSimpArgs false
@@BLOCK:NumsL.lean.txt@@
namespace Jvm.Pilot.@@N@@
open Jvm Jvm.ClassFile Sem Op Lib Jvm.Free Jvm.Stand Jvm.LawKit Jvm.RoadKit Bundle Jvm.Pilot.@@N@@.Jvm.D

section Kit
/-- The run goes on from the state T with the frame f on top and comes back to the caller, and Q holds of what it returned, of the heap and of the places written. -/
def Go (p : Program) (e : Env) (below : List Frame) (s : State) (R : Room) (Q : Option Value → Heap → List Loc → Prop) (T : State) (f : JFrame) : Prop :=
  ∃ s₂ o, Steps p.tables e below (T.setTop f) s₂ ∧ s₂.status = .running ∧ Ended s₂ below o ∧ ∃ v L, o = .returned v ∧ Q v s₂.heap L ∧ FrameEnd s o s₂ L R.cells R.slots
/-- a body's contract -/
def Met (l : Launch) (Z : State) (y : MethodName) (bytes : ByteArray) (maxL : Nat) (ret : Option FieldType) (ws : List Jvm.Cond) (rm : Room) (as : Array Value) (h0 : Heap) (Q : Option Value → Heap → List Loc → Prop) : Prop :=
  MetFree l y (head1 (Jvm.Cond.code y bytes maxL ret :: ws) rm) (fun a U => a = as ∧ Z.Warmed39 U.vm ∧ U.heap = h0) (fun _ _ _ _ _ => True) (fun _ U o U' => ∃ v L, o = .returned v ∧ Q v U'.heap L ∧ FrameEnd U o U' L rm.cells rm.slots)
theorem Met.mk {l : Launch} {Z : State} {y : MethodName} {bytes : ByteArray} {maxL : Nat} {ret : Option FieldType} {ws : List Jvm.Cond} {rm : Room} {as : Array Value} {h0 : Heap} {Q : Option Value → Heap → List Loc → Prop} (hp : plainFor y = true)
    (body : ∀ (p : Program) (e : Env) (s : State) (m : MethodId) (below : List Frame) (meth : Method) (c : Code) (T : State), p.tables.exec = Jvm.exec → c.code = bytes → c.maxLocals = maxL → s.vm.findClass y.cls = some m.cls → meth.name = y.name → meth.sig.returnType = ret → meth.locks = false → Z.Warmed39 s.vm →
      Stand p l e rm s m as below meth c T [] 0 0 → T.heap = h0 → Go p e below s rm Q T (entryFrame m as maxL)) : Met l Z y bytes maxL ret ws rm as h0 Q := by
  refine MetFree.of_bodySF hp hisR ?_
  intro p e s m args below meth c s₁ Bd hml0 hP hK
  obtain ⟨rfl, hZ, hh⟩ := hP
  exact body p e s m below meth c s₁ Bd.exec Bd.bytes hml0 (findClass_of_methodNamed Bd.named) (name_of_methodNamed Bd.named Bd.method).1 Bd.returns (BodyLoose.notSynchronized Bd) hZ (Stand.of_body Bd) (by rw [← hh, Bd.state]; rfl)
variable {p : Program} {l : Launch} {e : Env} {R : Room} {s : State} {m : MethodId} {args : Array Value} {below : List Frame} {meth : Method} {c : Code} {T T' : State} {locs : List Loc} {cells slots : Nat} {R' : Room} {Q : Option Value → Heap → List Loc → Prop} {f f' : JFrame} {Z : State} {a0 : Array Value} {h h' : Heap} {pc : Nat} {Ls : Array Slot} {rest : List Value}
theorem Go.of (h : ∀ t, Steps p.tables e below (T'.setTop f') t → Steps p.tables e below (T.setTop f) t) (g : Go p e below s R Q T' f') : Go p e below s R Q T f := by
  obtain ⟨s₂, o, h1, h2⟩ := g
  exact ⟨s₂, o, h _ h1, h2⟩
theorem Go.cast (q : f = f') (g : Go p e below s R Q T f') : Go p e below s R Q T f := q ▸ g
theorem Go.join {α : Type} (P : α → Prop) (fr : α → JFrame) (k : ∀ x, P x → Go p e below s R Q T (fr x)) (g : (∀ x, P x → Go p e below s R Q T (fr x)) → Go p e below s R Q T f) : Go p e below s R Q T f := g k
theorem Go.joinT {α : Type} (I : α → List Loc → Heap → Prop) (fr : α → JFrame) (k : ∀ x T' locs' h', Stand p l e R s m args below meth c T' locs' cells slots → T'.heap = h' → I x locs' h' → Go p e below s R' Q T' (fr x))
    (g : (∀ x T' locs' h', Stand p l e R s m args below meth c T' locs' cells slots → T'.heap = h' → I x locs' h' → Go p e below s R' Q T' (fr x)) → Go p e below s R' Q T f) : Go p e below s R' Q T f := g k
theorem Go.loop {α : Type} (μ : α → Nat) (I : α → List Loc → Heap → Prop) (fr : α → JFrame)
    (step : ∀ x T' locs' h', Stand p l e R s m args below meth c T' locs' cells slots → T'.heap = h' → I x locs' h' → (∀ y T'' locs'' h'', μ y < μ x → Stand p l e R s m args below meth c T'' locs'' cells slots → T''.heap = h'' → I y locs'' h'' → Go p e below s R' Q T'' (fr y)) → Go p e below s R' Q T' (fr x))
    (x : α) (X : Stand p l e R s m args below meth c T locs cells slots) (eT : T.heap = h) (hI : I x locs h) : Go p e below s R' Q T (fr x) := by
  obtain ⟨n, hn⟩ : ∃ n, μ x < n := ⟨_, Nat.lt_succ_self _⟩
  induction n generalizing x T locs h with
  | zero => exact absurd hn (Nat.not_lt_zero _)
  | succ n ih => exact step x T locs h X eT hI fun y T'' l'' h'' hy X'' e'' I'' => ih y X'' e'' I'' (by omega)
theorem Met.mono {y : MethodName} {bytes : ByteArray} {maxL : Nat} {ret : Option FieldType} {ws : List Jvm.Cond} {rm : Room} {as : Array Value} {h0 : Heap} {Q Q' : Option Value → Heap → List Loc → Prop} (M : Met l Z y bytes maxL ret ws rm as h0 Q) (q : ∀ v h L, Q v h L → Q' v h L) : Met l Z y bytes maxL ret ws rm as h0 Q' := by
  intro p e ha hc hk s m args below hf happ hP hK
  obtain ⟨n, o, h1, h2, h3, v, L, h4, h5, h6⟩ := M p e ha hc hk s m args below hf happ hP hK
  exact ⟨n, o, h1, h2, h3, v, L, h4, q _ _ _ h5, h6⟩
theorem Go.retW {g : JFrame} {v : Option Value} (X : Stand p l e R s m args below meth c T locs cells slots) (hv : meth.sig.returnType = none → v = none) (hlk : meth.locks = false) (hc : cells ≤ R'.cells) (hs : slots ≤ R'.slots) (q : Q v T.heap locs)
    (st : ∀ fs, (∀ (f : JFrame) (acts : List Action), f.method = m → f.locked = none → f.entered = [] → (doReturn e (T.setTop f) acts v).1 = T.setFrames fs) → Steps p.tables e below (T.setTop g) (T.setFrames fs)) : Go p e below s R' Q T g := by
  obtain ⟨fs, hr, hrun, hended, hW, hsame⟩ := X.leave (v := v) hv hlk
  exact ⟨_, _, st fs hr, hrun, hended, _, _, rfl, q, ⟨_, rfl⟩, hW, hsame.mono hc hs⟩
theorem Go.retI {z : Int32} (X : Stand p l e R s m args below meth c T locs cells slots) (hx : p.tables.exec = Jvm.exec) (hret : meth.sig.returnType = some .int) (hlk : meth.locks = false) (hd : decode c.code pc = .ok (.ireturn, 1)) (hc : cells ≤ R'.cells) (hs : slots ≤ R'.slots) (q : Q (some (.int z)) T.heap locs) :
    Go p e below s R' Q T (mkF m pc Ls (.int z :: rest)) :=
  Go.retW X (fun h => by rw [hret] at h; cases h) hlk hc hs q fun fs hr => retOut X hx hret rfl (Or.inl ⟨rfl, Or.inl rfl, z, rfl⟩) hd hr
theorem Go.retJ {z : Int64} (X : Stand p l e R s m args below meth c T locs cells slots) (hx : p.tables.exec = Jvm.exec) (hret : meth.sig.returnType = some .long) (hlk : meth.locks = false) (hd : decode c.code pc = .ok (.lreturn, 1)) (hc : cells ≤ R'.cells) (hs : slots ≤ R'.slots) (q : Q (some (.long z)) T.heap locs) :
    Go p e below s R' Q T (mkF m pc Ls (.long z :: rest)) :=
  Go.retW X (fun h => by rw [hret] at h; cases h) hlk hc hs q fun fs hr => retOut X hx hret rfl (Or.inr (Or.inl ⟨rfl, rfl, z, rfl⟩)) hd hr
theorem Go.retA {w : Value} {t : FieldType} (X : Stand p l e R s m args below meth c T locs cells slots) (hx : p.tables.exec = Jvm.exec) (hret : meth.sig.returnType = some t) (ht : t.isReference = true) (hw : w.isRef = true) (hn : narrow t w = w) (hlk : meth.locks = false) (hd : decode c.code pc = .ok (.areturn, 1)) (hc : cells ≤ R'.cells) (hs : slots ≤ R'.slots) (q : Q (some w) T.heap locs) :
    Go p e below s R' Q T (mkF m pc Ls (w :: rest)) :=
  Go.retW X (fun h => by rw [hret] at h; cases h) hlk hc hs q fun fs hr => retOut X hx hret hn (Or.inr (Or.inr (Or.inr (Or.inr ⟨rfl, ht, hw⟩)))) hd hr
theorem Go.retN {z : Int32} {t : FieldType} (X : Stand p l e R s m args below meth c T locs cells slots) (hx : p.tables.exec = Jvm.exec) (hret : meth.sig.returnType = some t) (ht : t = .boolean ∨ t = .byte ∨ t = .char ∨ t = .short) (hlk : meth.locks = false) (hd : decode c.code pc = .ok (.ireturn, 1)) (hc : cells ≤ R'.cells) (hs : slots ≤ R'.slots) (q : Q (some (.int (nar t z))) T.heap locs) :
    Go p e below s R' Q T (mkF m pc Ls (.int z :: rest)) :=
  Go.retW X (fun h => by rw [hret] at h; cases h) hlk hc hs q fun fs hr => RoadKit.retN X hx hret ht hd hr
theorem Go.retV (X : Stand p l e R s m args below meth c T locs cells slots) (hx : p.tables.exec = Jvm.exec) (hret : meth.sig.returnType = none) (hlk : meth.locks = false) (hd : decode c.code pc = .ok (.return_, 1)) (hc : cells ≤ R'.cells) (hs : slots ≤ R'.slots) (q : Q none T.heap locs) :
    Go p e below s R' Q T (mkF m pc Ls []) :=
  Go.retW X (fun _ => rfl) hlk hc hs q fun fs hr => X.returnOut hx hret hd hr
/-! fields -/
theorem Go.getF {own R0 O n d : String} {index : Nat} {a : Addr} {v : Value} (X : Stand p l e R s m args below meth c T locs cells slots) (hx : p.tables.exec = Jvm.exec) (hZ : Z.Warmed39 s.vm) (hown : s.vm.findClass own = some m.cls) (w : (Jvm.Cond.fieldLink own index R0 n d).before a0 Z = true) (via : Via Z R0 O n d) (eT : T.heap = h) (F : Fld Z h a O n d v)
    (hd : decode c.code pc = .ok (.getfield index, 3)) (k : ∀ T', Stand p l e R s m args below meth c T' locs cells slots → T'.heap = h → Go p e below s R' Q T' (mkF m (pc + 3) Ls (v :: rest))) : Go p e below s R' Q T (mkF m pc Ls (.ref a :: rest)) := by
  obtain ⟨T', X', e', st⟩ := RoadKit.getF X hx hZ hown (host := "") (Or.inl w) via eT F (g := mkF m pc Ls (.ref a :: rest)) rfl rfl hd
  exact Go.of st (k T' X' e')
theorem Go.getFN {own R0 O n d host : String} {index : Nat} {a : Addr} {v : Value} (X : Stand p l e R s m args below meth c T locs cells slots) (hx : p.tables.exec = Jvm.exec) (hZ : Z.Warmed39 s.vm) (hown : s.vm.findClass own = some m.cls) (w : (Jvm.Cond.fieldLinkNest own index R0 n d host).before a0 Z = true) (via : Via Z R0 O n d) (eT : T.heap = h) (F : Fld Z h a O n d v)
    (hd : decode c.code pc = .ok (.getfield index, 3)) (k : ∀ T', Stand p l e R s m args below meth c T' locs cells slots → T'.heap = h → Go p e below s R' Q T' (mkF m (pc + 3) Ls (v :: rest))) : Go p e below s R' Q T (mkF m pc Ls (.ref a :: rest)) := by
  obtain ⟨T', X', e', st⟩ := RoadKit.getF X hx hZ hown (Or.inr w) via eT F (g := mkF m pc Ls (.ref a :: rest)) rfl rfl hd
  exact Go.of st (k T' X' e')
theorem Go.putF {own R0 O n d C : String} {index kk : Nat} {ty : FieldType} {a : Addr} {v old : Value} (X : Stand p l e R s m args below meth c T locs cells slots) (hx : p.tables.exec = Jvm.exec) (hZ : Z.Warmed39 s.vm) (hown : s.vm.findClass own = some m.cls) (w : (Jvm.Cond.fieldLink own index R0 n d).before a0 Z = true) (via : Via Z R0 O n d) (eT : T.heap = h) (F : Fld Z h a O n d old)
    (E : Exa Z h a C) (L : (Jvm.Cond.lays C O n d).before a0 Z = true ∨ ((Jvm.Cond.laysFinal C O n d).before a0 Z = true ∧ own = O ∧ meth.name = "<init>")) (wi : (Jvm.Cond.instantiable C kk).before a0 Z = true) (hty : parseFieldDescriptor d = some ty) (hn : narrow ty v = v) (hf : fits ty v = true)
    (hd : decode c.code pc = .ok (.putfield index, 3)) (k : ∀ T' h', Stand p l e R s m args below meth c T' (locs ++ [⟨a, RoadKit.slotOf Z O n d⟩]) cells slots → T'.heap = h' → Wr h h' a (RoadKit.slotOf Z O n d) v → Go p e below s R' Q T' (mkF m (pc + 3) Ls rest)) : Go p e below s R' Q T (mkF m pc Ls (v :: .ref a :: rest)) := by
  obtain ⟨T', h', X', e', W, st⟩ := RoadKit.putF X hx hZ hown (host := "") (Or.inl w) via eT F E L wi hty hn hf (g := mkF m pc Ls (v :: .ref a :: rest)) rfl rfl hd
  exact Go.of st (k T' h' X' e' W)
theorem Go.putFN {own R0 O n d C : String} {index kk : Nat} {ty : FieldType} {a : Addr} {z : Int32} {old : Value} (X : Stand p l e R s m args below meth c T locs cells slots) (hx : p.tables.exec = Jvm.exec) (hZ : Z.Warmed39 s.vm) (hown : s.vm.findClass own = some m.cls) (w : (Jvm.Cond.fieldLink own index R0 n d).before a0 Z = true) (via : Via Z R0 O n d) (eT : T.heap = h) (F : Fld Z h a O n d old)
    (E : Exa Z h a C) (L : (Jvm.Cond.lays C O n d).before a0 Z = true ∨ ((Jvm.Cond.laysFinal C O n d).before a0 Z = true ∧ own = O ∧ meth.name = "<init>")) (wi : (Jvm.Cond.instantiable C kk).before a0 Z = true) (hty : parseFieldDescriptor d = some ty) (hn : narrow ty (.int z) = .int (nar ty z)) (hf : fits ty (.int (nar ty z)) = true)
    (hd : decode c.code pc = .ok (.putfield index, 3)) (k : ∀ T' h', Stand p l e R s m args below meth c T' (locs ++ [⟨a, RoadKit.slotOf Z O n d⟩]) cells slots → T'.heap = h' → Wr h h' a (RoadKit.slotOf Z O n d) (.int (nar ty z)) → Go p e below s R' Q T' (mkF m (pc + 3) Ls rest)) : Go p e below s R' Q T (mkF m pc Ls (.int z :: .ref a :: rest)) := by
  obtain ⟨T', h', X', e', W, st⟩ := RoadKit.putFN X hx hZ hown w via eT F E L wi hty hn hf (g := mkF m pc Ls (.int z :: .ref a :: rest)) rfl rfl hd
  exact Go.of st (k T' h' X' e' W)
/-! objects and arrays made -/
theorem Go.newO {own C : String} {index n : Nat} (X : Stand p l e R s m args below meth c T locs cells slots) (hx : p.tables.exec = Jvm.exec) (hZ : Z.Warmed39 s.vm) (hown : s.vm.findClass own = some m.cls) (w : (Jvm.Cond.classLink own index C).before a0 Z = true) (wi : (Jvm.Cond.instantiable C n).before a0 Z = true) (wz : (Jvm.Cond.initialized C).before a0 Z = true) (eT : T.heap = h)
    (hd : decode c.code pc = .ok (.new index, 3)) (hc : cells + 1 ≤ R.cells) (hl : slots + n ≤ R.slots)
    (k : ∀ T' h' a, Stand p l e R s m args below meth c T' locs (cells + 1) (slots + n) → T'.heap = h' → Ext h h' → a = h.size → Exa Z h' a C → (∀ {O nm d : String} {ty : FieldType}, Laid Z a0 C O nm d → parseFieldDescriptor d = some ty → Fld Z h' a O nm d (defaultValue ty)) → Go p e below s R' Q T' (mkF m (pc + 3) Ls (.ref a :: rest))) : Go p e below s R' Q T (mkF m pc Ls rest) := by
  obtain ⟨T', h', X', e', E, A, D, -, st⟩ := RoadKit.newO X hx hZ hown w wi wz eT (g := mkF m pc Ls rest) rfl hd hc hl
  exact Go.of st (k T' h' _ X' e' E rfl A D)
/-- an array: its kind, its length, what each place holds -/
def AV (Z : State) (h : Heap) (a : Addr) (ty : FieldType) (n : Nat) (f : Nat → Value) : Prop := ∃ cl : Cell, Arr Z h a cl ty ∧ cl.slots.size = n ∧ ∀ j, j < n → cl.slots[j]? = some (f j)
def upd (f : Nat → Value) (j : Nat) (v : Value) : Nat → Value := fun i => if i = j then v else f i
def Inb (j : Int32) (n : Nat) : Prop := ¬ j < 0 ∧ j.toNatClampNeg < n
theorem upd_same (f : Nat → Value) (j : Nat) (v : Value) : upd f j v j = v := by simp [upd]
theorem upd_ne (f : Nat → Value) {i j : Nat} (v : Value) (hn : i ≠ j) : upd f j v i = f i := by simp [upd, hn]
theorem AV.lt {a : Addr} {ty : FieldType} {n : Nat} {f : Nat → Value} (V : AV Z h a ty n f) : a < h.size := by obtain ⟨cl, A, -⟩ := V; exact A.lt
theorem AV.ext {a : Addr} {ty : FieldType} {n : Nat} {f : Nat → Value} (V : AV Z h a ty n f) (E : Ext h h') : AV Z h' a ty n f := by obtain ⟨cl, A, r⟩ := V; exact ⟨cl, A.ext E, r⟩
theorem AV.other {a b : Addr} {ty : FieldType} {n : Nat} {f : Nat → Value} {sl : Nat} {v : Value} (V : AV Z h b ty n f) (W : Wr h h' a sl v) (q : b ≠ a) : AV Z h' b ty n f := by obtain ⟨cl, A, r⟩ := V; exact ⟨cl, A.other W q, r⟩
theorem AV.keep {a : Addr} {ty : FieldType} {n : Nat} {f : Nat → Value} {ws : List Addr} (V : AV Z h a ty n f) (K : Keep h h' ws) (q : a ∉ ws) : AV Z h' a ty n f := by obtain ⟨cl, A, r⟩ := V; exact ⟨cl, ⟨K.2.1 a cl A.1 q, A.2⟩, r⟩
theorem AV.set {a : Addr} {ty : FieldType} {n : Nat} {f : Nat → Value} {j : Nat} {v : Value} (V : AV Z h a ty n f) (W : Wr h h' a j v) (hj : j < n) : AV Z h' a ty n (upd f j v) := by
  obtain ⟨cl, A, S, H⟩ := V
  refine ⟨cl.setSlot j v, A.same W, by rw [sz_set]; exact S, fun i hi => ?_⟩
  by_cases q : i = j
  · subst q; simp [upd, Cell.setSlot, S, hj]
  · rw [upd_ne f v q, ← H i hi]; exact Array.getElem?_setIfInBounds_ne (Ne.symm q)
def updJ (f : Nat → Int64) (n : Nat) (q : Int64) : Nat → Int64 := fun j => if j = n then q else f j
def updI (f : Nat → Int32) (n : Nat) (q : Int32) : Nat → Int32 := fun j => if j = n then q else f j
theorem AV.setJ {a : Addr} {ty : FieldType} {n : Nat} {f : Nat → Int64} {j : Nat} {q : Int64} (V : AV Z h a ty n (fun i => .long (f i))) (W : Wr h h' a j (.long q)) (hj : j < n) : AV Z h' a ty n (fun i => .long (updJ f j q i)) := by
  have r := V.set W hj
  have e : upd (fun i => .long (f i)) j (.long q) = fun i => .long (updJ f j q i) := by funext i; unfold upd updJ; split <;> rfl
  rw [← e]; exact r
theorem AV.setI {a : Addr} {ty : FieldType} {n : Nat} {f : Nat → Int32} {j : Nat} {q : Int32} (V : AV Z h a ty n (fun i => .int (f i))) (W : Wr h h' a j (.int q)) (hj : j < n) : AV Z h' a ty n (fun i => .int (updI f j q i)) := by
  have r := V.set W hj
  have e : upd (fun i => .int (f i)) j (.int q) = fun i => .int (updI f j q i) := by funext i; unfold upd updI; split <;> rfl
  rw [← e]; exact r
def updD (f : Nat → UInt64) (n : Nat) (q : UInt64) : Nat → UInt64 := fun j => if j = n then q else f j
theorem AV.setD {a : Addr} {ty : FieldType} {n : Nat} {f : Nat → UInt64} {j : Nat} {q : UInt64} (V : AV Z h a ty n (fun i => .double (f i))) (W : Wr h h' a j (.double q)) (hj : j < n) : AV Z h' a ty n (fun i => .double (updD f j q i)) := by
  have r := V.set W hj
  have e : upd (fun i => .double (f i)) j (.double q) = fun i => .double (updD f j q i) := by funext i; unfold upd updD; split <;> rfl
  rw [← e]; exact r
theorem AV.congr {a : Addr} {ty : FieldType} {n : Nat} {f g : Nat → Value} (V : AV Z h a ty n f) (q : ∀ j, j < n → f j = g j) : AV Z h a ty n g := by
  obtain ⟨cl, A, S, H⟩ := V; exact ⟨cl, A, S, fun j hj => by rw [← q j hj]; exact H j hj⟩
theorem AV.new {a : Addr} {ty : FieldType} {cA : ClassId} {z : Int32} (A : Arr Z h a (newA cA ty z) ty) : AV Z h a ty z.toNatClampNeg (fun _ => defaultValue ty) :=
  ⟨_, A, sz_new _ _ _, fun j hj => by simp [newA, hj]⟩
theorem Inb.not {j : Int32} {n : Nat} (i : Inb j n) {k : Nat} (hk : k = n) : ¬ (j < 0 ∨ k ≤ j.toNatClampNeg) := fun q => q.elim i.1 (fun r => absurd i.2 (by omega))
theorem Go.newP {aty : ArrayType} {n : Int32} (X : Stand p l e R s m args below meth c T locs cells slots) (hx : p.tables.exec = Jvm.exec) (hZ : Z.Warmed39 s.vm) (w : (Jvm.Cond.arrayClass (newarray.typeOf aty)).before a0 Z = true) (eT : T.heap = h) (hd : decode c.code pc = .ok (.newarray aty, 2)) (hn : ¬ n < 0) (cap : Nat) (hcap : n.toNatClampNeg ≤ cap) (hb : cap * 8 ≤ 536870912) (hc : cells + 1 ≤ R.cells) (hl : slots + cap ≤ R.slots)
    (k : ∀ T' h' a, Stand p l e R s m args below meth c T' locs (cells + 1) (slots + cap) → T'.heap = h' → Ext h h' → a = h.size → AV Z h' a (newarray.typeOf aty) n.toNatClampNeg (fun _ => defaultValue (newarray.typeOf aty)) → Go p e below s R' Q T' (mkF m (pc + 2) Ls (.ref a :: rest))) : Go p e below s R' Q T (mkF m pc Ls (.int n :: rest)) := by
  obtain ⟨T', h', cA, X', e', E, A, st⟩ := RoadKit.newP X hx hZ w eT (g := mkF m pc Ls (.int n :: rest)) rfl hd rfl hn hcap hb hc hl
  exact Go.of st (k T' h' _ X' e' E rfl (AV.new A))
theorem Go.stI {a : Addr} {n : Nat} {g : Nat → Value} {j x : Int32} (X : Stand p l e R s m args below meth c T locs cells slots) (hx : p.tables.exec = Jvm.exec) (hZ : Z.Warmed39 s.vm) (eT : T.heap = h) (V : AV Z h a .int n g) (hj : Inb j n) (hd : decode c.code pc = .ok (.iastore, 1))
    (k : ∀ T' h', Stand p l e R s m args below meth c T' (locs ++ [⟨a, j.toNatClampNeg⟩]) cells slots → T'.heap = h' → Wr h h' a j.toNatClampNeg (.int x) → Go p e below s R' Q T' (mkF m (pc + 1) Ls rest)) : Go p e below s R' Q T (mkF m pc Ls (.int x :: .int j :: .ref a :: rest)) := by
  obtain ⟨cl, A, S, H⟩ := V
  obtain ⟨T', h', X', e', W, st⟩ := RoadKit.stI X hx hZ eT A (x := x) (hj.not S) (g := mkF m pc Ls (.int x :: .int j :: .ref a :: rest)) rfl rfl hd
  exact Go.of st (k T' h' X' e' W)
theorem Go.stJ {a : Addr} {n : Nat} {g : Nat → Value} {j : Int32} {x : Int64} (X : Stand p l e R s m args below meth c T locs cells slots) (hx : p.tables.exec = Jvm.exec) (hZ : Z.Warmed39 s.vm) (eT : T.heap = h) (V : AV Z h a .long n g) (hj : Inb j n) (hd : decode c.code pc = .ok (.lastore, 1))
    (k : ∀ T' h', Stand p l e R s m args below meth c T' (locs ++ [⟨a, j.toNatClampNeg⟩]) cells slots → T'.heap = h' → Wr h h' a j.toNatClampNeg (.long x) → Go p e below s R' Q T' (mkF m (pc + 1) Ls rest)) : Go p e below s R' Q T (mkF m pc Ls (.long x :: .int j :: .ref a :: rest)) := by
  obtain ⟨cl, A, S, H⟩ := V
  obtain ⟨T', h', X', e', W, st⟩ := RoadKit.stJ X hx hZ eT A (x := x) (hj.not S) (g := mkF m pc Ls (.long x :: .int j :: .ref a :: rest)) rfl rfl hd
  exact Go.of st (k T' h' X' e' W)
theorem Go.stC {a : Addr} {n : Nat} {g : Nat → Value} {j x : Int32} (X : Stand p l e R s m args below meth c T locs cells slots) (hx : p.tables.exec = Jvm.exec) (hZ : Z.Warmed39 s.vm) (eT : T.heap = h) (V : AV Z h a .char n g) (hj : Inb j n) (hd : decode c.code pc = .ok (.castore, 1))
    (k : ∀ T' h', Stand p l e R s m args below meth c T' (locs ++ [⟨a, j.toNatClampNeg⟩]) cells slots → T'.heap = h' → Wr h h' a j.toNatClampNeg (.int (nar .char x)) → Go p e below s R' Q T' (mkF m (pc + 1) Ls rest)) : Go p e below s R' Q T (mkF m pc Ls (.int x :: .int j :: .ref a :: rest)) := by
  obtain ⟨cl, A, S, H⟩ := V
  obtain ⟨T', h', X', e', W, st⟩ := RoadKit.stC X hx hZ eT A (x := x) (hj.not S) (g := mkF m pc Ls (.int x :: .int j :: .ref a :: rest)) rfl rfl hd
  exact Go.of st (k T' h' X' e' W)
theorem Go.stB {a : Addr} {n : Nat} {g : Nat → Value} {j x : Int32} (X : Stand p l e R s m args below meth c T locs cells slots) (hx : p.tables.exec = Jvm.exec) (hZ : Z.Warmed39 s.vm) (eT : T.heap = h) (V : AV Z h a .byte n g) (hj : Inb j n) (hd : decode c.code pc = .ok (.bastore, 1))
    (k : ∀ T' h', Stand p l e R s m args below meth c T' (locs ++ [⟨a, j.toNatClampNeg⟩]) cells slots → T'.heap = h' → Wr h h' a j.toNatClampNeg (.int (nar .byte x)) → Go p e below s R' Q T' (mkF m (pc + 1) Ls rest)) : Go p e below s R' Q T (mkF m pc Ls (.int x :: .int j :: .ref a :: rest)) := by
  obtain ⟨cl, A, S, H⟩ := V
  obtain ⟨T', h', X', e', W, st⟩ := RoadKit.stB X hx hZ eT A (x := x) (hj.not S) (g := mkF m pc Ls (.int x :: .int j :: .ref a :: rest)) rfl rfl hd
  exact Go.of st (k T' h' X' e' W)
theorem Go.stD {a : Addr} {n : Nat} {g : Nat → Value} {j : Int32} {x : UInt64} (X : Stand p l e R s m args below meth c T locs cells slots) (hx : p.tables.exec = Jvm.exec) (hZ : Z.Warmed39 s.vm) (eT : T.heap = h) (V : AV Z h a .double n g) (hj : Inb j n) (hd : decode c.code pc = .ok (.dastore, 1))
    (k : ∀ T' h', Stand p l e R s m args below meth c T' (locs ++ [⟨a, j.toNatClampNeg⟩]) cells slots → T'.heap = h' → Wr h h' a j.toNatClampNeg (.double x) → Go p e below s R' Q T' (mkF m (pc + 1) Ls rest)) : Go p e below s R' Q T (mkF m pc Ls (.double x :: .int j :: .ref a :: rest)) := by
  obtain ⟨cl, A, S, H⟩ := V
  obtain ⟨T', h', X', e', W, st⟩ := RoadKit.stD X hx hZ eT A (x := x) (hj.not S) (g := mkF m pc Ls (.double x :: .int j :: .ref a :: rest)) rfl rfl hd
  exact Go.of st (k T' h' X' e' W)
theorem Go.ldD {a : Addr} {n : Nat} {g : Nat → Value} {j : Int32} (v : Value) (X : Stand p l e R s m args below meth c T locs cells slots) (hx : p.tables.exec = Jvm.exec) (hZ : Z.Warmed39 s.vm) (eT : T.heap = h) (V : AV Z h a .double n g) (hj : Inb j n) (hv : g j.toNatClampNeg = v) (hd : decode c.code pc = .ok (.daload, 1))
    (k : Go p e below s R' Q T (mkF m (pc + 1) Ls (v :: rest))) : Go p e below s R' Q T (mkF m pc Ls (.int j :: .ref a :: rest)) := by
  obtain ⟨cl, A, S, H⟩ := V
  exact Go.of (X.daload hx (by rw [eT]; exact A.1) (State.isArrayOf_alike hZ.alike A.2.1) A.2.2 (hj.not S) ((H _ hj.2).trans (by rw [hv])) (g := mkF m pc Ls (.int j :: .ref a :: rest)) rfl rfl hd) k
theorem Go.ldI {a : Addr} {n : Nat} {g : Nat → Value} {j : Int32} (v : Value) (X : Stand p l e R s m args below meth c T locs cells slots) (hx : p.tables.exec = Jvm.exec) (hZ : Z.Warmed39 s.vm) (eT : T.heap = h) (V : AV Z h a .int n g) (hj : Inb j n) (hv : g j.toNatClampNeg = v) (hd : decode c.code pc = .ok (.iaload, 1))
    (k : Go p e below s R' Q T (mkF m (pc + 1) Ls (v :: rest))) : Go p e below s R' Q T (mkF m pc Ls (.int j :: .ref a :: rest)) := by
  obtain ⟨cl, A, S, H⟩ := V
  exact Go.of (X.iaload hx (by rw [eT]; exact A.1) (State.isArrayOf_alike hZ.alike A.2.1) A.2.2 (hj.not S) ((H _ hj.2).trans (by rw [hv])) (g := mkF m pc Ls (.int j :: .ref a :: rest)) rfl rfl hd) k
theorem Go.ldJ {a : Addr} {n : Nat} {g : Nat → Value} {j : Int32} (v : Value) (X : Stand p l e R s m args below meth c T locs cells slots) (hx : p.tables.exec = Jvm.exec) (hZ : Z.Warmed39 s.vm) (eT : T.heap = h) (V : AV Z h a .long n g) (hj : Inb j n) (hv : g j.toNatClampNeg = v) (hd : decode c.code pc = .ok (.laload, 1))
    (k : Go p e below s R' Q T (mkF m (pc + 1) Ls (v :: rest))) : Go p e below s R' Q T (mkF m pc Ls (.int j :: .ref a :: rest)) := by
  obtain ⟨cl, A, S, H⟩ := V
  exact Go.of (X.laload hx (by rw [eT]; exact A.1) (State.isArrayOf_alike hZ.alike A.2.1) A.2.2 (hj.not S) ((H _ hj.2).trans (by rw [hv])) (g := mkF m pc Ls (.int j :: .ref a :: rest)) rfl rfl hd) k
theorem Go.ldC {a : Addr} {n : Nat} {g : Nat → Value} {j : Int32} (v : Value) (X : Stand p l e R s m args below meth c T locs cells slots) (hx : p.tables.exec = Jvm.exec) (hZ : Z.Warmed39 s.vm) (eT : T.heap = h) (V : AV Z h a .char n g) (hj : Inb j n) (hv : g j.toNatClampNeg = v) (hd : decode c.code pc = .ok (.caload, 1))
    (k : Go p e below s R' Q T (mkF m (pc + 1) Ls (v :: rest))) : Go p e below s R' Q T (mkF m pc Ls (.int j :: .ref a :: rest)) := by
  obtain ⟨cl, A, S, H⟩ := V
  exact Go.of (X.caload hx (by rw [eT]; exact A.1) (State.isArrayOf_alike hZ.alike A.2.1) A.2.2 (hj.not S) ((H _ hj.2).trans (by rw [hv])) (g := mkF m pc Ls (.int j :: .ref a :: rest)) rfl rfl hd) k
theorem Go.ldB {a : Addr} {n : Nat} {g : Nat → Value} {j : Int32} (v : Value) (X : Stand p l e R s m args below meth c T locs cells slots) (hx : p.tables.exec = Jvm.exec) (hZ : Z.Warmed39 s.vm) (eT : T.heap = h) (V : AV Z h a .byte n g) (hj : Inb j n) (hv : g j.toNatClampNeg = v) (hd : decode c.code pc = .ok (.baload, 1))
    (k : Go p e below s R' Q T (mkF m (pc + 1) Ls (v :: rest))) : Go p e below s R' Q T (mkF m pc Ls (.int j :: .ref a :: rest)) := by
  obtain ⟨cl, A, S, H⟩ := V
  exact Go.of (X.baloadBytes hx (by rw [eT]; exact A.1) (State.isArrayOf_alike hZ.alike A.2.1) A.2.2 (hj.not S) ((H _ hj.2).trans (by rw [hv])) (g := mkF m pc Ls (.int j :: .ref a :: rest)) rfl rfl hd) k
theorem Go.alen {a : Addr} {n : Nat} {ty : FieldType} {g : Nat → Value} (z : Int32) (X : Stand p l e R s m args below meth c T locs cells slots) (hx : p.tables.exec = Jvm.exec) (hZ : Z.Warmed39 s.vm) (eT : T.heap = h) (V : AV Z h a ty n g) (hz : n.toInt32 = z) (hd : decode c.code pc = .ok (.arraylength, 1))
    (k : Go p e below s R' Q T (mkF m (pc + 1) Ls (.int z :: rest))) : Go p e below s R' Q T (mkF m pc Ls (.ref a :: rest)) := by
  obtain ⟨cl, A, S, H⟩ := V
  refine Go.of (X.arraylength hx (by rw [eT]; exact A.1) (State.isArrayOf_alike hZ.alike A.2.1) (g := mkF m pc Ls (.ref a :: rest)) rfl rfl hd) ?_
  rw [S, hz]; exact k
/-! calls -/
theorem Go.initO {own : String} {idx : Nat} {a : Addr} (X : Stand p l e R s m args below meth c T locs cells slots) (hx : p.tables.exec = Jvm.exec) (hZ : Z.Warmed39 s.vm) (hown : s.vm.findClass own = some m.cls) (w1 : (Jvm.Cond.methodLink own idx Lib.objectInit).before a0 Z = true) (w2 : (Jvm.Cond.instanceMethod Lib.objectInit).before a0 Z = true) (w3 : (Jvm.Cond.code Lib.objectInit ⟨#[0xb1]⟩ 1 none).before a0 Z = true) (eT : T.heap = h)
    (hsz : Ls.size = c.maxLocals) (hd : decode c.code pc = .ok (.invokespecial idx, 3)) (hf : 1 ≤ R.frames) (W : Nat) (hW : (rest.map fun v => v.category).sum ≤ W) (hl : W + 12 ≤ R.locals) (k : ∀ T', Stand p l e R s m args below meth c T' locs cells slots → T'.heap = h → Go p e below s R' Q T' (mkF m (pc + 3) Ls rest)) : Go p e below s R' Q T (mkF m pc Ls (.ref a :: rest)) := by
  obtain ⟨T', X', e', st⟩ := RoadKit.initO X hx hZ hown w1 w2 w3 eT (g := mkF m pc Ls (.ref a :: rest)) rfl hsz rfl hd hf (W := W) (by show 2 * 0 + _ ≤ _; omega) hl
  exact Go.of st (k T' X' e')
theorem Go.static {own : String} {index : Nat} {y : MethodName} {bytes : ByteArray} {maxL : Nat} {ret : Option FieldType} {rm : Room} {as : Array Value} {Qc : Option Value → Heap → List Loc → Prop} (X : Stand p l e R s m args below meth c T locs cells slots) (hx : p.tables.exec = Jvm.exec) (hZ : Z.Warmed39 s.vm) (hown : s.vm.findClass own = some m.cls)
    (w1 : (Jvm.Cond.methodLink own index y).before a0 Z = true) (w2 : (Jvm.Cond.static y).before a0 Z = true) (w3 : (Jvm.Cond.initialized y.cls).before a0 Z = true) (w4 : (Jvm.Cond.code y bytes maxL ret).before a0 Z = true) (hy : y.cls ≠ "java/lang/invoke/MethodHandle" ∧ y.cls ≠ "java/lang/invoke/VarHandle")
    (M : Met l Z y bytes maxL ret [] rm as h Qc) (eT : T.heap = h) (W : Nat) (hf : rm.frames + 1 ≤ R.frames) (hl : W + (maxL + 11) + rm.locals ≤ R.locals) (hc : cells + rm.cells ≤ R.cells) (hs : slots + rm.slots ≤ R.slots) (hsz : Ls.size = c.maxLocals) {st argsL : List Value} (rest : List Value) (hlen : ∀ sig, parseMethodDescriptor y.desc = some sig → argsL.length = sig.parameters.length)
    (has : argsL.toArray = as) (hst : st = argsL.reverse ++ rest) (hW : (rest.map fun v => v.category).sum ≤ W) (hd : decode c.code pc = .ok (.invokestatic index, 3))
    (k : ∀ v T' L', Stand p l e R s m args below meth c T' (locs ++ L') (cells + rm.cells) (slots + rm.slots) → Qc v T'.heap L' → Go p e below s R' Q T' (mkF m (pc + 3) Ls (v.toList ++ rest))) : Go p e below s R' Q T (mkF m pc Ls st) := by
  obtain ⟨v, _, ⟨T1, L1, k1, n1⟩, -, X1, ⟨Lc, hQ, l1, y1, z1⟩, stp⟩ := Jvm.LawKit.callS X hx (y := y) hown (mvT hZ w1) (mvT hZ w2) (mvT hZ w3) (mvT hZ w4) hy (backOf (W := W) M hZ w4 w3 hf hl) (g := mkF m pc Ls st) rfl hsz (argsL := argsL) (rest := rest) hlen hst (by show 2 * 0 + _ ≤ _; omega) hd (fun _ _ => ⟨has, eT, hc, hs⟩)
  dsimp only [Pt.U, Pt.locs, Pt.cells, Pt.slots] at X1 l1 y1 z1 stp hQ
  subst l1 y1 z1
  exact Go.of stp (k v T1 Lc X1 hQ)
theorem Go.special {own : String} {index : Nat} {y : MethodName} {bytes : ByteArray} {maxL : Nat} {rm : Room} {as : Array Value} {a : Addr} {Qc : Option Value → Heap → List Loc → Prop} (X : Stand p l e R s m args below meth c T locs cells slots) (hx : p.tables.exec = Jvm.exec) (hZ : Z.Warmed39 s.vm) (hown : s.vm.findClass own = some m.cls) (hy1 : y.name = "<init>")
    (w1 : (Jvm.Cond.methodLink own index y).before a0 Z = true) (w2 : (Jvm.Cond.instanceMethod y).before a0 Z = true) (w3 : (Jvm.Cond.initialized y.cls).before a0 Z = true) (w4 : (Jvm.Cond.code y bytes maxL none).before a0 Z = true) (hy : y.cls ≠ "java/lang/invoke/MethodHandle" ∧ y.cls ≠ "java/lang/invoke/VarHandle")
    (M : Met l Z y bytes maxL none [] rm as h Qc) (eT : T.heap = h) (W : Nat) (hf : rm.frames + 1 ≤ R.frames) (hl : W + (maxL + 11) + rm.locals ≤ R.locals) (hc : cells + rm.cells ≤ R.cells) (hs : slots + rm.slots ≤ R.slots) (hsz : Ls.size = c.maxLocals) {st argsL : List Value} (rest : List Value) (hlen : ∀ sig, parseMethodDescriptor y.desc = some sig → argsL.length = sig.parameters.length)
    (has : (.ref a :: argsL : List Value).toArray = as) (hst : st = argsL.reverse ++ .ref a :: rest) (hW : (rest.map fun v => v.category).sum ≤ W) (hd : decode c.code pc = .ok (.invokespecial index, 3))
    (k : ∀ v T' L', Stand p l e R s m args below meth c T' (locs ++ L') (cells + rm.cells) (slots + rm.slots) → Qc v T'.heap L' → Go p e below s R' Q T' (mkF m (pc + 3) Ls (v.toList ++ rest))) : Go p e below s R' Q T (mkF m pc Ls st) := by
  obtain ⟨v, _, ⟨T1, L1, k1, n1⟩, -, X1, ⟨Lc, hQ, l1, y1, z1⟩, stp⟩ := X.specialBack hx (y := y) hy1 hown (mvT hZ w1) (mvT hZ w2) (mvT hZ w4) hy (backOf (W := W) M hZ w4 w3 hf hl) (g := mkF m pc Ls st) rfl hsz (Steps.refl _) (a := a) (argsL := argsL) (rest := rest) hlen hst (by show 2 * 0 + _ ≤ _; omega) hd (fun _ _ => ⟨has, eT, hc, hs⟩)
  dsimp only [Pt.U, Pt.locs, Pt.cells, Pt.slots] at X1 l1 y1 z1 stp hQ
  subst l1 y1 z1
  exact Go.of (fun _ q => stp.trans q) (k v T1 Lc X1 hQ)
theorem Go.virtual {own C : String} {index : Nat} {y z : MethodName} {bytes : ByteArray} {maxL : Nat} {ret : Option FieldType} {rm : Room} {as : Array Value} {a : Addr} {Qc : Option Value → Heap → List Loc → Prop} (X : Stand p l e R s m args below meth c T locs cells slots) (hx : p.tables.exec = Jvm.exec) (hZ : Z.Warmed39 s.vm) (hown : s.vm.findClass own = some m.cls)
    (w1 : (Jvm.Cond.methodLink own index y).before a0 Z = true) (w2 : (Jvm.Cond.declares y).before a0 Z = true) (nf : NotFace s y) (ws : (Jvm.Cond.selects C y z).before a0 Z = true) (wi : (Jvm.Cond.instanceMethod z).before a0 Z = true) (w3 : (Jvm.Cond.initialized z.cls).before a0 Z = true) (w4 : (Jvm.Cond.code z bytes maxL ret).before a0 Z = true) (hy : y.cls ≠ "java/lang/invoke/MethodHandle" ∧ y.cls ≠ "java/lang/invoke/VarHandle")
    (M : Met l Z z bytes maxL ret [] rm as h Qc) (eT : T.heap = h) (E : Exa Z h a C) (W : Nat) (hf : rm.frames + 1 ≤ R.frames) (hl : W + (maxL + 11) + rm.locals ≤ R.locals) (hc : cells + rm.cells ≤ R.cells) (hs : slots + rm.slots ≤ R.slots) (hsz : Ls.size = c.maxLocals) {st argsL : List Value} (rest : List Value) (hlen : ∀ sig, parseMethodDescriptor y.desc = some sig → argsL.length = sig.parameters.length)
    (has : (.ref a :: argsL : List Value).toArray = as) (hst : st = argsL.reverse ++ .ref a :: rest) (hW : (rest.map fun v => v.category).sum ≤ W) (hd : decode c.code pc = .ok (.invokevirtual index, 3))
    (k : ∀ v T' L', Stand p l e R s m args below meth c T' (locs ++ L') (cells + rm.cells) (slots + rm.slots) → Qc v T'.heap L' → Go p e below s R' Q T' (mkF m (pc + 3) Ls (v.toList ++ rest))) : Go p e below s R' Q T (mkF m pc Ls st) := by
  obtain ⟨cq, kq, qa, qb, qc⟩ := isOf hZ eT E
  obtain ⟨v, _, ⟨T1, L1, k1, n1⟩, -, X1, ⟨Lc, hQ, l1, y1, z1⟩, stp⟩ := X.virtualBack hx (y := y) (z := z) hown (mvT hZ w1) (mvT hZ w2) nf (mvT hZ ws) (mvT hZ wi) hy (backOf (W := W) M hZ w4 w3 hf hl) qa qc (g := mkF m pc Ls st) rfl hsz (Steps.refl _) (argsL := argsL) (rest := rest) hlen hst (by show 2 * 0 + _ ≤ _; omega) hd (fun _ _ => ⟨has, eT, hc, hs⟩)
  dsimp only [Pt.U, Pt.locs, Pt.cells, Pt.slots] at X1 l1 y1 z1 stp hQ
  subst l1 y1 z1
  exact Go.of (fun _ q => stp.trans q) (k v T1 Lc X1 hQ)
theorem Go.priv {own C : String} {index : Nat} {y : MethodName} {bytes : ByteArray} {maxL : Nat} {ret : Option FieldType} {rm : Room} {as : Array Value} {a : Addr} {Qc : Option Value → Heap → List Loc → Prop} (X : Stand p l e R s m args below meth c T locs cells slots) (hx : p.tables.exec = Jvm.exec) (hZ : Z.Warmed39 s.vm) (hown : s.vm.findClass own = some m.cls)
    (w1 : (Jvm.Cond.methodLink own index y).before a0 Z = true) (wi : (Jvm.Cond.instanceMethod y).before a0 Z = true) {kk : Nat} (wk : (Jvm.Cond.instantiable y.cls kk).before a0 Z = true) (wp : (Jvm.Cond.privateMethod y).before a0 Z = true) (w3 : (Jvm.Cond.initialized y.cls).before a0 Z = true) (w4 : (Jvm.Cond.code y bytes maxL ret).before a0 Z = true) (hy : y.cls ≠ "java/lang/invoke/MethodHandle" ∧ y.cls ≠ "java/lang/invoke/VarHandle")
    (M : Met l Z y bytes maxL ret [] rm as h Qc) (eT : T.heap = h) (E : Exa Z h a C) (W : Nat) (hf : rm.frames + 1 ≤ R.frames) (hl : W + (maxL + 11) + rm.locals ≤ R.locals) (hc : cells + rm.cells ≤ R.cells) (hs : slots + rm.slots ≤ R.slots) (hsz : Ls.size = c.maxLocals) {st argsL : List Value} (rest : List Value) (hlen : ∀ sig, parseMethodDescriptor y.desc = some sig → argsL.length = sig.parameters.length)
    (has : (.ref a :: argsL : List Value).toArray = as) (hst : st = argsL.reverse ++ .ref a :: rest) (hW : (rest.map fun v => v.category).sum ≤ W) (hd : decode c.code pc = .ok (.invokevirtual index, 3))
    (k : ∀ v T' L', Stand p l e R s m args below meth c T' (locs ++ L') (cells + rm.cells) (slots + rm.slots) → Qc v T'.heap L' → Go p e below s R' Q T' (mkF m (pc + 3) Ls (v.toList ++ rest))) : Go p e below s R' Q T (mkF m pc Ls st) := by
  obtain ⟨cq, qa, qb⟩ := E.cell
  have hp : s.PrivateAt y := Cond.privateMethod_at (mvP hZ wp (args := #[]))
  obtain ⟨ci, ki, i1, i2, -, i4, -⟩ := Cond.instantiable_spec (show (Jvm.Cond.instantiable y.cls kk).before args s = true from mvT hZ wk)
  have hsel : (Jvm.Cond.selects y.cls y y).before args s = true := selects_self_of_private i1 i2 (by revert i4; cases ki.isInterface <;> simp) hp (mvT hZ wi) hy
  obtain ⟨v, _, ⟨T1, L1, k1, n1⟩, -, X1, ⟨Lc, hQ, l1, y1, z1⟩, stp⟩ := X.privateBack hx (y := y) hown (mvT hZ w1) (mvT hZ wi) hsel hp (mvT hZ w4) hy (backOf (W := W) M hZ w4 w3 hf hl) (g := mkF m pc Ls st) rfl hsz (Steps.refl _) (a := a) (by rw [eT]; exact qa) qb (argsL := argsL) (rest := rest) hlen hst (by show 2 * 0 + _ ≤ _; omega) hd (fun _ _ => ⟨has, eT, hc, hs⟩)
  dsimp only [Pt.U, Pt.locs, Pt.cells, Pt.slots] at X1 l1 y1 z1 stp hQ
  subst l1 y1 z1
  exact Go.of (fun _ q => stp.trans q) (k v T1 Lc X1 hQ)
/-! conditions -/
theorem cZlt {x y : Int64} (q : x < y) : ifCond.holds .lt (lcmpW x y) = true ∧ ifCond.holds .ge (lcmpW x y) = false := ⟨(if0 _ _).trans (tlt ((lw_lt x y).mpr q)).1, (if0 _ _).trans (tlt ((lw_lt x y).mpr q)).2.1⟩
theorem cFlt {x y : Int64} (q : ¬ x < y) : ifCond.holds .lt (lcmpW x y) = false ∧ ifCond.holds .ge (lcmpW x y) = true := ⟨(if0 _ _).trans (flt (fun r => q ((lw_lt x y).mp r))).1, (if0 _ _).trans (flt (fun r => q ((lw_lt x y).mp r))).2.1⟩
theorem cZgt {x y : Int64} (q : y < x) : ifCond.holds .gt (lcmpW x y) = true ∧ ifCond.holds .le (lcmpW x y) = false := ⟨(if0 _ _).trans (tlt ((lw_gt x y).mpr q)).2.2.1, (if0 _ _).trans (tlt ((lw_gt x y).mpr q)).2.2.2⟩
theorem cFgt {x y : Int64} (q : ¬ y < x) : ifCond.holds .gt (lcmpW x y) = false ∧ ifCond.holds .le (lcmpW x y) = true := ⟨(if0 _ _).trans (flt (fun r => q ((lw_gt x y).mp r))).2.2.1, (if0 _ _).trans (flt (fun r => q ((lw_gt x y).mp r))).2.2.2⟩
theorem cZeq {x y : Int64} (q : x = y) : ifCond.holds .eq (lcmpW x y) = true ∧ ifCond.holds .ne (lcmpW x y) = false := ⟨(if0 _ _).trans (teq ((lw_eq x y).mpr q)).1, (if0 _ _).trans (teq ((lw_eq x y).mpr q)).2⟩
theorem cFeq {x y : Int64} (q : ¬ x = y) : ifCond.holds .eq (lcmpW x y) = false ∧ ifCond.holds .ne (lcmpW x y) = true := ⟨(if0 _ _).trans (feq (fun r => q ((lw_eq x y).mp r))).1, (if0 _ _).trans (feq (fun r => q ((lw_eq x y).mp r))).2⟩
end Kit
theorem own_ni0 {a : Addr}  : a ∉ ([] : List Addr) := by simp [*]
theorem own_all0 {P : Addr → Prop} {b0 : Addr}  : ∀ x ∈ ([] : List Addr), P x := by intro x hx; cases hx
theorem own_ni1 {a b0 : Addr} (q0 : a ≠ b0) : a ∉ ([b0] : List Addr) := by simp [*]
theorem own_all1 {P : Addr → Prop} {b0 : Addr} (q0 : P b0) : ∀ x ∈ ([b0] : List Addr), P x := by intro x hx; simp only [List.mem_cons, List.not_mem_nil, or_false] at hx; subst hx; assumption
theorem own_ni2 {a b0 b1 : Addr} (q0 : a ≠ b0) (q1 : a ≠ b1) : a ∉ ([b0, b1] : List Addr) := by simp [*]
theorem own_all2 {P : Addr → Prop} {b0 b1 : Addr} (q0 : P b0) (q1 : P b1) : ∀ x ∈ ([b0, b1] : List Addr), P x := by intro x hx; simp only [List.mem_cons, List.not_mem_nil, or_false] at hx; rcases hx with rfl | rfl <;> assumption
theorem own_ni3 {a b0 b1 b2 : Addr} (q0 : a ≠ b0) (q1 : a ≠ b1) (q2 : a ≠ b2) : a ∉ ([b0, b1, b2] : List Addr) := by simp [*]
theorem own_all3 {P : Addr → Prop} {b0 b1 b2 : Addr} (q0 : P b0) (q1 : P b1) (q2 : P b2) : ∀ x ∈ ([b0, b1, b2] : List Addr), P x := by intro x hx; simp only [List.mem_cons, List.not_mem_nil, or_false] at hx; rcases hx with rfl | rfl | rfl <;> assumption
theorem own_ni4 {a b0 b1 b2 b3 : Addr} (q0 : a ≠ b0) (q1 : a ≠ b1) (q2 : a ≠ b2) (q3 : a ≠ b3) : a ∉ ([b0, b1, b2, b3] : List Addr) := by simp [*]
theorem own_all4 {P : Addr → Prop} {b0 b1 b2 b3 : Addr} (q0 : P b0) (q1 : P b1) (q2 : P b2) (q3 : P b3) : ∀ x ∈ ([b0, b1, b2, b3] : List Addr), P x := by intro x hx; simp only [List.mem_cons, List.not_mem_nil, or_false] at hx; rcases hx with rfl | rfl | rfl | rfl <;> assumption
theorem own_ni5 {a b0 b1 b2 b3 b4 : Addr} (q0 : a ≠ b0) (q1 : a ≠ b1) (q2 : a ≠ b2) (q3 : a ≠ b3) (q4 : a ≠ b4) : a ∉ ([b0, b1, b2, b3, b4] : List Addr) := by simp [*]
theorem own_all5 {P : Addr → Prop} {b0 b1 b2 b3 b4 : Addr} (q0 : P b0) (q1 : P b1) (q2 : P b2) (q3 : P b3) (q4 : P b4) : ∀ x ∈ ([b0, b1, b2, b3, b4] : List Addr), P x := by intro x hx; simp only [List.mem_cons, List.not_mem_nil, or_false] at hx; rcases hx with rfl | rfl | rfl | rfl | rfl <;> assumption
theorem own_ni6 {a b0 b1 b2 b3 b4 b5 : Addr} (q0 : a ≠ b0) (q1 : a ≠ b1) (q2 : a ≠ b2) (q3 : a ≠ b3) (q4 : a ≠ b4) (q5 : a ≠ b5) : a ∉ ([b0, b1, b2, b3, b4, b5] : List Addr) := by simp [*]
theorem own_all6 {P : Addr → Prop} {b0 b1 b2 b3 b4 b5 : Addr} (q0 : P b0) (q1 : P b1) (q2 : P b2) (q3 : P b3) (q4 : P b4) (q5 : P b5) : ∀ x ∈ ([b0, b1, b2, b3, b4, b5] : List Addr), P x := by intro x hx; simp only [List.mem_cons, List.not_mem_nil, or_false] at hx; rcases hx with rfl | rfl | rfl | rfl | rfl | rfl <;> assumption
theorem own_ni7 {a b0 b1 b2 b3 b4 b5 b6 : Addr} (q0 : a ≠ b0) (q1 : a ≠ b1) (q2 : a ≠ b2) (q3 : a ≠ b3) (q4 : a ≠ b4) (q5 : a ≠ b5) (q6 : a ≠ b6) : a ∉ ([b0, b1, b2, b3, b4, b5, b6] : List Addr) := by simp [*]
theorem own_all7 {P : Addr → Prop} {b0 b1 b2 b3 b4 b5 b6 : Addr} (q0 : P b0) (q1 : P b1) (q2 : P b2) (q3 : P b3) (q4 : P b4) (q5 : P b5) (q6 : P b6) : ∀ x ∈ ([b0, b1, b2, b3, b4, b5, b6] : List Addr), P x := by intro x hx; simp only [List.mem_cons, List.not_mem_nil, or_false] at hx; rcases hx with rfl | rfl | rfl | rfl | rfl | rfl | rfl <;> assumption

open Jvm.Kit
def own_mat (f g : Nat → Int64) : List (Int64 × Int64) → Prop
  | [] => True
  | [r] => f 0 = r.1 ∧ g 0 = r.2
  | [r, t] => f 0 = r.1 ∧ g 0 = r.2 ∧ f 1 = t.1 ∧ g 1 = t.2
  | _ => False
def Rg (Z : State) (h : Heap) (a x y : Addr) (rs : List (Int64 × Int64)) : Prop := Fld Z h a "com/example/credence/credence/oauth1/SpentRanges" "firsts" "[J" (.ref x) ∧ Fld Z h a "com/example/credence/credence/oauth1/SpentRanges" "lasts" "[J" (.ref y) ∧ Fld Z h a "com/example/credence/credence/oauth1/SpentRanges" "count" "I" (.int (Int32.ofNat rs.length)) ∧ ∃ f g : Nat → Int64, AV Z h x .long 3 (fun j => .long (f j)) ∧ AV Z h y .long 3 (fun j => .long (g j)) ∧ own_mat f g rs
def own_in (q1 q2 t : Int64) : Int32 := if t < q1 then 0 else if q2 < t then 0 else 1
def own_max (x y : Int64) : Int64 := if x < y then y else x
def own_put (r1 r2 q1 q2 : Int64) : List (Int64 × Int64) := if r2 + 1 < q1 then [(r1, r2), (q1, q2)] else [(r1, own_max r2 q2)]
def own_add (rs : List (Int64 × Int64)) (q1 q2 : Int64) : List (Int64 × Int64) :=
  if q2 < q1 then rs else match rs with
    | [] => [(q1, q2)]
    | r :: _ => if q1 < r.1 then own_put q1 q2 r.1 r.2 else own_put r.1 r.2 q1 q2
def own_has (t : Int64) : List (Int64 × Int64) → Int32
  | [] => 0
  | r :: rs => if own_in r.1 r.2 t = 0 then own_has t rs else 1
theorem own_len (q1 q2 : Int64) : own_add [] q1 q2 = [] ∨ ∃ r, own_add [] q1 q2 = [r] := by
  unfold own_add; split
  · exact Or.inl rfl
  · exact Or.inr ⟨_, rfl⟩
theorem own_next (y : Int64) : (y + 1).toInt = if y.toInt = 9223372036854775807 then -9223372036854775808 else y.toInt + 1 := by
  have h1 := y.toInt_lt; have h2 := y.le_toInt
  have k1 : (1 : Int64).toInt = 1 := by decide
  rw [Int64.toInt_add, k1, Int.bmod_def]
  split <;> split <;> omega
theorem own_in_iff (q1 q2 t : Int64) : own_in q1 q2 t = 0 ↔ ¬ (q1.toInt ≤ t.toInt ∧ t.toInt ≤ q2.toInt) := by
  unfold own_in
  simp only [Int64.lt_iff_toInt_lt]
  split
  · constructor
    · intro _; omega
    · intro _; rfl
  · split
    · constructor
      · intro _; omega
      · intro _; rfl
    · constructor
      · intro q; exact absurd q (by decide)
      · intro q; omega
theorem own_has_01 (t : Int64) (rs : List (Int64 × Int64)) : own_has t rs = 0 ∨ own_has t rs = 1 := by
  induction rs with
  | nil => exact Or.inl rfl
  | cons r rs ih => unfold own_has; split <;> simp_all
theorem own_put_has (r1 r2 q1 q2 t : Int64) (h1 : r1.toInt ≤ q1.toInt) (h2 : r1.toInt ≤ r2.toInt) (h3 : q1.toInt ≤ q2.toInt) : own_has t (own_put r1 r2 q1 q2) = 0 ↔ (own_in r1 r2 t = 0 ∧ own_in q1 q2 t = 0) := by
  unfold own_put
  have n := own_next r2
  by_cases c : r2 + 1 < q1
  · rw [if_pos c]
    unfold own_has own_has own_has
    by_cases e1 : own_in r1 r2 t = 0 <;> by_cases e2 : own_in q1 q2 t = 0 <;> simp [e1, e2]
  · rw [if_neg c]
    rw [Int64.lt_iff_toInt_lt, n] at c
    have hl := r2.toInt_lt; have ht := t.toInt_lt; have hq := q2.toInt_lt; have hq1 := q1.le_toInt
    have m : (own_max r2 q2).toInt = if r2.toInt < q2.toInt then q2.toInt else r2.toInt := by
      unfold own_max; simp only [Int64.lt_iff_toInt_lt]; split <;> rfl
    have e : own_has t [(r1, own_max r2 q2)] = 0 ↔ own_in r1 (own_max r2 q2) t = 0 := by
      unfold own_has own_has
      by_cases e1 : own_in r1 (own_max r2 q2) t = 0 <;> simp [e1]
    rw [e, own_in_iff, own_in_iff, own_in_iff, m]
    split at c <;> split <;> omega
theorem own_law (a1 b1 a2 b2 t : Int64) : own_has t (own_add (own_add [] a1 b1) a2 b2) = 0 ↔ (own_in a1 b1 t = 0 ∧ own_in a2 b2 t = 0) := by
  have v1 : b1 < a1 → own_in a1 b1 t = 0 := fun q => by rw [own_in_iff]; rw [Int64.lt_iff_toInt_lt] at q; omega
  have v2 : b2 < a2 → own_in a2 b2 t = 0 := fun q => by rw [own_in_iff]; rw [Int64.lt_iff_toInt_lt] at q; omega
  by_cases c1 : b1 < a1
  · have e1 : own_add [] a1 b1 = [] := by unfold own_add; rw [if_pos c1]
    rw [e1]
    by_cases c2 : b2 < a2
    · have e2 : own_add [] a2 b2 = [] := by unfold own_add; rw [if_pos c2]
      rw [e2]; simp [own_has, v1 c1, v2 c2]
    · have e2 : own_add [] a2 b2 = [(a2, b2)] := by unfold own_add; rw [if_neg c2]
      rw [e2]; unfold own_has own_has
      by_cases e : own_in a2 b2 t = 0 <;> simp [e, v1 c1]
  · have e1 : own_add [] a1 b1 = [(a1, b1)] := by unfold own_add; rw [if_neg c1]
    rw [e1]
    by_cases c2 : b2 < a2
    · have e2 : own_add [(a1, b1)] a2 b2 = [(a1, b1)] := by unfold own_add; rw [if_pos c2]
      rw [e2]; unfold own_has own_has
      by_cases e : own_in a1 b1 t = 0 <;> simp [e, v2 c2]
    · rw [Int64.lt_iff_toInt_lt] at c1
      by_cases c3 : a2 < a1
      · have e2 : own_add [(a1, b1)] a2 b2 = own_put a2 b2 a1 b1 := by unfold own_add; rw [if_neg c2]; simp only [if_pos c3]
        rw [Int64.lt_iff_toInt_lt] at c2 c3
        rw [e2, own_put_has _ _ _ _ _ (by omega) (by omega) (by omega)]
        exact And.comm
      · have e2 : own_add [(a1, b1)] a2 b2 = own_put a1 b1 a2 b2 := by unfold own_add; rw [if_neg c2]; simp only [if_neg c3]
        rw [Int64.lt_iff_toInt_lt] at c2 c3
        rw [e2, own_put_has _ _ _ _ _ (by omega) (by omega) (by omega)]
theorem pd0 : parseMethodDescriptor "(JJ)J" = some ⟨[.long, .long], some .long⟩ := by decide +kernel
theorem pd1 : parseMethodDescriptor "()V" = some ⟨[], none⟩ := by decide +kernel
theorem pd2 : parseMethodDescriptor "(JJJJ)V" = some ⟨[.long, .long, .long, .long], none⟩ := by decide +kernel
theorem pd3 : parseMethodDescriptor "(JJJ)Z" = some ⟨[.long, .long, .long], some .boolean⟩ := by decide +kernel
theorem pd4 : parseMethodDescriptor "(J)Z" = some ⟨[.long], some .boolean⟩ := by decide +kernel
theorem d1_0 : decode prog_18_method_1_code 0 = .ok (.aload_n 0, 1) := by decide +kernel
theorem d1_1 : decode prog_18_method_1_code 1 = .ok (.invokespecial 5, 3) := by decide +kernel
theorem d1_4 : decode prog_18_method_1_code 4 = .ok (.aload_n 0, 1) := by decide +kernel
theorem d1_5 : decode prog_18_method_1_code 5 = .ok (.iconst 3, 1) := by decide +kernel
theorem d1_6 : decode prog_18_method_1_code 6 = .ok (.newarray .long, 2) := by decide +kernel
theorem d1_8 : decode prog_18_method_1_code 8 = .ok (.putfield 11, 3) := by decide +kernel
theorem d1_11 : decode prog_18_method_1_code 11 = .ok (.aload_n 0, 1) := by decide +kernel
theorem d1_12 : decode prog_18_method_1_code 12 = .ok (.iconst 3, 1) := by decide +kernel
theorem d1_13 : decode prog_18_method_1_code 13 = .ok (.newarray .long, 2) := by decide +kernel
theorem d1_15 : decode prog_18_method_1_code 15 = .ok (.putfield 15, 3) := by decide +kernel
theorem d1_18 : decode prog_18_method_1_code 18 = .ok (.return_, 1) := by decide +kernel
theorem pn1 : plainFor (⟨"com/example/credence/credence/oauth1/SpentRanges", "<init>", "()V"⟩ : MethodName) = true := plainFor_of_name (by first | (simp [plainName, overriddenIn]; done) | decide +kernel)
theorem ef_rmIni (m : MethodId) (x0 : Addr) : entryFrame m #[(.ref x0)] 1 = mkF m 0 #[.val (.ref x0)] [] := by first | (simp [entryFrame, mkF, argsToLocals, Value.category]; done) | rfl
set_option maxRecDepth 65536 in
set_option maxHeartbeats 40000000 in
theorem rmIni {l : Launch} {Z : State} {a0 : Array Value} (hw : ∀ d ∈ tables_1, d.before a0 Z = true) (a : Addr) (h0 : Heap) (n0 : Nat) (Z0 : n0 ≤ h0.size) (g_a : n0 ≤ a) (E_a : Exa Z h0 a "com/example/credence/credence/oauth1/SpentRanges") (F_firsts_a : Fld Z h0 a "com/example/credence/credence/oauth1/SpentRanges" "firsts" "[J" .null) (F_lasts_a : Fld Z h0 a "com/example/credence/credence/oauth1/SpentRanges" "lasts" "[J" .null) (F_count_a : Fld Z h0 a "com/example/credence/credence/oauth1/SpentRanges" "count" "I" (.int (0 : Int32))) :
    Met l Z (⟨"com/example/credence/credence/oauth1/SpentRanges", "<init>", "()V"⟩ : MethodName) prog_18_method_1_code 1 none [] ({ frames := 1, cells := 2, slots := 6, locals := 12 } : Room) #[(.ref a)] h0 (fun v h L => v = none ∧ Fr n0 L ∧ Keep h0 h [a] ∧ ∃ x y : Addr, h0.size ≤ x ∧ h0.size ≤ y ∧ a ≠ x ∧ a ≠ y ∧ x ≠ y ∧ Rg Z h a x y []) := by
  refine Met.mk pn1 ?_
  intro p e s m below meth c T hx hby hml hown hnm hret hlk hZ X eT
  refine Go.cast (ef_rmIni m a) ?_
  have N := Fr.nil n0
  have K := Keep.refl h0 [a]
  show Go p e below s _ _ T (mkF m 0 #[.val (.ref a)] [])
  refine Go.of (fun _ kq => XS.aloadN X.here hx rfl (hb hby d1_0) rfl rfl kq) ?_
  show Go p e below s _ _ T (mkF m 1 #[.val (.ref a)] [(.ref a)])
  refine Go.initO X hx hZ hown (hw _ (List.mem_of_getElem? (i := 6) rfl)) (hw _ (List.mem_of_getElem? (i := 7) rfl)) (hw _ (List.mem_of_getElem? (i := 8) rfl)) eT (by rw [hml]; rfl) (hb hby d1_1) (by decide) 0 (Nat.le_of_eq rfl) (by decide) ?_
  intro T X eT
  show Go p e below s _ _ T (mkF m 4 #[.val (.ref a)] [])
  refine Go.of (fun _ kq => XS.aloadN X.here hx rfl (hb hby d1_4) rfl rfl kq) ?_
  show Go p e below s _ _ T (mkF m 5 #[.val (.ref a)] [(.ref a)])
  refine Go.of (fun _ kq => XS.iconst X.here hx rfl (hb hby d1_5) kq) ?_
  show Go p e below s _ _ T (mkF m 6 #[.val (.ref a)] [(.int (3 : Int32)), (.ref a)])
  refine Go.newP X hx hZ (hw _ (List.mem_of_getElem? (i := 9) rfl)) eT (hb hby d1_6) (by decide) 3 (by decide) (by decide) (by decide) (by decide) ?_
  intro T h b6 X eT E ha V_b6
  have ne_a_b6 : a ≠ b6 := by rw [ha]; exact Nat.ne_of_lt E_a.lt
  have z_b6 : h0.size ≤ b6 := by rw [ha]; exact K.1
  have g_b6 : n0 ≤ b6 := Nat.le_trans Z0 z_b6
  have K := K.ext E
  have E_a := E_a.ext E
  have F_firsts_a := F_firsts_a.ext E
  have F_lasts_a := F_lasts_a.ext E
  have F_count_a := F_count_a.ext E
  have V_b6 : AV Z h b6 .long 3 (fun _ => .long 0) := V_b6
  show Go p e below s _ _ T (mkF m 8 #[.val (.ref a)] [(.ref b6), (.ref a)])
  refine Go.putF X hx hZ hown (hw _ (List.mem_of_getElem? (i := 10) rfl)) Via.refl eT F_firsts_a E_a (Or.inr ⟨(hw _ (List.mem_of_getElem? (i := 11) rfl)), rfl, hnm⟩) (hw _ (List.mem_of_getElem? (i := 1) rfl)) (ty := (.array .long)) (by decide) rfl rfl (hb hby d1_8) ?_
  intro T h X eT wr
  have N := Fr.snoc X N g_a
  have K := K.wr wr (Or.inl (List.mem_of_getElem? (i := 0) rfl))
  have E_a := E_a.wr wr
  have F_firsts_a := F_firsts_a.same wr
  have F_lasts_a := F_lasts_a.other wr (Or.inr (slot_ne (Or.inr (hw _ (List.mem_of_getElem? (i := 13) rfl))) (Or.inr (hw _ (List.mem_of_getElem? (i := 11) rfl))) (by decide) (t := (.array .long)) (t' := (.array .long)) (by decide) (by decide)))
  have F_count_a := F_count_a.other wr (Or.inr (slot_ne (Or.inl (hw _ (List.mem_of_getElem? (i := 20) rfl))) (Or.inr (hw _ (List.mem_of_getElem? (i := 11) rfl))) (by decide) (t := .int) (t' := (.array .long)) (by decide) (by decide)))
  have V_b6 := V_b6.other wr (Ne.symm ne_a_b6)
  show Go p e below s _ _ T (mkF m 11 #[.val (.ref a)] [])
  refine Go.of (fun _ kq => XS.aloadN X.here hx rfl (hb hby d1_11) rfl rfl kq) ?_
  show Go p e below s _ _ T (mkF m 12 #[.val (.ref a)] [(.ref a)])
  refine Go.of (fun _ kq => XS.iconst X.here hx rfl (hb hby d1_12) kq) ?_
  show Go p e below s _ _ T (mkF m 13 #[.val (.ref a)] [(.int (3 : Int32)), (.ref a)])
  refine Go.newP X hx hZ (hw _ (List.mem_of_getElem? (i := 9) rfl)) eT (hb hby d1_13) (by decide) 3 (by decide) (by decide) (by decide) (by decide) ?_
  intro T h b13 X eT E ha V_b13
  have ne_a_b13 : a ≠ b13 := by rw [ha]; exact Nat.ne_of_lt E_a.lt
  have ne_b6_b13 : b6 ≠ b13 := by rw [ha]; exact Nat.ne_of_lt V_b6.lt
  have z_b13 : h0.size ≤ b13 := by rw [ha]; exact K.1
  have g_b13 : n0 ≤ b13 := Nat.le_trans Z0 z_b13
  have K := K.ext E
  have E_a := E_a.ext E
  have F_firsts_a := F_firsts_a.ext E
  have F_lasts_a := F_lasts_a.ext E
  have F_count_a := F_count_a.ext E
  have V_b6 := V_b6.ext E
  have V_b13 : AV Z h b13 .long 3 (fun _ => .long 0) := V_b13
  show Go p e below s _ _ T (mkF m 15 #[.val (.ref a)] [(.ref b13), (.ref a)])
  refine Go.putF X hx hZ hown (hw _ (List.mem_of_getElem? (i := 12) rfl)) Via.refl eT F_lasts_a E_a (Or.inr ⟨(hw _ (List.mem_of_getElem? (i := 13) rfl)), rfl, hnm⟩) (hw _ (List.mem_of_getElem? (i := 1) rfl)) (ty := (.array .long)) (by decide) rfl rfl (hb hby d1_15) ?_
  intro T h X eT wr
  have N := Fr.snoc X N g_a
  have K := K.wr wr (Or.inl (List.mem_of_getElem? (i := 0) rfl))
  have E_a := E_a.wr wr
  have F_firsts_a := F_firsts_a.other wr (Or.inr (slot_ne (Or.inr (hw _ (List.mem_of_getElem? (i := 11) rfl))) (Or.inr (hw _ (List.mem_of_getElem? (i := 13) rfl))) (by decide) (t := (.array .long)) (t' := (.array .long)) (by decide) (by decide)))
  have F_lasts_a := F_lasts_a.same wr
  have F_count_a := F_count_a.other wr (Or.inr (slot_ne (Or.inl (hw _ (List.mem_of_getElem? (i := 20) rfl))) (Or.inr (hw _ (List.mem_of_getElem? (i := 13) rfl))) (by decide) (t := .int) (t' := (.array .long)) (by decide) (by decide)))
  have V_b6 := V_b6.other wr (Ne.symm ne_a_b6)
  have V_b13 := V_b13.other wr (Ne.symm ne_a_b13)
  show Go p e below s _ _ T (mkF m 18 #[.val (.ref a)] [])
  refine Go.retV X hx hret hlk (hb hby d1_18) (by decide) (by decide) ?_
  try rw [eT]
  exact ⟨rfl, N, K, b6, b13, z_b6, z_b13, ne_a_b6, ne_a_b13, ne_b6_b13, F_firsts_a, F_lasts_a, F_count_a, fun _ => 0, fun _ => 0, V_b6, V_b13, trivial⟩
theorem d6_0 : decode jdk_29_method_66_code 0 = .ok (.lload_n 0, 1) := by decide +kernel
theorem d6_1 : decode jdk_29_method_66_code 1 = .ok (.lload_n 2, 1) := by decide +kernel
theorem d6_2 : decode jdk_29_method_66_code 2 = .ok (.lcmp, 1) := by decide +kernel
theorem d6_3 : decode jdk_29_method_66_code 3 = .ok (.ifCond .lt 7, 3) := by decide +kernel
theorem d6_6 : decode jdk_29_method_66_code 6 = .ok (.lload_n 0, 1) := by decide +kernel
theorem d6_7 : decode jdk_29_method_66_code 7 = .ok (.goto 4, 3) := by decide +kernel
theorem d6_10 : decode jdk_29_method_66_code 10 = .ok (.lload_n 2, 1) := by decide +kernel
theorem d6_11 : decode jdk_29_method_66_code 11 = .ok (.lreturn, 1) := by decide +kernel
theorem pn6 : plainFor (⟨"java/lang/Math", "max", "(JJ)J"⟩ : MethodName) = true := Jvm.Free.JP.mathPlain rfl (by decide +kernel)
theorem ef_rmMax (m : MethodId) (x0 : Int64) (x1 : Int64) : entryFrame m #[(.long x0), (.long x1)] 4 = mkF m 0 #[.val (.long x0), .second, .val (.long x1), .second] [] := by first | (simp [entryFrame, mkF, argsToLocals, Value.category]; done) | rfl
set_option maxRecDepth 65536 in
set_option maxHeartbeats 40000000 in
theorem rmMax {l : Launch} {Z : State} {a0 : Array Value} (hw : ∀ d ∈ tables_1, d.before a0 Z = true) (q1 q2 : Int64) (h0 : Heap) (n0 : Nat)  :
    Met l Z (⟨"java/lang/Math", "max", "(JJ)J"⟩ : MethodName) jdk_29_method_66_code 4 (some .long) [] ({ frames := 0, cells := 0, slots := 0, locals := 0 } : Room) #[(.long q1), (.long q2)] h0 (fun v h L => v = some (.long (own_max q1 q2)) ∧ Fr n0 L ∧ h = h0) := by
  refine Met.mk pn6 ?_
  intro p e s m below meth c T hx hby hml hown hnm hret hlk hZ X eT
  refine Go.cast (ef_rmMax m q1 q2) ?_
  have N := Fr.nil n0
  show Go p e below s _ _ T (mkF m 0 #[.val (.long q1), .second, .val (.long q2), .second] [])
  refine Go.of (fun _ kq => XS.lloadN X.here hx rfl (hb hby d6_0) rfl kq) ?_
  show Go p e below s _ _ T (mkF m 1 #[.val (.long q1), .second, .val (.long q2), .second] [(.long q1)])
  refine Go.of (fun _ kq => XS.lloadN X.here hx rfl (hb hby d6_1) rfl kq) ?_
  show Go p e below s _ _ T (mkF m 2 #[.val (.long q1), .second, .val (.long q2), .second] [(.long q2), (.long q1)])
  refine Go.of (fun _ kq => XS.lcmp X.here hx rfl (hb hby d6_2) rfl kq) ?_
  show Go p e below s _ _ T (mkF m 3 #[.val (.long q1), .second, .val (.long q2), .second] [(.int (lcmpW q1 q2))])
  by_cases hc3 : q1 < q2
  · refine Go.of (fun _ kq => XS.ifYes X.here hx rfl (pc0 := 3) (pc' := 10) rfl (hb hby d6_3) rfl (cZlt hc3).1 (by decide) (by decide) kq) ?_
    show Go p e below s _ _ T (mkF m 10 #[.val (.long q1), .second, .val (.long q2), .second] [])
    refine Go.of (fun _ kq => XS.lloadN X.here hx rfl (hb hby d6_10) rfl kq) ?_
    show Go p e below s _ _ T (mkF m 11 #[.val (.long q1), .second, .val (.long q2), .second] [(.long q2)])
    refine Go.retJ X hx hret hlk (hb hby d6_11) (by decide) (by decide) ?_
    try rw [eT]
    exact ⟨by rw [show own_max q1 q2 = q2 by simp [own_max, hc3]], N, rfl⟩
  · refine Go.of (fun _ kq => XS.ifNo X.here hx rfl (hb hby d6_3) rfl (cFlt hc3).1 kq) ?_
    show Go p e below s _ _ T (mkF m 6 #[.val (.long q1), .second, .val (.long q2), .second] [])
    refine Go.of (fun _ kq => XS.lloadN X.here hx rfl (hb hby d6_6) rfl kq) ?_
    show Go p e below s _ _ T (mkF m 7 #[.val (.long q1), .second, .val (.long q2), .second] [(.long q1)])
    refine Go.of (fun _ kq => XS.goto X.here hx rfl (pc0 := 7) (pc' := 11) rfl (hb hby d6_7) (by decide) (by decide) kq) ?_
    show Go p e below s _ _ T (mkF m 11 #[.val (.long q1), .second, .val (.long q2), .second] [(.long q1)])
    refine Go.retJ X hx hret hlk (hb hby d6_11) (by decide) (by decide) ?_
    try rw [eT]
    exact ⟨by rw [show own_max q1 q2 = q1 by simp [own_max, hc3]], N, rfl⟩
theorem d3_0 : decode prog_18_method_3_code 0 = .ok (.lload_n 1, 1) := by decide +kernel
theorem d3_1 : decode prog_18_method_3_code 1 = .ok (.lload_n 3, 1) := by decide +kernel
theorem d3_2 : decode prog_18_method_3_code 2 = .ok (.lcmp, 1) := by decide +kernel
theorem d3_3 : decode prog_18_method_3_code 3 = .ok (.ifCond .le 4, 3) := by decide +kernel
theorem d3_6 : decode prog_18_method_3_code 6 = .ok (.return_, 1) := by decide +kernel
theorem d3_7 : decode prog_18_method_3_code 7 = .ok (.aload_n 0, 1) := by decide +kernel
theorem d3_8 : decode prog_18_method_3_code 8 = .ok (.getfield 18, 3) := by decide +kernel
theorem d3_11 : decode prog_18_method_3_code 11 = .ok (.istore 9, 2) := by decide +kernel
theorem d3_13 : decode prog_18_method_3_code 13 = .ok (.iload 9, 2) := by decide +kernel
theorem d3_15 : decode prog_18_method_3_code 15 = .ok (.ifCond .le 55, 3) := by decide +kernel
theorem d3_70 : decode prog_18_method_3_code 70 = .ok (.aload_n 0, 1) := by decide +kernel
theorem d3_71 : decode prog_18_method_3_code 71 = .ok (.getfield 11, 3) := by decide +kernel
theorem d3_74 : decode prog_18_method_3_code 74 = .ok (.iload 9, 2) := by decide +kernel
theorem d3_76 : decode prog_18_method_3_code 76 = .ok (.lload_n 1, 1) := by decide +kernel
theorem d3_77 : decode prog_18_method_3_code 77 = .ok (.lastore, 1) := by decide +kernel
theorem d3_78 : decode prog_18_method_3_code 78 = .ok (.aload_n 0, 1) := by decide +kernel
theorem d3_79 : decode prog_18_method_3_code 79 = .ok (.getfield 15, 3) := by decide +kernel
theorem d3_82 : decode prog_18_method_3_code 82 = .ok (.iload 9, 2) := by decide +kernel
theorem d3_84 : decode prog_18_method_3_code 84 = .ok (.lload_n 3, 1) := by decide +kernel
theorem d3_85 : decode prog_18_method_3_code 85 = .ok (.lastore, 1) := by decide +kernel
theorem d3_86 : decode prog_18_method_3_code 86 = .ok (.aload_n 0, 1) := by decide +kernel
theorem d3_87 : decode prog_18_method_3_code 87 = .ok (.dup, 1) := by decide +kernel
theorem d3_88 : decode prog_18_method_3_code 88 = .ok (.getfield 18, 3) := by decide +kernel
theorem d3_91 : decode prog_18_method_3_code 91 = .ok (.iconst 1, 1) := by decide +kernel
theorem d3_92 : decode prog_18_method_3_code 92 = .ok (.iadd, 1) := by decide +kernel
theorem d3_93 : decode prog_18_method_3_code 93 = .ok (.putfield 18, 3) := by decide +kernel
theorem d3_96 : decode prog_18_method_3_code 96 = .ok (.iconst 0, 1) := by decide +kernel
theorem d3_97 : decode prog_18_method_3_code 97 = .ok (.istore 10, 2) := by decide +kernel
theorem d3_99 : decode prog_18_method_3_code 99 = .ok (.iconst 1, 1) := by decide +kernel
theorem d3_100 : decode prog_18_method_3_code 100 = .ok (.istore 11, 2) := by decide +kernel
theorem d3_102 : decode prog_18_method_3_code 102 = .ok (.iload 11, 2) := by decide +kernel
theorem d3_104 : decode prog_18_method_3_code 104 = .ok (.aload_n 0, 1) := by decide +kernel
theorem d3_105 : decode prog_18_method_3_code 105 = .ok (.getfield 18, 3) := by decide +kernel
theorem d3_108 : decode prog_18_method_3_code 108 = .ok (.if_icmp .ge 87, 3) := by decide +kernel
theorem d3_195 : decode prog_18_method_3_code 195 = .ok (.aload_n 0, 1) := by decide +kernel
theorem d3_196 : decode prog_18_method_3_code 196 = .ok (.iload 10, 2) := by decide +kernel
theorem d3_198 : decode prog_18_method_3_code 198 = .ok (.iconst 1, 1) := by decide +kernel
theorem d3_199 : decode prog_18_method_3_code 199 = .ok (.iadd, 1) := by decide +kernel
theorem d3_200 : decode prog_18_method_3_code 200 = .ok (.putfield 18, 3) := by decide +kernel
theorem d3_203 : decode prog_18_method_3_code 203 = .ok (.aload_n 0, 1) := by decide +kernel
theorem d3_204 : decode prog_18_method_3_code 204 = .ok (.getfield 18, 3) := by decide +kernel
theorem d3_207 : decode prog_18_method_3_code 207 = .ok (.iconst 2, 1) := by decide +kernel
theorem d3_208 : decode prog_18_method_3_code 208 = .ok (.if_icmp .le 64, 3) := by decide +kernel
theorem d3_272 : decode prog_18_method_3_code 272 = .ok (.return_, 1) := by decide +kernel
theorem pn3 : plainFor (⟨"com/example/credence/credence/oauth1/SpentRanges", "add", "(JJJJ)V"⟩ : MethodName) = true := plainFor_of_name (by first | (simp [plainName, overriddenIn]; done) | decide +kernel)
theorem ef_rmAdd0 (m : MethodId) (x0 : Addr) (x1 : Int64) (x2 : Int64) (x3 : Int64) (x4 : Int64) : entryFrame m #[(.ref x0), (.long x1), (.long x2), (.long x3), (.long x4)] 15 = mkF m 0 #[.val (.ref x0), .val (.long x1), .second, .val (.long x2), .second, .val (.long x3), .second, .val (.long x4), .second, .unset, .unset, .unset, .unset, .unset, .unset] [] := by first | (simp [entryFrame, mkF, argsToLocals, Value.category]; done) | rfl
set_option maxRecDepth 65536 in
set_option maxHeartbeats 40000000 in
theorem rmAdd0 {l : Launch} {Z : State} {a0 : Array Value} (hw : ∀ d ∈ tables_1, d.before a0 Z = true) (a : Addr) (q1 q2 q3 q4 : Int64) (x y : Addr) (f g : Nat → Int64) (h0 : Heap) (n0 : Nat) (g_a : n0 ≤ a) (g_x : n0 ≤ x) (g_y : n0 ≤ y) (ne_a_x : a ≠ x) (ne_a_y : a ≠ y) (ne_x_y : x ≠ y) (E_a : Exa Z h0 a "com/example/credence/credence/oauth1/SpentRanges") (F_firsts_a : Fld Z h0 a "com/example/credence/credence/oauth1/SpentRanges" "firsts" "[J" (.ref x)) (F_lasts_a : Fld Z h0 a "com/example/credence/credence/oauth1/SpentRanges" "lasts" "[J" (.ref y)) (F_count_a : Fld Z h0 a "com/example/credence/credence/oauth1/SpentRanges" "count" "I" (.int (0 : Int32))) (V_x : AV Z h0 x .long 3 (fun j => .long (f j))) (V_y : AV Z h0 y .long 3 (fun j => .long (g j))) :
    Met l Z (⟨"com/example/credence/credence/oauth1/SpentRanges", "add", "(JJJJ)V"⟩ : MethodName) prog_18_method_3_code 15 none [] ({ frames := 1, cells := 0, slots := 0, locals := 18 } : Room) #[(.ref a), (.long q1), (.long q2), (.long q3), (.long q4)] h0 (fun v h L => v = none ∧ Fr n0 L ∧ Keep h0 h [a, x, y] ∧ Rg Z h a x y (own_add [] q1 q2)) := by
  refine Met.mk pn3 ?_
  intro p e s m below meth c T hx hby hml hown hnm hret hlk hZ X eT
  refine Go.cast (ef_rmAdd0 m a q1 q2 q3 q4) ?_
  have N := Fr.nil n0
  have K := Keep.refl h0 [a, x, y]
  show Go p e below s _ _ T (mkF m 0 #[.val (.ref a), .val (.long q1), .second, .val (.long q2), .second, .val (.long q3), .second, .val (.long q4), .second, .unset, .unset, .unset, .unset, .unset, .unset] [])
  refine Go.of (fun _ kq => XS.lloadN X.here hx rfl (hb hby d3_0) rfl kq) ?_
  show Go p e below s _ _ T (mkF m 1 #[.val (.ref a), .val (.long q1), .second, .val (.long q2), .second, .val (.long q3), .second, .val (.long q4), .second, .unset, .unset, .unset, .unset, .unset, .unset] [(.long q1)])
  refine Go.of (fun _ kq => XS.lloadN X.here hx rfl (hb hby d3_1) rfl kq) ?_
  show Go p e below s _ _ T (mkF m 2 #[.val (.ref a), .val (.long q1), .second, .val (.long q2), .second, .val (.long q3), .second, .val (.long q4), .second, .unset, .unset, .unset, .unset, .unset, .unset] [(.long q2), (.long q1)])
  refine Go.of (fun _ kq => XS.lcmp X.here hx rfl (hb hby d3_2) rfl kq) ?_
  show Go p e below s _ _ T (mkF m 3 #[.val (.ref a), .val (.long q1), .second, .val (.long q2), .second, .val (.long q3), .second, .val (.long q4), .second, .unset, .unset, .unset, .unset, .unset, .unset] [(.int (lcmpW q1 q2))])
  by_cases hc3 : q2 < q1
  · refine Go.of (fun _ kq => XS.ifNo X.here hx rfl (hb hby d3_3) rfl (cZgt hc3).2 kq) ?_
    show Go p e below s _ _ T (mkF m 6 #[.val (.ref a), .val (.long q1), .second, .val (.long q2), .second, .val (.long q3), .second, .val (.long q4), .second, .unset, .unset, .unset, .unset, .unset, .unset] [])
    refine Go.retV X hx hret hlk (hb hby d3_6) (by decide) (by decide) ?_
    try rw [eT]
    exact ⟨rfl, N, K, by unfold own_add; rw [if_pos hc3]; exact ⟨F_firsts_a, F_lasts_a, F_count_a, f, g, V_x, V_y, trivial⟩⟩
  · refine Go.of (fun _ kq => XS.ifYes X.here hx rfl (pc0 := 3) (pc' := 7) rfl (hb hby d3_3) rfl (cFgt hc3).2 (by decide) (by decide) kq) ?_
    show Go p e below s _ _ T (mkF m 7 #[.val (.ref a), .val (.long q1), .second, .val (.long q2), .second, .val (.long q3), .second, .val (.long q4), .second, .unset, .unset, .unset, .unset, .unset, .unset] [])
    refine Go.of (fun _ kq => XS.aloadN X.here hx rfl (hb hby d3_7) rfl rfl kq) ?_
    show Go p e below s _ _ T (mkF m 8 #[.val (.ref a), .val (.long q1), .second, .val (.long q2), .second, .val (.long q3), .second, .val (.long q4), .second, .unset, .unset, .unset, .unset, .unset, .unset] [(.ref a)])
    refine Go.getF X hx hZ hown (hw _ (List.mem_of_getElem? (i := 19) rfl)) Via.refl eT F_count_a (hb hby d3_8) ?_
    intro T X eT
    show Go p e below s _ _ T (mkF m 11 #[.val (.ref a), .val (.long q1), .second, .val (.long q2), .second, .val (.long q3), .second, .val (.long q4), .second, .unset, .unset, .unset, .unset, .unset, .unset] [(.int (0 : Int32))])
    refine Go.of (fun _ kq => XS.istore X.here hx rfl (hb hby d3_11) rfl (l' := #[.val (.ref a), .val (.long q1), .second, .val (.long q2), .second, .val (.long q3), .second, .val (.long q4), .second, .val (.int (0 : Int32)), .unset, .unset, .unset, .unset, .unset]) rfl kq) ?_
    show Go p e below s _ _ T (mkF m 13 #[.val (.ref a), .val (.long q1), .second, .val (.long q2), .second, .val (.long q3), .second, .val (.long q4), .second, .val (.int (0 : Int32)), .unset, .unset, .unset, .unset, .unset] [])
    refine Go.of (fun _ kq => XS.iload X.here hx rfl (hb hby d3_13) rfl kq) ?_
    show Go p e below s _ _ T (mkF m 15 #[.val (.ref a), .val (.long q1), .second, .val (.long q2), .second, .val (.long q3), .second, .val (.long q4), .second, .val (.int (0 : Int32)), .unset, .unset, .unset, .unset, .unset] [(.int (0 : Int32))])
    refine Go.of (fun _ kq => XS.ifYes X.here hx rfl (pc0 := 15) (pc' := 70) rfl (hb hby d3_15) rfl ((if0 _ _).trans (flt (by decide)).2.2.2) (by decide) (by decide) kq) ?_
    show Go p e below s _ _ T (mkF m 70 #[.val (.ref a), .val (.long q1), .second, .val (.long q2), .second, .val (.long q3), .second, .val (.long q4), .second, .val (.int (0 : Int32)), .unset, .unset, .unset, .unset, .unset] [])
    refine Go.of (fun _ kq => XS.aloadN X.here hx rfl (hb hby d3_70) rfl rfl kq) ?_
    show Go p e below s _ _ T (mkF m 71 #[.val (.ref a), .val (.long q1), .second, .val (.long q2), .second, .val (.long q3), .second, .val (.long q4), .second, .val (.int (0 : Int32)), .unset, .unset, .unset, .unset, .unset] [(.ref a)])
    refine Go.getF X hx hZ hown (hw _ (List.mem_of_getElem? (i := 10) rfl)) Via.refl eT F_firsts_a (hb hby d3_71) ?_
    intro T X eT
    show Go p e below s _ _ T (mkF m 74 #[.val (.ref a), .val (.long q1), .second, .val (.long q2), .second, .val (.long q3), .second, .val (.long q4), .second, .val (.int (0 : Int32)), .unset, .unset, .unset, .unset, .unset] [(.ref x)])
    refine Go.of (fun _ kq => XS.iload X.here hx rfl (hb hby d3_74) rfl kq) ?_
    show Go p e below s _ _ T (mkF m 76 #[.val (.ref a), .val (.long q1), .second, .val (.long q2), .second, .val (.long q3), .second, .val (.long q4), .second, .val (.int (0 : Int32)), .unset, .unset, .unset, .unset, .unset] [(.int (0 : Int32)), (.ref x)])
    refine Go.of (fun _ kq => XS.lloadN X.here hx rfl (hb hby d3_76) rfl kq) ?_
    show Go p e below s _ _ T (mkF m 77 #[.val (.ref a), .val (.long q1), .second, .val (.long q2), .second, .val (.long q3), .second, .val (.long q4), .second, .val (.int (0 : Int32)), .unset, .unset, .unset, .unset, .unset] [(.long q1), (.int (0 : Int32)), (.ref x)])
    have hin : Inb (0 : Int32) 3 := ⟨by decide, by decide⟩
    refine Go.stJ X hx hZ eT V_x hin (hb hby d3_77) ?_
    intro T h X eT wr
    have N := Fr.snoc X N g_x
    have K := K.wr wr (Or.inl (List.mem_of_getElem? (i := 1) rfl))
    have E_a := E_a.wr wr
    have F_firsts_a := F_firsts_a.other wr (Or.inl ne_a_x)
    have F_lasts_a := F_lasts_a.other wr (Or.inl ne_a_x)
    have F_count_a := F_count_a.other wr (Or.inl ne_a_x)
    have V_x : AV Z h x .long 3 (fun j => .long ((updJ f 0 q1) j)) := V_x.setJ wr hin.2
    have V_y := V_y.other wr (Ne.symm ne_x_y)
    show Go p e below s _ _ T (mkF m 78 #[.val (.ref a), .val (.long q1), .second, .val (.long q2), .second, .val (.long q3), .second, .val (.long q4), .second, .val (.int (0 : Int32)), .unset, .unset, .unset, .unset, .unset] [])
    refine Go.of (fun _ kq => XS.aloadN X.here hx rfl (hb hby d3_78) rfl rfl kq) ?_
    show Go p e below s _ _ T (mkF m 79 #[.val (.ref a), .val (.long q1), .second, .val (.long q2), .second, .val (.long q3), .second, .val (.long q4), .second, .val (.int (0 : Int32)), .unset, .unset, .unset, .unset, .unset] [(.ref a)])
    refine Go.getF X hx hZ hown (hw _ (List.mem_of_getElem? (i := 12) rfl)) Via.refl eT F_lasts_a (hb hby d3_79) ?_
    intro T X eT
    show Go p e below s _ _ T (mkF m 82 #[.val (.ref a), .val (.long q1), .second, .val (.long q2), .second, .val (.long q3), .second, .val (.long q4), .second, .val (.int (0 : Int32)), .unset, .unset, .unset, .unset, .unset] [(.ref y)])
    refine Go.of (fun _ kq => XS.iload X.here hx rfl (hb hby d3_82) rfl kq) ?_
    show Go p e below s _ _ T (mkF m 84 #[.val (.ref a), .val (.long q1), .second, .val (.long q2), .second, .val (.long q3), .second, .val (.long q4), .second, .val (.int (0 : Int32)), .unset, .unset, .unset, .unset, .unset] [(.int (0 : Int32)), (.ref y)])
    refine Go.of (fun _ kq => XS.lloadN X.here hx rfl (hb hby d3_84) rfl kq) ?_
    show Go p e below s _ _ T (mkF m 85 #[.val (.ref a), .val (.long q1), .second, .val (.long q2), .second, .val (.long q3), .second, .val (.long q4), .second, .val (.int (0 : Int32)), .unset, .unset, .unset, .unset, .unset] [(.long q2), (.int (0 : Int32)), (.ref y)])
    have hin : Inb (0 : Int32) 3 := ⟨by decide, by decide⟩
    refine Go.stJ X hx hZ eT V_y hin (hb hby d3_85) ?_
    intro T h X eT wr
    have N := Fr.snoc X N g_y
    have K := K.wr wr (Or.inl (List.mem_of_getElem? (i := 2) rfl))
    have E_a := E_a.wr wr
    have F_firsts_a := F_firsts_a.other wr (Or.inl ne_a_y)
    have F_lasts_a := F_lasts_a.other wr (Or.inl ne_a_y)
    have F_count_a := F_count_a.other wr (Or.inl ne_a_y)
    have V_x := V_x.other wr ne_x_y
    have V_y : AV Z h y .long 3 (fun j => .long ((updJ g 0 q2) j)) := V_y.setJ wr hin.2
    show Go p e below s _ _ T (mkF m 86 #[.val (.ref a), .val (.long q1), .second, .val (.long q2), .second, .val (.long q3), .second, .val (.long q4), .second, .val (.int (0 : Int32)), .unset, .unset, .unset, .unset, .unset] [])
    refine Go.of (fun _ kq => XS.aloadN X.here hx rfl (hb hby d3_86) rfl rfl kq) ?_
    show Go p e below s _ _ T (mkF m 87 #[.val (.ref a), .val (.long q1), .second, .val (.long q2), .second, .val (.long q3), .second, .val (.long q4), .second, .val (.int (0 : Int32)), .unset, .unset, .unset, .unset, .unset] [(.ref a)])
    refine Go.of (fun _ kq => XS.dup X.here hx rfl (hb hby d3_87) rfl rfl kq) ?_
    show Go p e below s _ _ T (mkF m 88 #[.val (.ref a), .val (.long q1), .second, .val (.long q2), .second, .val (.long q3), .second, .val (.long q4), .second, .val (.int (0 : Int32)), .unset, .unset, .unset, .unset, .unset] [(.ref a), (.ref a)])
    refine Go.getF X hx hZ hown (hw _ (List.mem_of_getElem? (i := 19) rfl)) Via.refl eT F_count_a (hb hby d3_88) ?_
    intro T X eT
    show Go p e below s _ _ T (mkF m 91 #[.val (.ref a), .val (.long q1), .second, .val (.long q2), .second, .val (.long q3), .second, .val (.long q4), .second, .val (.int (0 : Int32)), .unset, .unset, .unset, .unset, .unset] [(.int (0 : Int32)), (.ref a)])
    refine Go.of (fun _ kq => XS.iconst X.here hx rfl (hb hby d3_91) kq) ?_
    show Go p e below s _ _ T (mkF m 92 #[.val (.ref a), .val (.long q1), .second, .val (.long q2), .second, .val (.long q3), .second, .val (.long q4), .second, .val (.int (0 : Int32)), .unset, .unset, .unset, .unset, .unset] [(.int (1 : Int32)), (.int (0 : Int32)), (.ref a)])
    refine Go.of (fun _ kq => XS.iadd X.here hx rfl (hb hby d3_92) rfl kq) ?_
    show Go p e below s _ _ T (mkF m 93 #[.val (.ref a), .val (.long q1), .second, .val (.long q2), .second, .val (.long q3), .second, .val (.long q4), .second, .val (.int (0 : Int32)), .unset, .unset, .unset, .unset, .unset] [(.int (1 : Int32)), (.ref a)])
    refine Go.putF X hx hZ hown (hw _ (List.mem_of_getElem? (i := 19) rfl)) Via.refl eT F_count_a E_a (Or.inl (hw _ (List.mem_of_getElem? (i := 20) rfl))) (hw _ (List.mem_of_getElem? (i := 1) rfl)) (ty := .int) (by decide) rfl rfl (hb hby d3_93) ?_
    intro T h X eT wr
    have N := Fr.snoc X N g_a
    have K := K.wr wr (Or.inl (List.mem_of_getElem? (i := 0) rfl))
    have E_a := E_a.wr wr
    have F_firsts_a := F_firsts_a.other wr (Or.inr (slot_ne (Or.inr (hw _ (List.mem_of_getElem? (i := 11) rfl))) (Or.inl (hw _ (List.mem_of_getElem? (i := 20) rfl))) (by decide) (t := (.array .long)) (t' := .int) (by decide) (by decide)))
    have F_lasts_a := F_lasts_a.other wr (Or.inr (slot_ne (Or.inr (hw _ (List.mem_of_getElem? (i := 13) rfl))) (Or.inl (hw _ (List.mem_of_getElem? (i := 20) rfl))) (by decide) (t := (.array .long)) (t' := .int) (by decide) (by decide)))
    have F_count_a := F_count_a.same wr
    have V_x := V_x.other wr (Ne.symm ne_a_x)
    have V_y := V_y.other wr (Ne.symm ne_a_y)
    show Go p e below s _ _ T (mkF m 96 #[.val (.ref a), .val (.long q1), .second, .val (.long q2), .second, .val (.long q3), .second, .val (.long q4), .second, .val (.int (0 : Int32)), .unset, .unset, .unset, .unset, .unset] [])
    refine Go.of (fun _ kq => XS.iconst X.here hx rfl (hb hby d3_96) kq) ?_
    show Go p e below s _ _ T (mkF m 97 #[.val (.ref a), .val (.long q1), .second, .val (.long q2), .second, .val (.long q3), .second, .val (.long q4), .second, .val (.int (0 : Int32)), .unset, .unset, .unset, .unset, .unset] [(.int (0 : Int32))])
    refine Go.of (fun _ kq => XS.istore X.here hx rfl (hb hby d3_97) rfl (l' := #[.val (.ref a), .val (.long q1), .second, .val (.long q2), .second, .val (.long q3), .second, .val (.long q4), .second, .val (.int (0 : Int32)), .val (.int (0 : Int32)), .unset, .unset, .unset, .unset]) rfl kq) ?_
    show Go p e below s _ _ T (mkF m 99 #[.val (.ref a), .val (.long q1), .second, .val (.long q2), .second, .val (.long q3), .second, .val (.long q4), .second, .val (.int (0 : Int32)), .val (.int (0 : Int32)), .unset, .unset, .unset, .unset] [])
    refine Go.of (fun _ kq => XS.iconst X.here hx rfl (hb hby d3_99) kq) ?_
    show Go p e below s _ _ T (mkF m 100 #[.val (.ref a), .val (.long q1), .second, .val (.long q2), .second, .val (.long q3), .second, .val (.long q4), .second, .val (.int (0 : Int32)), .val (.int (0 : Int32)), .unset, .unset, .unset, .unset] [(.int (1 : Int32))])
    refine Go.of (fun _ kq => XS.istore X.here hx rfl (hb hby d3_100) rfl (l' := #[.val (.ref a), .val (.long q1), .second, .val (.long q2), .second, .val (.long q3), .second, .val (.long q4), .second, .val (.int (0 : Int32)), .val (.int (0 : Int32)), .val (.int (1 : Int32)), .unset, .unset, .unset]) rfl kq) ?_
    show Go p e below s _ _ T (mkF m 102 #[.val (.ref a), .val (.long q1), .second, .val (.long q2), .second, .val (.long q3), .second, .val (.long q4), .second, .val (.int (0 : Int32)), .val (.int (0 : Int32)), .val (.int (1 : Int32)), .unset, .unset, .unset] [])
    refine Go.of (fun _ kq => XS.iload X.here hx rfl (hb hby d3_102) rfl kq) ?_
    show Go p e below s _ _ T (mkF m 104 #[.val (.ref a), .val (.long q1), .second, .val (.long q2), .second, .val (.long q3), .second, .val (.long q4), .second, .val (.int (0 : Int32)), .val (.int (0 : Int32)), .val (.int (1 : Int32)), .unset, .unset, .unset] [(.int (1 : Int32))])
    refine Go.of (fun _ kq => XS.aloadN X.here hx rfl (hb hby d3_104) rfl rfl kq) ?_
    show Go p e below s _ _ T (mkF m 105 #[.val (.ref a), .val (.long q1), .second, .val (.long q2), .second, .val (.long q3), .second, .val (.long q4), .second, .val (.int (0 : Int32)), .val (.int (0 : Int32)), .val (.int (1 : Int32)), .unset, .unset, .unset] [(.ref a), (.int (1 : Int32))])
    refine Go.getF X hx hZ hown (hw _ (List.mem_of_getElem? (i := 19) rfl)) Via.refl eT F_count_a (hb hby d3_105) ?_
    intro T X eT
    show Go p e below s _ _ T (mkF m 108 #[.val (.ref a), .val (.long q1), .second, .val (.long q2), .second, .val (.long q3), .second, .val (.long q4), .second, .val (.int (0 : Int32)), .val (.int (0 : Int32)), .val (.int (1 : Int32)), .unset, .unset, .unset] [(.int (1 : Int32)), (.int (1 : Int32))])
    refine Go.of (fun _ kq => XS.icmpYes X.here hx rfl (pc0 := 108) (pc' := 195) rfl (hb hby d3_108) rfl (flt (by decide)).2.1 (by decide) (by decide) kq) ?_
    show Go p e below s _ _ T (mkF m 195 #[.val (.ref a), .val (.long q1), .second, .val (.long q2), .second, .val (.long q3), .second, .val (.long q4), .second, .val (.int (0 : Int32)), .val (.int (0 : Int32)), .val (.int (1 : Int32)), .unset, .unset, .unset] [])
    refine Go.of (fun _ kq => XS.aloadN X.here hx rfl (hb hby d3_195) rfl rfl kq) ?_
    show Go p e below s _ _ T (mkF m 196 #[.val (.ref a), .val (.long q1), .second, .val (.long q2), .second, .val (.long q3), .second, .val (.long q4), .second, .val (.int (0 : Int32)), .val (.int (0 : Int32)), .val (.int (1 : Int32)), .unset, .unset, .unset] [(.ref a)])
    refine Go.of (fun _ kq => XS.iload X.here hx rfl (hb hby d3_196) rfl kq) ?_
    show Go p e below s _ _ T (mkF m 198 #[.val (.ref a), .val (.long q1), .second, .val (.long q2), .second, .val (.long q3), .second, .val (.long q4), .second, .val (.int (0 : Int32)), .val (.int (0 : Int32)), .val (.int (1 : Int32)), .unset, .unset, .unset] [(.int (0 : Int32)), (.ref a)])
    refine Go.of (fun _ kq => XS.iconst X.here hx rfl (hb hby d3_198) kq) ?_
    show Go p e below s _ _ T (mkF m 199 #[.val (.ref a), .val (.long q1), .second, .val (.long q2), .second, .val (.long q3), .second, .val (.long q4), .second, .val (.int (0 : Int32)), .val (.int (0 : Int32)), .val (.int (1 : Int32)), .unset, .unset, .unset] [(.int (1 : Int32)), (.int (0 : Int32)), (.ref a)])
    refine Go.of (fun _ kq => XS.iadd X.here hx rfl (hb hby d3_199) rfl kq) ?_
    show Go p e below s _ _ T (mkF m 200 #[.val (.ref a), .val (.long q1), .second, .val (.long q2), .second, .val (.long q3), .second, .val (.long q4), .second, .val (.int (0 : Int32)), .val (.int (0 : Int32)), .val (.int (1 : Int32)), .unset, .unset, .unset] [(.int (1 : Int32)), (.ref a)])
    refine Go.putF X hx hZ hown (hw _ (List.mem_of_getElem? (i := 19) rfl)) Via.refl eT F_count_a E_a (Or.inl (hw _ (List.mem_of_getElem? (i := 20) rfl))) (hw _ (List.mem_of_getElem? (i := 1) rfl)) (ty := .int) (by decide) rfl rfl (hb hby d3_200) ?_
    intro T h X eT wr
    have N := Fr.snoc X N g_a
    have K := K.wr wr (Or.inl (List.mem_of_getElem? (i := 0) rfl))
    have E_a := E_a.wr wr
    have F_firsts_a := F_firsts_a.other wr (Or.inr (slot_ne (Or.inr (hw _ (List.mem_of_getElem? (i := 11) rfl))) (Or.inl (hw _ (List.mem_of_getElem? (i := 20) rfl))) (by decide) (t := (.array .long)) (t' := .int) (by decide) (by decide)))
    have F_lasts_a := F_lasts_a.other wr (Or.inr (slot_ne (Or.inr (hw _ (List.mem_of_getElem? (i := 13) rfl))) (Or.inl (hw _ (List.mem_of_getElem? (i := 20) rfl))) (by decide) (t := (.array .long)) (t' := .int) (by decide) (by decide)))
    have F_count_a := F_count_a.same wr
    have V_x := V_x.other wr (Ne.symm ne_a_x)
    have V_y := V_y.other wr (Ne.symm ne_a_y)
    show Go p e below s _ _ T (mkF m 203 #[.val (.ref a), .val (.long q1), .second, .val (.long q2), .second, .val (.long q3), .second, .val (.long q4), .second, .val (.int (0 : Int32)), .val (.int (0 : Int32)), .val (.int (1 : Int32)), .unset, .unset, .unset] [])
    refine Go.of (fun _ kq => XS.aloadN X.here hx rfl (hb hby d3_203) rfl rfl kq) ?_
    show Go p e below s _ _ T (mkF m 204 #[.val (.ref a), .val (.long q1), .second, .val (.long q2), .second, .val (.long q3), .second, .val (.long q4), .second, .val (.int (0 : Int32)), .val (.int (0 : Int32)), .val (.int (1 : Int32)), .unset, .unset, .unset] [(.ref a)])
    refine Go.getF X hx hZ hown (hw _ (List.mem_of_getElem? (i := 19) rfl)) Via.refl eT F_count_a (hb hby d3_204) ?_
    intro T X eT
    show Go p e below s _ _ T (mkF m 207 #[.val (.ref a), .val (.long q1), .second, .val (.long q2), .second, .val (.long q3), .second, .val (.long q4), .second, .val (.int (0 : Int32)), .val (.int (0 : Int32)), .val (.int (1 : Int32)), .unset, .unset, .unset] [(.int (1 : Int32))])
    refine Go.of (fun _ kq => XS.iconst X.here hx rfl (hb hby d3_207) kq) ?_
    show Go p e below s _ _ T (mkF m 208 #[.val (.ref a), .val (.long q1), .second, .val (.long q2), .second, .val (.long q3), .second, .val (.long q4), .second, .val (.int (0 : Int32)), .val (.int (0 : Int32)), .val (.int (1 : Int32)), .unset, .unset, .unset] [(.int (2 : Int32)), (.int (1 : Int32))])
    refine Go.of (fun _ kq => XS.icmpYes X.here hx rfl (pc0 := 208) (pc' := 272) rfl (hb hby d3_208) rfl (flt (by decide)).2.2.2 (by decide) (by decide) kq) ?_
    show Go p e below s _ _ T (mkF m 272 #[.val (.ref a), .val (.long q1), .second, .val (.long q2), .second, .val (.long q3), .second, .val (.long q4), .second, .val (.int (0 : Int32)), .val (.int (0 : Int32)), .val (.int (1 : Int32)), .unset, .unset, .unset] [])
    refine Go.retV X hx hret hlk (hb hby d3_272) (by decide) (by decide) ?_
    try rw [eT]
    exact ⟨rfl, N, K, by unfold own_add; rw [if_neg hc3]; exact ⟨F_firsts_a, F_lasts_a, F_count_a, _, _, V_x, V_y, rfl, rfl⟩⟩
theorem d3_18 : decode prog_18_method_3_code 18 = .ok (.aload_n 0, 1) := by decide +kernel
theorem d3_19 : decode prog_18_method_3_code 19 = .ok (.getfield 11, 3) := by decide +kernel
theorem d3_22 : decode prog_18_method_3_code 22 = .ok (.iload 9, 2) := by decide +kernel
theorem d3_24 : decode prog_18_method_3_code 24 = .ok (.iconst 1, 1) := by decide +kernel
theorem d3_25 : decode prog_18_method_3_code 25 = .ok (.isub, 1) := by decide +kernel
theorem d3_26 : decode prog_18_method_3_code 26 = .ok (.laload, 1) := by decide +kernel
theorem d3_27 : decode prog_18_method_3_code 27 = .ok (.lload_n 1, 1) := by decide +kernel
theorem d3_28 : decode prog_18_method_3_code 28 = .ok (.lcmp, 1) := by decide +kernel
theorem d3_29 : decode prog_18_method_3_code 29 = .ok (.ifCond .le 41, 3) := by decide +kernel
theorem d3_32 : decode prog_18_method_3_code 32 = .ok (.aload_n 0, 1) := by decide +kernel
theorem d3_33 : decode prog_18_method_3_code 33 = .ok (.getfield 11, 3) := by decide +kernel
theorem d3_36 : decode prog_18_method_3_code 36 = .ok (.iload 9, 2) := by decide +kernel
theorem d3_38 : decode prog_18_method_3_code 38 = .ok (.aload_n 0, 1) := by decide +kernel
theorem d3_39 : decode prog_18_method_3_code 39 = .ok (.getfield 11, 3) := by decide +kernel
theorem d3_42 : decode prog_18_method_3_code 42 = .ok (.iload 9, 2) := by decide +kernel
theorem d3_44 : decode prog_18_method_3_code 44 = .ok (.iconst 1, 1) := by decide +kernel
theorem d3_45 : decode prog_18_method_3_code 45 = .ok (.isub, 1) := by decide +kernel
theorem d3_46 : decode prog_18_method_3_code 46 = .ok (.laload, 1) := by decide +kernel
theorem d3_47 : decode prog_18_method_3_code 47 = .ok (.lastore, 1) := by decide +kernel
theorem d3_48 : decode prog_18_method_3_code 48 = .ok (.aload_n 0, 1) := by decide +kernel
theorem d3_49 : decode prog_18_method_3_code 49 = .ok (.getfield 15, 3) := by decide +kernel
theorem d3_52 : decode prog_18_method_3_code 52 = .ok (.iload 9, 2) := by decide +kernel
theorem d3_54 : decode prog_18_method_3_code 54 = .ok (.aload_n 0, 1) := by decide +kernel
theorem d3_55 : decode prog_18_method_3_code 55 = .ok (.getfield 15, 3) := by decide +kernel
theorem d3_58 : decode prog_18_method_3_code 58 = .ok (.iload 9, 2) := by decide +kernel
theorem d3_60 : decode prog_18_method_3_code 60 = .ok (.iconst 1, 1) := by decide +kernel
theorem d3_61 : decode prog_18_method_3_code 61 = .ok (.isub, 1) := by decide +kernel
theorem d3_62 : decode prog_18_method_3_code 62 = .ok (.laload, 1) := by decide +kernel
theorem d3_63 : decode prog_18_method_3_code 63 = .ok (.lastore, 1) := by decide +kernel
theorem d3_64 : decode prog_18_method_3_code 64 = .ok (.iinc 9 (-1), 3) := by decide +kernel
theorem d3_67 : decode prog_18_method_3_code 67 = .ok (.goto (-54), 3) := by decide +kernel
theorem d3_111 : decode prog_18_method_3_code 111 = .ok (.aload_n 0, 1) := by decide +kernel
theorem d3_112 : decode prog_18_method_3_code 112 = .ok (.getfield 11, 3) := by decide +kernel
theorem d3_115 : decode prog_18_method_3_code 115 = .ok (.iload 11, 2) := by decide +kernel
theorem d3_117 : decode prog_18_method_3_code 117 = .ok (.laload, 1) := by decide +kernel
theorem d3_118 : decode prog_18_method_3_code 118 = .ok (.aload_n 0, 1) := by decide +kernel
theorem d3_119 : decode prog_18_method_3_code 119 = .ok (.getfield 15, 3) := by decide +kernel
theorem d3_122 : decode prog_18_method_3_code 122 = .ok (.iload 10, 2) := by decide +kernel
theorem d3_124 : decode prog_18_method_3_code 124 = .ok (.laload, 1) := by decide +kernel
theorem d3_125 : decode prog_18_method_3_code 125 = .ok (.lconst 1, 1) := by decide +kernel
theorem d3_126 : decode prog_18_method_3_code 126 = .ok (.ladd, 1) := by decide +kernel
theorem d3_127 : decode prog_18_method_3_code 127 = .ok (.lcmp, 1) := by decide +kernel
theorem d3_128 : decode prog_18_method_3_code 128 = .ok (.ifCond .gt 30, 3) := by decide +kernel
theorem d3_131 : decode prog_18_method_3_code 131 = .ok (.aload_n 0, 1) := by decide +kernel
theorem d3_132 : decode prog_18_method_3_code 132 = .ok (.getfield 15, 3) := by decide +kernel
theorem d3_135 : decode prog_18_method_3_code 135 = .ok (.iload 10, 2) := by decide +kernel
theorem d3_137 : decode prog_18_method_3_code 137 = .ok (.aload_n 0, 1) := by decide +kernel
theorem d3_138 : decode prog_18_method_3_code 138 = .ok (.getfield 15, 3) := by decide +kernel
theorem d3_141 : decode prog_18_method_3_code 141 = .ok (.iload 10, 2) := by decide +kernel
theorem d3_143 : decode prog_18_method_3_code 143 = .ok (.laload, 1) := by decide +kernel
theorem d3_144 : decode prog_18_method_3_code 144 = .ok (.aload_n 0, 1) := by decide +kernel
theorem d3_145 : decode prog_18_method_3_code 145 = .ok (.getfield 15, 3) := by decide +kernel
theorem d3_148 : decode prog_18_method_3_code 148 = .ok (.iload 11, 2) := by decide +kernel
theorem d3_150 : decode prog_18_method_3_code 150 = .ok (.laload, 1) := by decide +kernel
theorem d3_151 : decode prog_18_method_3_code 151 = .ok (.invokestatic 22, 3) := by decide +kernel
theorem d3_154 : decode prog_18_method_3_code 154 = .ok (.lastore, 1) := by decide +kernel
theorem d3_155 : decode prog_18_method_3_code 155 = .ok (.goto 34, 3) := by decide +kernel
theorem d3_158 : decode prog_18_method_3_code 158 = .ok (.iinc 10 1, 3) := by decide +kernel
theorem d3_161 : decode prog_18_method_3_code 161 = .ok (.aload_n 0, 1) := by decide +kernel
theorem d3_162 : decode prog_18_method_3_code 162 = .ok (.getfield 11, 3) := by decide +kernel
theorem d3_165 : decode prog_18_method_3_code 165 = .ok (.iload 10, 2) := by decide +kernel
theorem d3_167 : decode prog_18_method_3_code 167 = .ok (.aload_n 0, 1) := by decide +kernel
theorem d3_168 : decode prog_18_method_3_code 168 = .ok (.getfield 11, 3) := by decide +kernel
theorem d3_171 : decode prog_18_method_3_code 171 = .ok (.iload 11, 2) := by decide +kernel
theorem d3_173 : decode prog_18_method_3_code 173 = .ok (.laload, 1) := by decide +kernel
theorem d3_174 : decode prog_18_method_3_code 174 = .ok (.lastore, 1) := by decide +kernel
theorem d3_175 : decode prog_18_method_3_code 175 = .ok (.aload_n 0, 1) := by decide +kernel
theorem d3_176 : decode prog_18_method_3_code 176 = .ok (.getfield 15, 3) := by decide +kernel
theorem d3_179 : decode prog_18_method_3_code 179 = .ok (.iload 10, 2) := by decide +kernel
theorem d3_181 : decode prog_18_method_3_code 181 = .ok (.aload_n 0, 1) := by decide +kernel
theorem d3_182 : decode prog_18_method_3_code 182 = .ok (.getfield 15, 3) := by decide +kernel
theorem d3_185 : decode prog_18_method_3_code 185 = .ok (.iload 11, 2) := by decide +kernel
theorem d3_187 : decode prog_18_method_3_code 187 = .ok (.laload, 1) := by decide +kernel
theorem d3_188 : decode prog_18_method_3_code 188 = .ok (.lastore, 1) := by decide +kernel
theorem d3_189 : decode prog_18_method_3_code 189 = .ok (.iinc 11 1, 3) := by decide +kernel
theorem d3_192 : decode prog_18_method_3_code 192 = .ok (.goto (-90), 3) := by decide +kernel
theorem ef_rmAdd1 (m : MethodId) (x0 : Addr) (x1 : Int64) (x2 : Int64) (x3 : Int64) (x4 : Int64) : entryFrame m #[(.ref x0), (.long x1), (.long x2), (.long x3), (.long x4)] 15 = mkF m 0 #[.val (.ref x0), .val (.long x1), .second, .val (.long x2), .second, .val (.long x3), .second, .val (.long x4), .second, .unset, .unset, .unset, .unset, .unset, .unset] [] := by first | (simp [entryFrame, mkF, argsToLocals, Value.category]; done) | rfl
set_option maxRecDepth 65536 in
set_option maxHeartbeats 40000000 in
theorem rmAdd1 {l : Launch} {Z : State} {a0 : Array Value} (hw : ∀ d ∈ tables_1, d.before a0 Z = true) (a : Addr) (q1 q2 q3 q4 : Int64) (x y : Addr) (f g : Nat → Int64) (h0 : Heap) (n0 : Nat) (g_a : n0 ≤ a) (g_x : n0 ≤ x) (g_y : n0 ≤ y) (ne_a_x : a ≠ x) (ne_a_y : a ≠ y) (ne_x_y : x ≠ y) (E_a : Exa Z h0 a "com/example/credence/credence/oauth1/SpentRanges") (F_firsts_a : Fld Z h0 a "com/example/credence/credence/oauth1/SpentRanges" "firsts" "[J" (.ref x)) (F_lasts_a : Fld Z h0 a "com/example/credence/credence/oauth1/SpentRanges" "lasts" "[J" (.ref y)) (F_count_a : Fld Z h0 a "com/example/credence/credence/oauth1/SpentRanges" "count" "I" (.int (1 : Int32))) (V_x : AV Z h0 x .long 3 (fun j => .long (f j))) (V_y : AV Z h0 y .long 3 (fun j => .long (g j))) :
    Met l Z (⟨"com/example/credence/credence/oauth1/SpentRanges", "add", "(JJJJ)V"⟩ : MethodName) prog_18_method_3_code 15 none [] ({ frames := 1, cells := 0, slots := 0, locals := 18 } : Room) #[(.ref a), (.long q1), (.long q2), (.long q3), (.long q4)] h0 (fun v h L => v = none ∧ Fr n0 L ∧ Keep h0 h [a, x, y] ∧ Rg Z h a x y (own_add [(f 0, g 0)] q1 q2)) := by
  refine Met.mk pn3 ?_
  intro p e s m below meth c T hx hby hml hown hnm hret hlk hZ X eT
  refine Go.cast (ef_rmAdd1 m a q1 q2 q3 q4) ?_
  have N := Fr.nil n0
  have K := Keep.refl h0 [a, x, y]
  show Go p e below s _ _ T (mkF m 0 #[.val (.ref a), .val (.long q1), .second, .val (.long q2), .second, .val (.long q3), .second, .val (.long q4), .second, .unset, .unset, .unset, .unset, .unset, .unset] [])
  refine Go.of (fun _ kq => XS.lloadN X.here hx rfl (hb hby d3_0) rfl kq) ?_
  show Go p e below s _ _ T (mkF m 1 #[.val (.ref a), .val (.long q1), .second, .val (.long q2), .second, .val (.long q3), .second, .val (.long q4), .second, .unset, .unset, .unset, .unset, .unset, .unset] [(.long q1)])
  refine Go.of (fun _ kq => XS.lloadN X.here hx rfl (hb hby d3_1) rfl kq) ?_
  show Go p e below s _ _ T (mkF m 2 #[.val (.ref a), .val (.long q1), .second, .val (.long q2), .second, .val (.long q3), .second, .val (.long q4), .second, .unset, .unset, .unset, .unset, .unset, .unset] [(.long q2), (.long q1)])
  refine Go.of (fun _ kq => XS.lcmp X.here hx rfl (hb hby d3_2) rfl kq) ?_
  show Go p e below s _ _ T (mkF m 3 #[.val (.ref a), .val (.long q1), .second, .val (.long q2), .second, .val (.long q3), .second, .val (.long q4), .second, .unset, .unset, .unset, .unset, .unset, .unset] [(.int (lcmpW q1 q2))])
  by_cases hc3 : q2 < q1
  · refine Go.of (fun _ kq => XS.ifNo X.here hx rfl (hb hby d3_3) rfl (cZgt hc3).2 kq) ?_
    show Go p e below s _ _ T (mkF m 6 #[.val (.ref a), .val (.long q1), .second, .val (.long q2), .second, .val (.long q3), .second, .val (.long q4), .second, .unset, .unset, .unset, .unset, .unset, .unset] [])
    refine Go.retV X hx hret hlk (hb hby d3_6) (by decide) (by decide) ?_
    try rw [eT]
    exact ⟨rfl, N, K, by unfold own_add; rw [if_pos hc3]; exact ⟨F_firsts_a, F_lasts_a, F_count_a, f, g, V_x, V_y, rfl, rfl⟩⟩
  · refine Go.of (fun _ kq => XS.ifYes X.here hx rfl (pc0 := 3) (pc' := 7) rfl (hb hby d3_3) rfl (cFgt hc3).2 (by decide) (by decide) kq) ?_
    show Go p e below s _ _ T (mkF m 7 #[.val (.ref a), .val (.long q1), .second, .val (.long q2), .second, .val (.long q3), .second, .val (.long q4), .second, .unset, .unset, .unset, .unset, .unset, .unset] [])
    refine Go.of (fun _ kq => XS.aloadN X.here hx rfl (hb hby d3_7) rfl rfl kq) ?_
    show Go p e below s _ _ T (mkF m 8 #[.val (.ref a), .val (.long q1), .second, .val (.long q2), .second, .val (.long q3), .second, .val (.long q4), .second, .unset, .unset, .unset, .unset, .unset, .unset] [(.ref a)])
    refine Go.getF X hx hZ hown (hw _ (List.mem_of_getElem? (i := 19) rfl)) Via.refl eT F_count_a (hb hby d3_8) ?_
    intro T X eT
    show Go p e below s _ _ T (mkF m 11 #[.val (.ref a), .val (.long q1), .second, .val (.long q2), .second, .val (.long q3), .second, .val (.long q4), .second, .unset, .unset, .unset, .unset, .unset, .unset] [(.int (1 : Int32))])
    refine Go.of (fun _ kq => XS.istore X.here hx rfl (hb hby d3_11) rfl (l' := #[.val (.ref a), .val (.long q1), .second, .val (.long q2), .second, .val (.long q3), .second, .val (.long q4), .second, .val (.int (1 : Int32)), .unset, .unset, .unset, .unset, .unset]) rfl kq) ?_
    show Go p e below s _ _ T (mkF m 13 #[.val (.ref a), .val (.long q1), .second, .val (.long q2), .second, .val (.long q3), .second, .val (.long q4), .second, .val (.int (1 : Int32)), .unset, .unset, .unset, .unset, .unset] [])
    refine Go.of (fun _ kq => XS.iload X.here hx rfl (hb hby d3_13) rfl kq) ?_
    show Go p e below s _ _ T (mkF m 15 #[.val (.ref a), .val (.long q1), .second, .val (.long q2), .second, .val (.long q3), .second, .val (.long q4), .second, .val (.int (1 : Int32)), .unset, .unset, .unset, .unset, .unset] [(.int (1 : Int32))])
    refine Go.of (fun _ kq => XS.ifNo X.here hx rfl (hb hby d3_15) rfl ((if0 _ _).trans (tlt (by decide)).2.2.2) kq) ?_
    show Go p e below s _ _ T (mkF m 18 #[.val (.ref a), .val (.long q1), .second, .val (.long q2), .second, .val (.long q3), .second, .val (.long q4), .second, .val (.int (1 : Int32)), .unset, .unset, .unset, .unset, .unset] [])
    refine Go.of (fun _ kq => XS.aloadN X.here hx rfl (hb hby d3_18) rfl rfl kq) ?_
    show Go p e below s _ _ T (mkF m 19 #[.val (.ref a), .val (.long q1), .second, .val (.long q2), .second, .val (.long q3), .second, .val (.long q4), .second, .val (.int (1 : Int32)), .unset, .unset, .unset, .unset, .unset] [(.ref a)])
    refine Go.getF X hx hZ hown (hw _ (List.mem_of_getElem? (i := 10) rfl)) Via.refl eT F_firsts_a (hb hby d3_19) ?_
    intro T X eT
    show Go p e below s _ _ T (mkF m 22 #[.val (.ref a), .val (.long q1), .second, .val (.long q2), .second, .val (.long q3), .second, .val (.long q4), .second, .val (.int (1 : Int32)), .unset, .unset, .unset, .unset, .unset] [(.ref x)])
    refine Go.of (fun _ kq => XS.iload X.here hx rfl (hb hby d3_22) rfl kq) ?_
    show Go p e below s _ _ T (mkF m 24 #[.val (.ref a), .val (.long q1), .second, .val (.long q2), .second, .val (.long q3), .second, .val (.long q4), .second, .val (.int (1 : Int32)), .unset, .unset, .unset, .unset, .unset] [(.int (1 : Int32)), (.ref x)])
    refine Go.of (fun _ kq => XS.iconst X.here hx rfl (hb hby d3_24) kq) ?_
    show Go p e below s _ _ T (mkF m 25 #[.val (.ref a), .val (.long q1), .second, .val (.long q2), .second, .val (.long q3), .second, .val (.long q4), .second, .val (.int (1 : Int32)), .unset, .unset, .unset, .unset, .unset] [(.int (1 : Int32)), (.int (1 : Int32)), (.ref x)])
    refine Go.of (fun _ kq => XS.isub X.here hx rfl (hb hby d3_25) rfl kq) ?_
    show Go p e below s _ _ T (mkF m 26 #[.val (.ref a), .val (.long q1), .second, .val (.long q2), .second, .val (.long q3), .second, .val (.long q4), .second, .val (.int (1 : Int32)), .unset, .unset, .unset, .unset, .unset] [(.int (0 : Int32)), (.ref x)])
    refine Go.ldJ (.long (f 0)) X hx hZ eT V_x (show Inb (0 : Int32) 3 from ⟨by decide, by decide⟩) rfl (hb hby d3_26) ?_
    show Go p e below s _ _ T (mkF m 27 #[.val (.ref a), .val (.long q1), .second, .val (.long q2), .second, .val (.long q3), .second, .val (.long q4), .second, .val (.int (1 : Int32)), .unset, .unset, .unset, .unset, .unset] [(.long (f 0))])
    refine Go.of (fun _ kq => XS.lloadN X.here hx rfl (hb hby d3_27) rfl kq) ?_
    show Go p e below s _ _ T (mkF m 28 #[.val (.ref a), .val (.long q1), .second, .val (.long q2), .second, .val (.long q3), .second, .val (.long q4), .second, .val (.int (1 : Int32)), .unset, .unset, .unset, .unset, .unset] [(.long q1), (.long (f 0))])
    refine Go.of (fun _ kq => XS.lcmp X.here hx rfl (hb hby d3_28) rfl kq) ?_
    show Go p e below s _ _ T (mkF m 29 #[.val (.ref a), .val (.long q1), .second, .val (.long q2), .second, .val (.long q3), .second, .val (.long q4), .second, .val (.int (1 : Int32)), .unset, .unset, .unset, .unset, .unset] [(.int (lcmpW (f 0) q1))])
    by_cases hc29 : q1 < (f 0)
    · refine Go.of (fun _ kq => XS.ifNo X.here hx rfl (hb hby d3_29) rfl (cZgt hc29).2 kq) ?_
      show Go p e below s _ _ T (mkF m 32 #[.val (.ref a), .val (.long q1), .second, .val (.long q2), .second, .val (.long q3), .second, .val (.long q4), .second, .val (.int (1 : Int32)), .unset, .unset, .unset, .unset, .unset] [])
      refine Go.of (fun _ kq => XS.aloadN X.here hx rfl (hb hby d3_32) rfl rfl kq) ?_
      show Go p e below s _ _ T (mkF m 33 #[.val (.ref a), .val (.long q1), .second, .val (.long q2), .second, .val (.long q3), .second, .val (.long q4), .second, .val (.int (1 : Int32)), .unset, .unset, .unset, .unset, .unset] [(.ref a)])
      refine Go.getF X hx hZ hown (hw _ (List.mem_of_getElem? (i := 10) rfl)) Via.refl eT F_firsts_a (hb hby d3_33) ?_
      intro T X eT
      show Go p e below s _ _ T (mkF m 36 #[.val (.ref a), .val (.long q1), .second, .val (.long q2), .second, .val (.long q3), .second, .val (.long q4), .second, .val (.int (1 : Int32)), .unset, .unset, .unset, .unset, .unset] [(.ref x)])
      refine Go.of (fun _ kq => XS.iload X.here hx rfl (hb hby d3_36) rfl kq) ?_
      show Go p e below s _ _ T (mkF m 38 #[.val (.ref a), .val (.long q1), .second, .val (.long q2), .second, .val (.long q3), .second, .val (.long q4), .second, .val (.int (1 : Int32)), .unset, .unset, .unset, .unset, .unset] [(.int (1 : Int32)), (.ref x)])
      refine Go.of (fun _ kq => XS.aloadN X.here hx rfl (hb hby d3_38) rfl rfl kq) ?_
      show Go p e below s _ _ T (mkF m 39 #[.val (.ref a), .val (.long q1), .second, .val (.long q2), .second, .val (.long q3), .second, .val (.long q4), .second, .val (.int (1 : Int32)), .unset, .unset, .unset, .unset, .unset] [(.ref a), (.int (1 : Int32)), (.ref x)])
      refine Go.getF X hx hZ hown (hw _ (List.mem_of_getElem? (i := 10) rfl)) Via.refl eT F_firsts_a (hb hby d3_39) ?_
      intro T X eT
      show Go p e below s _ _ T (mkF m 42 #[.val (.ref a), .val (.long q1), .second, .val (.long q2), .second, .val (.long q3), .second, .val (.long q4), .second, .val (.int (1 : Int32)), .unset, .unset, .unset, .unset, .unset] [(.ref x), (.int (1 : Int32)), (.ref x)])
      refine Go.of (fun _ kq => XS.iload X.here hx rfl (hb hby d3_42) rfl kq) ?_
      show Go p e below s _ _ T (mkF m 44 #[.val (.ref a), .val (.long q1), .second, .val (.long q2), .second, .val (.long q3), .second, .val (.long q4), .second, .val (.int (1 : Int32)), .unset, .unset, .unset, .unset, .unset] [(.int (1 : Int32)), (.ref x), (.int (1 : Int32)), (.ref x)])
      refine Go.of (fun _ kq => XS.iconst X.here hx rfl (hb hby d3_44) kq) ?_
      show Go p e below s _ _ T (mkF m 45 #[.val (.ref a), .val (.long q1), .second, .val (.long q2), .second, .val (.long q3), .second, .val (.long q4), .second, .val (.int (1 : Int32)), .unset, .unset, .unset, .unset, .unset] [(.int (1 : Int32)), (.int (1 : Int32)), (.ref x), (.int (1 : Int32)), (.ref x)])
      refine Go.of (fun _ kq => XS.isub X.here hx rfl (hb hby d3_45) rfl kq) ?_
      show Go p e below s _ _ T (mkF m 46 #[.val (.ref a), .val (.long q1), .second, .val (.long q2), .second, .val (.long q3), .second, .val (.long q4), .second, .val (.int (1 : Int32)), .unset, .unset, .unset, .unset, .unset] [(.int (0 : Int32)), (.ref x), (.int (1 : Int32)), (.ref x)])
      refine Go.ldJ (.long (f 0)) X hx hZ eT V_x (show Inb (0 : Int32) 3 from ⟨by decide, by decide⟩) rfl (hb hby d3_46) ?_
      show Go p e below s _ _ T (mkF m 47 #[.val (.ref a), .val (.long q1), .second, .val (.long q2), .second, .val (.long q3), .second, .val (.long q4), .second, .val (.int (1 : Int32)), .unset, .unset, .unset, .unset, .unset] [(.long (f 0)), (.int (1 : Int32)), (.ref x)])
      have hin : Inb (1 : Int32) 3 := ⟨by decide, by decide⟩
      refine Go.stJ X hx hZ eT V_x hin (hb hby d3_47) ?_
      intro T h X eT wr
      have N := Fr.snoc X N g_x
      have K := K.wr wr (Or.inl (List.mem_of_getElem? (i := 1) rfl))
      have E_a := E_a.wr wr
      have F_firsts_a := F_firsts_a.other wr (Or.inl ne_a_x)
      have F_lasts_a := F_lasts_a.other wr (Or.inl ne_a_x)
      have F_count_a := F_count_a.other wr (Or.inl ne_a_x)
      have V_x : AV Z h x .long 3 (fun j => .long ((updJ f 1 (f 0)) j)) := V_x.setJ wr hin.2
      have V_y := V_y.other wr (Ne.symm ne_x_y)
      show Go p e below s _ _ T (mkF m 48 #[.val (.ref a), .val (.long q1), .second, .val (.long q2), .second, .val (.long q3), .second, .val (.long q4), .second, .val (.int (1 : Int32)), .unset, .unset, .unset, .unset, .unset] [])
      refine Go.of (fun _ kq => XS.aloadN X.here hx rfl (hb hby d3_48) rfl rfl kq) ?_
      show Go p e below s _ _ T (mkF m 49 #[.val (.ref a), .val (.long q1), .second, .val (.long q2), .second, .val (.long q3), .second, .val (.long q4), .second, .val (.int (1 : Int32)), .unset, .unset, .unset, .unset, .unset] [(.ref a)])
      refine Go.getF X hx hZ hown (hw _ (List.mem_of_getElem? (i := 12) rfl)) Via.refl eT F_lasts_a (hb hby d3_49) ?_
      intro T X eT
      show Go p e below s _ _ T (mkF m 52 #[.val (.ref a), .val (.long q1), .second, .val (.long q2), .second, .val (.long q3), .second, .val (.long q4), .second, .val (.int (1 : Int32)), .unset, .unset, .unset, .unset, .unset] [(.ref y)])
      refine Go.of (fun _ kq => XS.iload X.here hx rfl (hb hby d3_52) rfl kq) ?_
      show Go p e below s _ _ T (mkF m 54 #[.val (.ref a), .val (.long q1), .second, .val (.long q2), .second, .val (.long q3), .second, .val (.long q4), .second, .val (.int (1 : Int32)), .unset, .unset, .unset, .unset, .unset] [(.int (1 : Int32)), (.ref y)])
      refine Go.of (fun _ kq => XS.aloadN X.here hx rfl (hb hby d3_54) rfl rfl kq) ?_
      show Go p e below s _ _ T (mkF m 55 #[.val (.ref a), .val (.long q1), .second, .val (.long q2), .second, .val (.long q3), .second, .val (.long q4), .second, .val (.int (1 : Int32)), .unset, .unset, .unset, .unset, .unset] [(.ref a), (.int (1 : Int32)), (.ref y)])
      refine Go.getF X hx hZ hown (hw _ (List.mem_of_getElem? (i := 12) rfl)) Via.refl eT F_lasts_a (hb hby d3_55) ?_
      intro T X eT
      show Go p e below s _ _ T (mkF m 58 #[.val (.ref a), .val (.long q1), .second, .val (.long q2), .second, .val (.long q3), .second, .val (.long q4), .second, .val (.int (1 : Int32)), .unset, .unset, .unset, .unset, .unset] [(.ref y), (.int (1 : Int32)), (.ref y)])
      refine Go.of (fun _ kq => XS.iload X.here hx rfl (hb hby d3_58) rfl kq) ?_
      show Go p e below s _ _ T (mkF m 60 #[.val (.ref a), .val (.long q1), .second, .val (.long q2), .second, .val (.long q3), .second, .val (.long q4), .second, .val (.int (1 : Int32)), .unset, .unset, .unset, .unset, .unset] [(.int (1 : Int32)), (.ref y), (.int (1 : Int32)), (.ref y)])
      refine Go.of (fun _ kq => XS.iconst X.here hx rfl (hb hby d3_60) kq) ?_
      show Go p e below s _ _ T (mkF m 61 #[.val (.ref a), .val (.long q1), .second, .val (.long q2), .second, .val (.long q3), .second, .val (.long q4), .second, .val (.int (1 : Int32)), .unset, .unset, .unset, .unset, .unset] [(.int (1 : Int32)), (.int (1 : Int32)), (.ref y), (.int (1 : Int32)), (.ref y)])
      refine Go.of (fun _ kq => XS.isub X.here hx rfl (hb hby d3_61) rfl kq) ?_
      show Go p e below s _ _ T (mkF m 62 #[.val (.ref a), .val (.long q1), .second, .val (.long q2), .second, .val (.long q3), .second, .val (.long q4), .second, .val (.int (1 : Int32)), .unset, .unset, .unset, .unset, .unset] [(.int (0 : Int32)), (.ref y), (.int (1 : Int32)), (.ref y)])
      refine Go.ldJ (.long (g 0)) X hx hZ eT V_y (show Inb (0 : Int32) 3 from ⟨by decide, by decide⟩) rfl (hb hby d3_62) ?_
      show Go p e below s _ _ T (mkF m 63 #[.val (.ref a), .val (.long q1), .second, .val (.long q2), .second, .val (.long q3), .second, .val (.long q4), .second, .val (.int (1 : Int32)), .unset, .unset, .unset, .unset, .unset] [(.long (g 0)), (.int (1 : Int32)), (.ref y)])
      have hin : Inb (1 : Int32) 3 := ⟨by decide, by decide⟩
      refine Go.stJ X hx hZ eT V_y hin (hb hby d3_63) ?_
      intro T h X eT wr
      have N := Fr.snoc X N g_y
      have K := K.wr wr (Or.inl (List.mem_of_getElem? (i := 2) rfl))
      have E_a := E_a.wr wr
      have F_firsts_a := F_firsts_a.other wr (Or.inl ne_a_y)
      have F_lasts_a := F_lasts_a.other wr (Or.inl ne_a_y)
      have F_count_a := F_count_a.other wr (Or.inl ne_a_y)
      have V_x := V_x.other wr ne_x_y
      have V_y : AV Z h y .long 3 (fun j => .long ((updJ g 1 (g 0)) j)) := V_y.setJ wr hin.2
      show Go p e below s _ _ T (mkF m 64 #[.val (.ref a), .val (.long q1), .second, .val (.long q2), .second, .val (.long q3), .second, .val (.long q4), .second, .val (.int (1 : Int32)), .unset, .unset, .unset, .unset, .unset] [])
      refine Go.of (fun _ kq => XS.iinc X.here hx rfl (hb hby d3_64) rfl (l' := #[.val (.ref a), .val (.long q1), .second, .val (.long q2), .second, .val (.long q3), .second, .val (.long q4), .second, .val (.int (0 : Int32)), .unset, .unset, .unset, .unset, .unset]) rfl kq) ?_
      show Go p e below s _ _ T (mkF m 67 #[.val (.ref a), .val (.long q1), .second, .val (.long q2), .second, .val (.long q3), .second, .val (.long q4), .second, .val (.int (0 : Int32)), .unset, .unset, .unset, .unset, .unset] [])
      refine Go.of (fun _ kq => XS.goto X.here hx rfl (pc0 := 67) (pc' := 13) rfl (hb hby d3_67) (by decide) (by decide) kq) ?_
      show Go p e below s _ _ T (mkF m 13 #[.val (.ref a), .val (.long q1), .second, .val (.long q2), .second, .val (.long q3), .second, .val (.long q4), .second, .val (.int (0 : Int32)), .unset, .unset, .unset, .unset, .unset] [])
      refine Go.of (fun _ kq => XS.iload X.here hx rfl (hb hby d3_13) rfl kq) ?_
      show Go p e below s _ _ T (mkF m 15 #[.val (.ref a), .val (.long q1), .second, .val (.long q2), .second, .val (.long q3), .second, .val (.long q4), .second, .val (.int (0 : Int32)), .unset, .unset, .unset, .unset, .unset] [(.int (0 : Int32))])
      refine Go.of (fun _ kq => XS.ifYes X.here hx rfl (pc0 := 15) (pc' := 70) rfl (hb hby d3_15) rfl ((if0 _ _).trans (flt (by decide)).2.2.2) (by decide) (by decide) kq) ?_
      show Go p e below s _ _ T (mkF m 70 #[.val (.ref a), .val (.long q1), .second, .val (.long q2), .second, .val (.long q3), .second, .val (.long q4), .second, .val (.int (0 : Int32)), .unset, .unset, .unset, .unset, .unset] [])
      refine Go.of (fun _ kq => XS.aloadN X.here hx rfl (hb hby d3_70) rfl rfl kq) ?_
      show Go p e below s _ _ T (mkF m 71 #[.val (.ref a), .val (.long q1), .second, .val (.long q2), .second, .val (.long q3), .second, .val (.long q4), .second, .val (.int (0 : Int32)), .unset, .unset, .unset, .unset, .unset] [(.ref a)])
      refine Go.getF X hx hZ hown (hw _ (List.mem_of_getElem? (i := 10) rfl)) Via.refl eT F_firsts_a (hb hby d3_71) ?_
      intro T X eT
      show Go p e below s _ _ T (mkF m 74 #[.val (.ref a), .val (.long q1), .second, .val (.long q2), .second, .val (.long q3), .second, .val (.long q4), .second, .val (.int (0 : Int32)), .unset, .unset, .unset, .unset, .unset] [(.ref x)])
      refine Go.of (fun _ kq => XS.iload X.here hx rfl (hb hby d3_74) rfl kq) ?_
      show Go p e below s _ _ T (mkF m 76 #[.val (.ref a), .val (.long q1), .second, .val (.long q2), .second, .val (.long q3), .second, .val (.long q4), .second, .val (.int (0 : Int32)), .unset, .unset, .unset, .unset, .unset] [(.int (0 : Int32)), (.ref x)])
      refine Go.of (fun _ kq => XS.lloadN X.here hx rfl (hb hby d3_76) rfl kq) ?_
      show Go p e below s _ _ T (mkF m 77 #[.val (.ref a), .val (.long q1), .second, .val (.long q2), .second, .val (.long q3), .second, .val (.long q4), .second, .val (.int (0 : Int32)), .unset, .unset, .unset, .unset, .unset] [(.long q1), (.int (0 : Int32)), (.ref x)])
      have hin : Inb (0 : Int32) 3 := ⟨by decide, by decide⟩
      refine Go.stJ X hx hZ eT V_x hin (hb hby d3_77) ?_
      intro T h X eT wr
      have N := Fr.snoc X N g_x
      have K := K.wr wr (Or.inl (List.mem_of_getElem? (i := 1) rfl))
      have E_a := E_a.wr wr
      have F_firsts_a := F_firsts_a.other wr (Or.inl ne_a_x)
      have F_lasts_a := F_lasts_a.other wr (Or.inl ne_a_x)
      have F_count_a := F_count_a.other wr (Or.inl ne_a_x)
      have V_x : AV Z h x .long 3 (fun j => .long ((updJ (updJ f 1 (f 0)) 0 q1) j)) := V_x.setJ wr hin.2
      have V_y := V_y.other wr (Ne.symm ne_x_y)
      show Go p e below s _ _ T (mkF m 78 #[.val (.ref a), .val (.long q1), .second, .val (.long q2), .second, .val (.long q3), .second, .val (.long q4), .second, .val (.int (0 : Int32)), .unset, .unset, .unset, .unset, .unset] [])
      refine Go.of (fun _ kq => XS.aloadN X.here hx rfl (hb hby d3_78) rfl rfl kq) ?_
      show Go p e below s _ _ T (mkF m 79 #[.val (.ref a), .val (.long q1), .second, .val (.long q2), .second, .val (.long q3), .second, .val (.long q4), .second, .val (.int (0 : Int32)), .unset, .unset, .unset, .unset, .unset] [(.ref a)])
      refine Go.getF X hx hZ hown (hw _ (List.mem_of_getElem? (i := 12) rfl)) Via.refl eT F_lasts_a (hb hby d3_79) ?_
      intro T X eT
      show Go p e below s _ _ T (mkF m 82 #[.val (.ref a), .val (.long q1), .second, .val (.long q2), .second, .val (.long q3), .second, .val (.long q4), .second, .val (.int (0 : Int32)), .unset, .unset, .unset, .unset, .unset] [(.ref y)])
      refine Go.of (fun _ kq => XS.iload X.here hx rfl (hb hby d3_82) rfl kq) ?_
      show Go p e below s _ _ T (mkF m 84 #[.val (.ref a), .val (.long q1), .second, .val (.long q2), .second, .val (.long q3), .second, .val (.long q4), .second, .val (.int (0 : Int32)), .unset, .unset, .unset, .unset, .unset] [(.int (0 : Int32)), (.ref y)])
      refine Go.of (fun _ kq => XS.lloadN X.here hx rfl (hb hby d3_84) rfl kq) ?_
      show Go p e below s _ _ T (mkF m 85 #[.val (.ref a), .val (.long q1), .second, .val (.long q2), .second, .val (.long q3), .second, .val (.long q4), .second, .val (.int (0 : Int32)), .unset, .unset, .unset, .unset, .unset] [(.long q2), (.int (0 : Int32)), (.ref y)])
      have hin : Inb (0 : Int32) 3 := ⟨by decide, by decide⟩
      refine Go.stJ X hx hZ eT V_y hin (hb hby d3_85) ?_
      intro T h X eT wr
      have N := Fr.snoc X N g_y
      have K := K.wr wr (Or.inl (List.mem_of_getElem? (i := 2) rfl))
      have E_a := E_a.wr wr
      have F_firsts_a := F_firsts_a.other wr (Or.inl ne_a_y)
      have F_lasts_a := F_lasts_a.other wr (Or.inl ne_a_y)
      have F_count_a := F_count_a.other wr (Or.inl ne_a_y)
      have V_x := V_x.other wr ne_x_y
      have V_y : AV Z h y .long 3 (fun j => .long ((updJ (updJ g 1 (g 0)) 0 q2) j)) := V_y.setJ wr hin.2
      show Go p e below s _ _ T (mkF m 86 #[.val (.ref a), .val (.long q1), .second, .val (.long q2), .second, .val (.long q3), .second, .val (.long q4), .second, .val (.int (0 : Int32)), .unset, .unset, .unset, .unset, .unset] [])
      refine Go.of (fun _ kq => XS.aloadN X.here hx rfl (hb hby d3_86) rfl rfl kq) ?_
      show Go p e below s _ _ T (mkF m 87 #[.val (.ref a), .val (.long q1), .second, .val (.long q2), .second, .val (.long q3), .second, .val (.long q4), .second, .val (.int (0 : Int32)), .unset, .unset, .unset, .unset, .unset] [(.ref a)])
      refine Go.of (fun _ kq => XS.dup X.here hx rfl (hb hby d3_87) rfl rfl kq) ?_
      show Go p e below s _ _ T (mkF m 88 #[.val (.ref a), .val (.long q1), .second, .val (.long q2), .second, .val (.long q3), .second, .val (.long q4), .second, .val (.int (0 : Int32)), .unset, .unset, .unset, .unset, .unset] [(.ref a), (.ref a)])
      refine Go.getF X hx hZ hown (hw _ (List.mem_of_getElem? (i := 19) rfl)) Via.refl eT F_count_a (hb hby d3_88) ?_
      intro T X eT
      show Go p e below s _ _ T (mkF m 91 #[.val (.ref a), .val (.long q1), .second, .val (.long q2), .second, .val (.long q3), .second, .val (.long q4), .second, .val (.int (0 : Int32)), .unset, .unset, .unset, .unset, .unset] [(.int (1 : Int32)), (.ref a)])
      refine Go.of (fun _ kq => XS.iconst X.here hx rfl (hb hby d3_91) kq) ?_
      show Go p e below s _ _ T (mkF m 92 #[.val (.ref a), .val (.long q1), .second, .val (.long q2), .second, .val (.long q3), .second, .val (.long q4), .second, .val (.int (0 : Int32)), .unset, .unset, .unset, .unset, .unset] [(.int (1 : Int32)), (.int (1 : Int32)), (.ref a)])
      refine Go.of (fun _ kq => XS.iadd X.here hx rfl (hb hby d3_92) rfl kq) ?_
      show Go p e below s _ _ T (mkF m 93 #[.val (.ref a), .val (.long q1), .second, .val (.long q2), .second, .val (.long q3), .second, .val (.long q4), .second, .val (.int (0 : Int32)), .unset, .unset, .unset, .unset, .unset] [(.int (2 : Int32)), (.ref a)])
      refine Go.putF X hx hZ hown (hw _ (List.mem_of_getElem? (i := 19) rfl)) Via.refl eT F_count_a E_a (Or.inl (hw _ (List.mem_of_getElem? (i := 20) rfl))) (hw _ (List.mem_of_getElem? (i := 1) rfl)) (ty := .int) (by decide) rfl rfl (hb hby d3_93) ?_
      intro T h X eT wr
      have N := Fr.snoc X N g_a
      have K := K.wr wr (Or.inl (List.mem_of_getElem? (i := 0) rfl))
      have E_a := E_a.wr wr
      have F_firsts_a := F_firsts_a.other wr (Or.inr (slot_ne (Or.inr (hw _ (List.mem_of_getElem? (i := 11) rfl))) (Or.inl (hw _ (List.mem_of_getElem? (i := 20) rfl))) (by decide) (t := (.array .long)) (t' := .int) (by decide) (by decide)))
      have F_lasts_a := F_lasts_a.other wr (Or.inr (slot_ne (Or.inr (hw _ (List.mem_of_getElem? (i := 13) rfl))) (Or.inl (hw _ (List.mem_of_getElem? (i := 20) rfl))) (by decide) (t := (.array .long)) (t' := .int) (by decide) (by decide)))
      have F_count_a := F_count_a.same wr
      have V_x := V_x.other wr (Ne.symm ne_a_x)
      have V_y := V_y.other wr (Ne.symm ne_a_y)
      show Go p e below s _ _ T (mkF m 96 #[.val (.ref a), .val (.long q1), .second, .val (.long q2), .second, .val (.long q3), .second, .val (.long q4), .second, .val (.int (0 : Int32)), .unset, .unset, .unset, .unset, .unset] [])
      refine Go.of (fun _ kq => XS.iconst X.here hx rfl (hb hby d3_96) kq) ?_
      show Go p e below s _ _ T (mkF m 97 #[.val (.ref a), .val (.long q1), .second, .val (.long q2), .second, .val (.long q3), .second, .val (.long q4), .second, .val (.int (0 : Int32)), .unset, .unset, .unset, .unset, .unset] [(.int (0 : Int32))])
      refine Go.of (fun _ kq => XS.istore X.here hx rfl (hb hby d3_97) rfl (l' := #[.val (.ref a), .val (.long q1), .second, .val (.long q2), .second, .val (.long q3), .second, .val (.long q4), .second, .val (.int (0 : Int32)), .val (.int (0 : Int32)), .unset, .unset, .unset, .unset]) rfl kq) ?_
      show Go p e below s _ _ T (mkF m 99 #[.val (.ref a), .val (.long q1), .second, .val (.long q2), .second, .val (.long q3), .second, .val (.long q4), .second, .val (.int (0 : Int32)), .val (.int (0 : Int32)), .unset, .unset, .unset, .unset] [])
      refine Go.of (fun _ kq => XS.iconst X.here hx rfl (hb hby d3_99) kq) ?_
      show Go p e below s _ _ T (mkF m 100 #[.val (.ref a), .val (.long q1), .second, .val (.long q2), .second, .val (.long q3), .second, .val (.long q4), .second, .val (.int (0 : Int32)), .val (.int (0 : Int32)), .unset, .unset, .unset, .unset] [(.int (1 : Int32))])
      refine Go.of (fun _ kq => XS.istore X.here hx rfl (hb hby d3_100) rfl (l' := #[.val (.ref a), .val (.long q1), .second, .val (.long q2), .second, .val (.long q3), .second, .val (.long q4), .second, .val (.int (0 : Int32)), .val (.int (0 : Int32)), .val (.int (1 : Int32)), .unset, .unset, .unset]) rfl kq) ?_
      show Go p e below s _ _ T (mkF m 102 #[.val (.ref a), .val (.long q1), .second, .val (.long q2), .second, .val (.long q3), .second, .val (.long q4), .second, .val (.int (0 : Int32)), .val (.int (0 : Int32)), .val (.int (1 : Int32)), .unset, .unset, .unset] [])
      refine Go.of (fun _ kq => XS.iload X.here hx rfl (hb hby d3_102) rfl kq) ?_
      show Go p e below s _ _ T (mkF m 104 #[.val (.ref a), .val (.long q1), .second, .val (.long q2), .second, .val (.long q3), .second, .val (.long q4), .second, .val (.int (0 : Int32)), .val (.int (0 : Int32)), .val (.int (1 : Int32)), .unset, .unset, .unset] [(.int (1 : Int32))])
      refine Go.of (fun _ kq => XS.aloadN X.here hx rfl (hb hby d3_104) rfl rfl kq) ?_
      show Go p e below s _ _ T (mkF m 105 #[.val (.ref a), .val (.long q1), .second, .val (.long q2), .second, .val (.long q3), .second, .val (.long q4), .second, .val (.int (0 : Int32)), .val (.int (0 : Int32)), .val (.int (1 : Int32)), .unset, .unset, .unset] [(.ref a), (.int (1 : Int32))])
      refine Go.getF X hx hZ hown (hw _ (List.mem_of_getElem? (i := 19) rfl)) Via.refl eT F_count_a (hb hby d3_105) ?_
      intro T X eT
      show Go p e below s _ _ T (mkF m 108 #[.val (.ref a), .val (.long q1), .second, .val (.long q2), .second, .val (.long q3), .second, .val (.long q4), .second, .val (.int (0 : Int32)), .val (.int (0 : Int32)), .val (.int (1 : Int32)), .unset, .unset, .unset] [(.int (2 : Int32)), (.int (1 : Int32))])
      refine Go.of (fun _ kq => XS.icmpNo X.here hx rfl (hb hby d3_108) rfl (tlt (by decide)).2.1 kq) ?_
      show Go p e below s _ _ T (mkF m 111 #[.val (.ref a), .val (.long q1), .second, .val (.long q2), .second, .val (.long q3), .second, .val (.long q4), .second, .val (.int (0 : Int32)), .val (.int (0 : Int32)), .val (.int (1 : Int32)), .unset, .unset, .unset] [])
      refine Go.of (fun _ kq => XS.aloadN X.here hx rfl (hb hby d3_111) rfl rfl kq) ?_
      show Go p e below s _ _ T (mkF m 112 #[.val (.ref a), .val (.long q1), .second, .val (.long q2), .second, .val (.long q3), .second, .val (.long q4), .second, .val (.int (0 : Int32)), .val (.int (0 : Int32)), .val (.int (1 : Int32)), .unset, .unset, .unset] [(.ref a)])
      refine Go.getF X hx hZ hown (hw _ (List.mem_of_getElem? (i := 10) rfl)) Via.refl eT F_firsts_a (hb hby d3_112) ?_
      intro T X eT
      show Go p e below s _ _ T (mkF m 115 #[.val (.ref a), .val (.long q1), .second, .val (.long q2), .second, .val (.long q3), .second, .val (.long q4), .second, .val (.int (0 : Int32)), .val (.int (0 : Int32)), .val (.int (1 : Int32)), .unset, .unset, .unset] [(.ref x)])
      refine Go.of (fun _ kq => XS.iload X.here hx rfl (hb hby d3_115) rfl kq) ?_
      show Go p e below s _ _ T (mkF m 117 #[.val (.ref a), .val (.long q1), .second, .val (.long q2), .second, .val (.long q3), .second, .val (.long q4), .second, .val (.int (0 : Int32)), .val (.int (0 : Int32)), .val (.int (1 : Int32)), .unset, .unset, .unset] [(.int (1 : Int32)), (.ref x)])
      refine Go.ldJ (.long (f 0)) X hx hZ eT V_x (show Inb (1 : Int32) 3 from ⟨by decide, by decide⟩) rfl (hb hby d3_117) ?_
      show Go p e below s _ _ T (mkF m 118 #[.val (.ref a), .val (.long q1), .second, .val (.long q2), .second, .val (.long q3), .second, .val (.long q4), .second, .val (.int (0 : Int32)), .val (.int (0 : Int32)), .val (.int (1 : Int32)), .unset, .unset, .unset] [(.long (f 0))])
      refine Go.of (fun _ kq => XS.aloadN X.here hx rfl (hb hby d3_118) rfl rfl kq) ?_
      show Go p e below s _ _ T (mkF m 119 #[.val (.ref a), .val (.long q1), .second, .val (.long q2), .second, .val (.long q3), .second, .val (.long q4), .second, .val (.int (0 : Int32)), .val (.int (0 : Int32)), .val (.int (1 : Int32)), .unset, .unset, .unset] [(.ref a), (.long (f 0))])
      refine Go.getF X hx hZ hown (hw _ (List.mem_of_getElem? (i := 12) rfl)) Via.refl eT F_lasts_a (hb hby d3_119) ?_
      intro T X eT
      show Go p e below s _ _ T (mkF m 122 #[.val (.ref a), .val (.long q1), .second, .val (.long q2), .second, .val (.long q3), .second, .val (.long q4), .second, .val (.int (0 : Int32)), .val (.int (0 : Int32)), .val (.int (1 : Int32)), .unset, .unset, .unset] [(.ref y), (.long (f 0))])
      refine Go.of (fun _ kq => XS.iload X.here hx rfl (hb hby d3_122) rfl kq) ?_
      show Go p e below s _ _ T (mkF m 124 #[.val (.ref a), .val (.long q1), .second, .val (.long q2), .second, .val (.long q3), .second, .val (.long q4), .second, .val (.int (0 : Int32)), .val (.int (0 : Int32)), .val (.int (1 : Int32)), .unset, .unset, .unset] [(.int (0 : Int32)), (.ref y), (.long (f 0))])
      refine Go.ldJ (.long q2) X hx hZ eT V_y (show Inb (0 : Int32) 3 from ⟨by decide, by decide⟩) rfl (hb hby d3_124) ?_
      show Go p e below s _ _ T (mkF m 125 #[.val (.ref a), .val (.long q1), .second, .val (.long q2), .second, .val (.long q3), .second, .val (.long q4), .second, .val (.int (0 : Int32)), .val (.int (0 : Int32)), .val (.int (1 : Int32)), .unset, .unset, .unset] [(.long q2), (.long (f 0))])
      refine Go.of (fun _ kq => XS.lconst X.here hx rfl (hb hby d3_125) kq) ?_
      show Go p e below s _ _ T (mkF m 126 #[.val (.ref a), .val (.long q1), .second, .val (.long q2), .second, .val (.long q3), .second, .val (.long q4), .second, .val (.int (0 : Int32)), .val (.int (0 : Int32)), .val (.int (1 : Int32)), .unset, .unset, .unset] [(.long (1 : Int64)), (.long q2), (.long (f 0))])
      refine Go.of (fun _ kq => XS.ladd X.here hx rfl (hb hby d3_126) rfl kq) ?_
      show Go p e below s _ _ T (mkF m 127 #[.val (.ref a), .val (.long q1), .second, .val (.long q2), .second, .val (.long q3), .second, .val (.long q4), .second, .val (.int (0 : Int32)), .val (.int (0 : Int32)), .val (.int (1 : Int32)), .unset, .unset, .unset] [(.long (q2 + (1 : Int64))), (.long (f 0))])
      refine Go.of (fun _ kq => XS.lcmp X.here hx rfl (hb hby d3_127) rfl kq) ?_
      show Go p e below s _ _ T (mkF m 128 #[.val (.ref a), .val (.long q1), .second, .val (.long q2), .second, .val (.long q3), .second, .val (.long q4), .second, .val (.int (0 : Int32)), .val (.int (0 : Int32)), .val (.int (1 : Int32)), .unset, .unset, .unset] [(.int (lcmpW (f 0) (q2 + (1 : Int64))))])
      by_cases hc128 : (q2 + (1 : Int64)) < (f 0)
      · refine Go.of (fun _ kq => XS.ifYes X.here hx rfl (pc0 := 128) (pc' := 158) rfl (hb hby d3_128) rfl (cZgt hc128).1 (by decide) (by decide) kq) ?_
        show Go p e below s _ _ T (mkF m 158 #[.val (.ref a), .val (.long q1), .second, .val (.long q2), .second, .val (.long q3), .second, .val (.long q4), .second, .val (.int (0 : Int32)), .val (.int (0 : Int32)), .val (.int (1 : Int32)), .unset, .unset, .unset] [])
        refine Go.of (fun _ kq => XS.iinc X.here hx rfl (hb hby d3_158) rfl (l' := #[.val (.ref a), .val (.long q1), .second, .val (.long q2), .second, .val (.long q3), .second, .val (.long q4), .second, .val (.int (0 : Int32)), .val (.int (1 : Int32)), .val (.int (1 : Int32)), .unset, .unset, .unset]) rfl kq) ?_
        show Go p e below s _ _ T (mkF m 161 #[.val (.ref a), .val (.long q1), .second, .val (.long q2), .second, .val (.long q3), .second, .val (.long q4), .second, .val (.int (0 : Int32)), .val (.int (1 : Int32)), .val (.int (1 : Int32)), .unset, .unset, .unset] [])
        refine Go.of (fun _ kq => XS.aloadN X.here hx rfl (hb hby d3_161) rfl rfl kq) ?_
        show Go p e below s _ _ T (mkF m 162 #[.val (.ref a), .val (.long q1), .second, .val (.long q2), .second, .val (.long q3), .second, .val (.long q4), .second, .val (.int (0 : Int32)), .val (.int (1 : Int32)), .val (.int (1 : Int32)), .unset, .unset, .unset] [(.ref a)])
        refine Go.getF X hx hZ hown (hw _ (List.mem_of_getElem? (i := 10) rfl)) Via.refl eT F_firsts_a (hb hby d3_162) ?_
        intro T X eT
        show Go p e below s _ _ T (mkF m 165 #[.val (.ref a), .val (.long q1), .second, .val (.long q2), .second, .val (.long q3), .second, .val (.long q4), .second, .val (.int (0 : Int32)), .val (.int (1 : Int32)), .val (.int (1 : Int32)), .unset, .unset, .unset] [(.ref x)])
        refine Go.of (fun _ kq => XS.iload X.here hx rfl (hb hby d3_165) rfl kq) ?_
        show Go p e below s _ _ T (mkF m 167 #[.val (.ref a), .val (.long q1), .second, .val (.long q2), .second, .val (.long q3), .second, .val (.long q4), .second, .val (.int (0 : Int32)), .val (.int (1 : Int32)), .val (.int (1 : Int32)), .unset, .unset, .unset] [(.int (1 : Int32)), (.ref x)])
        refine Go.of (fun _ kq => XS.aloadN X.here hx rfl (hb hby d3_167) rfl rfl kq) ?_
        show Go p e below s _ _ T (mkF m 168 #[.val (.ref a), .val (.long q1), .second, .val (.long q2), .second, .val (.long q3), .second, .val (.long q4), .second, .val (.int (0 : Int32)), .val (.int (1 : Int32)), .val (.int (1 : Int32)), .unset, .unset, .unset] [(.ref a), (.int (1 : Int32)), (.ref x)])
        refine Go.getF X hx hZ hown (hw _ (List.mem_of_getElem? (i := 10) rfl)) Via.refl eT F_firsts_a (hb hby d3_168) ?_
        intro T X eT
        show Go p e below s _ _ T (mkF m 171 #[.val (.ref a), .val (.long q1), .second, .val (.long q2), .second, .val (.long q3), .second, .val (.long q4), .second, .val (.int (0 : Int32)), .val (.int (1 : Int32)), .val (.int (1 : Int32)), .unset, .unset, .unset] [(.ref x), (.int (1 : Int32)), (.ref x)])
        refine Go.of (fun _ kq => XS.iload X.here hx rfl (hb hby d3_171) rfl kq) ?_
        show Go p e below s _ _ T (mkF m 173 #[.val (.ref a), .val (.long q1), .second, .val (.long q2), .second, .val (.long q3), .second, .val (.long q4), .second, .val (.int (0 : Int32)), .val (.int (1 : Int32)), .val (.int (1 : Int32)), .unset, .unset, .unset] [(.int (1 : Int32)), (.ref x), (.int (1 : Int32)), (.ref x)])
        refine Go.ldJ (.long (f 0)) X hx hZ eT V_x (show Inb (1 : Int32) 3 from ⟨by decide, by decide⟩) rfl (hb hby d3_173) ?_
        show Go p e below s _ _ T (mkF m 174 #[.val (.ref a), .val (.long q1), .second, .val (.long q2), .second, .val (.long q3), .second, .val (.long q4), .second, .val (.int (0 : Int32)), .val (.int (1 : Int32)), .val (.int (1 : Int32)), .unset, .unset, .unset] [(.long (f 0)), (.int (1 : Int32)), (.ref x)])
        have hin : Inb (1 : Int32) 3 := ⟨by decide, by decide⟩
        refine Go.stJ X hx hZ eT V_x hin (hb hby d3_174) ?_
        intro T h X eT wr
        have N := Fr.snoc X N g_x
        have K := K.wr wr (Or.inl (List.mem_of_getElem? (i := 1) rfl))
        have E_a := E_a.wr wr
        have F_firsts_a := F_firsts_a.other wr (Or.inl ne_a_x)
        have F_lasts_a := F_lasts_a.other wr (Or.inl ne_a_x)
        have F_count_a := F_count_a.other wr (Or.inl ne_a_x)
        have V_x : AV Z h x .long 3 (fun j => .long ((updJ (updJ (updJ f 1 (f 0)) 0 q1) 1 (f 0)) j)) := V_x.setJ wr hin.2
        have V_y := V_y.other wr (Ne.symm ne_x_y)
        show Go p e below s _ _ T (mkF m 175 #[.val (.ref a), .val (.long q1), .second, .val (.long q2), .second, .val (.long q3), .second, .val (.long q4), .second, .val (.int (0 : Int32)), .val (.int (1 : Int32)), .val (.int (1 : Int32)), .unset, .unset, .unset] [])
        refine Go.of (fun _ kq => XS.aloadN X.here hx rfl (hb hby d3_175) rfl rfl kq) ?_
        show Go p e below s _ _ T (mkF m 176 #[.val (.ref a), .val (.long q1), .second, .val (.long q2), .second, .val (.long q3), .second, .val (.long q4), .second, .val (.int (0 : Int32)), .val (.int (1 : Int32)), .val (.int (1 : Int32)), .unset, .unset, .unset] [(.ref a)])
        refine Go.getF X hx hZ hown (hw _ (List.mem_of_getElem? (i := 12) rfl)) Via.refl eT F_lasts_a (hb hby d3_176) ?_
        intro T X eT
        show Go p e below s _ _ T (mkF m 179 #[.val (.ref a), .val (.long q1), .second, .val (.long q2), .second, .val (.long q3), .second, .val (.long q4), .second, .val (.int (0 : Int32)), .val (.int (1 : Int32)), .val (.int (1 : Int32)), .unset, .unset, .unset] [(.ref y)])
        refine Go.of (fun _ kq => XS.iload X.here hx rfl (hb hby d3_179) rfl kq) ?_
        show Go p e below s _ _ T (mkF m 181 #[.val (.ref a), .val (.long q1), .second, .val (.long q2), .second, .val (.long q3), .second, .val (.long q4), .second, .val (.int (0 : Int32)), .val (.int (1 : Int32)), .val (.int (1 : Int32)), .unset, .unset, .unset] [(.int (1 : Int32)), (.ref y)])
        refine Go.of (fun _ kq => XS.aloadN X.here hx rfl (hb hby d3_181) rfl rfl kq) ?_
        show Go p e below s _ _ T (mkF m 182 #[.val (.ref a), .val (.long q1), .second, .val (.long q2), .second, .val (.long q3), .second, .val (.long q4), .second, .val (.int (0 : Int32)), .val (.int (1 : Int32)), .val (.int (1 : Int32)), .unset, .unset, .unset] [(.ref a), (.int (1 : Int32)), (.ref y)])
        refine Go.getF X hx hZ hown (hw _ (List.mem_of_getElem? (i := 12) rfl)) Via.refl eT F_lasts_a (hb hby d3_182) ?_
        intro T X eT
        show Go p e below s _ _ T (mkF m 185 #[.val (.ref a), .val (.long q1), .second, .val (.long q2), .second, .val (.long q3), .second, .val (.long q4), .second, .val (.int (0 : Int32)), .val (.int (1 : Int32)), .val (.int (1 : Int32)), .unset, .unset, .unset] [(.ref y), (.int (1 : Int32)), (.ref y)])
        refine Go.of (fun _ kq => XS.iload X.here hx rfl (hb hby d3_185) rfl kq) ?_
        show Go p e below s _ _ T (mkF m 187 #[.val (.ref a), .val (.long q1), .second, .val (.long q2), .second, .val (.long q3), .second, .val (.long q4), .second, .val (.int (0 : Int32)), .val (.int (1 : Int32)), .val (.int (1 : Int32)), .unset, .unset, .unset] [(.int (1 : Int32)), (.ref y), (.int (1 : Int32)), (.ref y)])
        refine Go.ldJ (.long (g 0)) X hx hZ eT V_y (show Inb (1 : Int32) 3 from ⟨by decide, by decide⟩) rfl (hb hby d3_187) ?_
        show Go p e below s _ _ T (mkF m 188 #[.val (.ref a), .val (.long q1), .second, .val (.long q2), .second, .val (.long q3), .second, .val (.long q4), .second, .val (.int (0 : Int32)), .val (.int (1 : Int32)), .val (.int (1 : Int32)), .unset, .unset, .unset] [(.long (g 0)), (.int (1 : Int32)), (.ref y)])
        have hin : Inb (1 : Int32) 3 := ⟨by decide, by decide⟩
        refine Go.stJ X hx hZ eT V_y hin (hb hby d3_188) ?_
        intro T h X eT wr
        have N := Fr.snoc X N g_y
        have K := K.wr wr (Or.inl (List.mem_of_getElem? (i := 2) rfl))
        have E_a := E_a.wr wr
        have F_firsts_a := F_firsts_a.other wr (Or.inl ne_a_y)
        have F_lasts_a := F_lasts_a.other wr (Or.inl ne_a_y)
        have F_count_a := F_count_a.other wr (Or.inl ne_a_y)
        have V_x := V_x.other wr ne_x_y
        have V_y : AV Z h y .long 3 (fun j => .long ((updJ (updJ (updJ g 1 (g 0)) 0 q2) 1 (g 0)) j)) := V_y.setJ wr hin.2
        show Go p e below s _ _ T (mkF m 189 #[.val (.ref a), .val (.long q1), .second, .val (.long q2), .second, .val (.long q3), .second, .val (.long q4), .second, .val (.int (0 : Int32)), .val (.int (1 : Int32)), .val (.int (1 : Int32)), .unset, .unset, .unset] [])
        refine Go.of (fun _ kq => XS.iinc X.here hx rfl (hb hby d3_189) rfl (l' := #[.val (.ref a), .val (.long q1), .second, .val (.long q2), .second, .val (.long q3), .second, .val (.long q4), .second, .val (.int (0 : Int32)), .val (.int (1 : Int32)), .val (.int (2 : Int32)), .unset, .unset, .unset]) rfl kq) ?_
        show Go p e below s _ _ T (mkF m 192 #[.val (.ref a), .val (.long q1), .second, .val (.long q2), .second, .val (.long q3), .second, .val (.long q4), .second, .val (.int (0 : Int32)), .val (.int (1 : Int32)), .val (.int (2 : Int32)), .unset, .unset, .unset] [])
        refine Go.of (fun _ kq => XS.goto X.here hx rfl (pc0 := 192) (pc' := 102) rfl (hb hby d3_192) (by decide) (by decide) kq) ?_
        show Go p e below s _ _ T (mkF m 102 #[.val (.ref a), .val (.long q1), .second, .val (.long q2), .second, .val (.long q3), .second, .val (.long q4), .second, .val (.int (0 : Int32)), .val (.int (1 : Int32)), .val (.int (2 : Int32)), .unset, .unset, .unset] [])
        refine Go.of (fun _ kq => XS.iload X.here hx rfl (hb hby d3_102) rfl kq) ?_
        show Go p e below s _ _ T (mkF m 104 #[.val (.ref a), .val (.long q1), .second, .val (.long q2), .second, .val (.long q3), .second, .val (.long q4), .second, .val (.int (0 : Int32)), .val (.int (1 : Int32)), .val (.int (2 : Int32)), .unset, .unset, .unset] [(.int (2 : Int32))])
        refine Go.of (fun _ kq => XS.aloadN X.here hx rfl (hb hby d3_104) rfl rfl kq) ?_
        show Go p e below s _ _ T (mkF m 105 #[.val (.ref a), .val (.long q1), .second, .val (.long q2), .second, .val (.long q3), .second, .val (.long q4), .second, .val (.int (0 : Int32)), .val (.int (1 : Int32)), .val (.int (2 : Int32)), .unset, .unset, .unset] [(.ref a), (.int (2 : Int32))])
        refine Go.getF X hx hZ hown (hw _ (List.mem_of_getElem? (i := 19) rfl)) Via.refl eT F_count_a (hb hby d3_105) ?_
        intro T X eT
        show Go p e below s _ _ T (mkF m 108 #[.val (.ref a), .val (.long q1), .second, .val (.long q2), .second, .val (.long q3), .second, .val (.long q4), .second, .val (.int (0 : Int32)), .val (.int (1 : Int32)), .val (.int (2 : Int32)), .unset, .unset, .unset] [(.int (2 : Int32)), (.int (2 : Int32))])
        refine Go.of (fun _ kq => XS.icmpYes X.here hx rfl (pc0 := 108) (pc' := 195) rfl (hb hby d3_108) rfl (flt (by decide)).2.1 (by decide) (by decide) kq) ?_
        show Go p e below s _ _ T (mkF m 195 #[.val (.ref a), .val (.long q1), .second, .val (.long q2), .second, .val (.long q3), .second, .val (.long q4), .second, .val (.int (0 : Int32)), .val (.int (1 : Int32)), .val (.int (2 : Int32)), .unset, .unset, .unset] [])
        refine Go.of (fun _ kq => XS.aloadN X.here hx rfl (hb hby d3_195) rfl rfl kq) ?_
        show Go p e below s _ _ T (mkF m 196 #[.val (.ref a), .val (.long q1), .second, .val (.long q2), .second, .val (.long q3), .second, .val (.long q4), .second, .val (.int (0 : Int32)), .val (.int (1 : Int32)), .val (.int (2 : Int32)), .unset, .unset, .unset] [(.ref a)])
        refine Go.of (fun _ kq => XS.iload X.here hx rfl (hb hby d3_196) rfl kq) ?_
        show Go p e below s _ _ T (mkF m 198 #[.val (.ref a), .val (.long q1), .second, .val (.long q2), .second, .val (.long q3), .second, .val (.long q4), .second, .val (.int (0 : Int32)), .val (.int (1 : Int32)), .val (.int (2 : Int32)), .unset, .unset, .unset] [(.int (1 : Int32)), (.ref a)])
        refine Go.of (fun _ kq => XS.iconst X.here hx rfl (hb hby d3_198) kq) ?_
        show Go p e below s _ _ T (mkF m 199 #[.val (.ref a), .val (.long q1), .second, .val (.long q2), .second, .val (.long q3), .second, .val (.long q4), .second, .val (.int (0 : Int32)), .val (.int (1 : Int32)), .val (.int (2 : Int32)), .unset, .unset, .unset] [(.int (1 : Int32)), (.int (1 : Int32)), (.ref a)])
        refine Go.of (fun _ kq => XS.iadd X.here hx rfl (hb hby d3_199) rfl kq) ?_
        show Go p e below s _ _ T (mkF m 200 #[.val (.ref a), .val (.long q1), .second, .val (.long q2), .second, .val (.long q3), .second, .val (.long q4), .second, .val (.int (0 : Int32)), .val (.int (1 : Int32)), .val (.int (2 : Int32)), .unset, .unset, .unset] [(.int (2 : Int32)), (.ref a)])
        refine Go.putF X hx hZ hown (hw _ (List.mem_of_getElem? (i := 19) rfl)) Via.refl eT F_count_a E_a (Or.inl (hw _ (List.mem_of_getElem? (i := 20) rfl))) (hw _ (List.mem_of_getElem? (i := 1) rfl)) (ty := .int) (by decide) rfl rfl (hb hby d3_200) ?_
        intro T h X eT wr
        have N := Fr.snoc X N g_a
        have K := K.wr wr (Or.inl (List.mem_of_getElem? (i := 0) rfl))
        have E_a := E_a.wr wr
        have F_firsts_a := F_firsts_a.other wr (Or.inr (slot_ne (Or.inr (hw _ (List.mem_of_getElem? (i := 11) rfl))) (Or.inl (hw _ (List.mem_of_getElem? (i := 20) rfl))) (by decide) (t := (.array .long)) (t' := .int) (by decide) (by decide)))
        have F_lasts_a := F_lasts_a.other wr (Or.inr (slot_ne (Or.inr (hw _ (List.mem_of_getElem? (i := 13) rfl))) (Or.inl (hw _ (List.mem_of_getElem? (i := 20) rfl))) (by decide) (t := (.array .long)) (t' := .int) (by decide) (by decide)))
        have F_count_a := F_count_a.same wr
        have V_x := V_x.other wr (Ne.symm ne_a_x)
        have V_y := V_y.other wr (Ne.symm ne_a_y)
        show Go p e below s _ _ T (mkF m 203 #[.val (.ref a), .val (.long q1), .second, .val (.long q2), .second, .val (.long q3), .second, .val (.long q4), .second, .val (.int (0 : Int32)), .val (.int (1 : Int32)), .val (.int (2 : Int32)), .unset, .unset, .unset] [])
        refine Go.of (fun _ kq => XS.aloadN X.here hx rfl (hb hby d3_203) rfl rfl kq) ?_
        show Go p e below s _ _ T (mkF m 204 #[.val (.ref a), .val (.long q1), .second, .val (.long q2), .second, .val (.long q3), .second, .val (.long q4), .second, .val (.int (0 : Int32)), .val (.int (1 : Int32)), .val (.int (2 : Int32)), .unset, .unset, .unset] [(.ref a)])
        refine Go.getF X hx hZ hown (hw _ (List.mem_of_getElem? (i := 19) rfl)) Via.refl eT F_count_a (hb hby d3_204) ?_
        intro T X eT
        show Go p e below s _ _ T (mkF m 207 #[.val (.ref a), .val (.long q1), .second, .val (.long q2), .second, .val (.long q3), .second, .val (.long q4), .second, .val (.int (0 : Int32)), .val (.int (1 : Int32)), .val (.int (2 : Int32)), .unset, .unset, .unset] [(.int (2 : Int32))])
        refine Go.of (fun _ kq => XS.iconst X.here hx rfl (hb hby d3_207) kq) ?_
        show Go p e below s _ _ T (mkF m 208 #[.val (.ref a), .val (.long q1), .second, .val (.long q2), .second, .val (.long q3), .second, .val (.long q4), .second, .val (.int (0 : Int32)), .val (.int (1 : Int32)), .val (.int (2 : Int32)), .unset, .unset, .unset] [(.int (2 : Int32)), (.int (2 : Int32))])
        refine Go.of (fun _ kq => XS.icmpYes X.here hx rfl (pc0 := 208) (pc' := 272) rfl (hb hby d3_208) rfl (flt (by decide)).2.2.2 (by decide) (by decide) kq) ?_
        show Go p e below s _ _ T (mkF m 272 #[.val (.ref a), .val (.long q1), .second, .val (.long q2), .second, .val (.long q3), .second, .val (.long q4), .second, .val (.int (0 : Int32)), .val (.int (1 : Int32)), .val (.int (2 : Int32)), .unset, .unset, .unset] [])
        refine Go.retV X hx hret hlk (hb hby d3_272) (by decide) (by decide) ?_
        try rw [eT]
        exact ⟨rfl, N, K, by unfold own_add; rw [if_neg hc3]; simp only [if_pos hc29]; unfold own_put; rw [if_pos hc128]; exact ⟨F_firsts_a, F_lasts_a, F_count_a, _, _, V_x, V_y, rfl, rfl, rfl, rfl⟩⟩
      · refine Go.of (fun _ kq => XS.ifNo X.here hx rfl (hb hby d3_128) rfl (cFgt hc128).1 kq) ?_
        show Go p e below s _ _ T (mkF m 131 #[.val (.ref a), .val (.long q1), .second, .val (.long q2), .second, .val (.long q3), .second, .val (.long q4), .second, .val (.int (0 : Int32)), .val (.int (0 : Int32)), .val (.int (1 : Int32)), .unset, .unset, .unset] [])
        refine Go.of (fun _ kq => XS.aloadN X.here hx rfl (hb hby d3_131) rfl rfl kq) ?_
        show Go p e below s _ _ T (mkF m 132 #[.val (.ref a), .val (.long q1), .second, .val (.long q2), .second, .val (.long q3), .second, .val (.long q4), .second, .val (.int (0 : Int32)), .val (.int (0 : Int32)), .val (.int (1 : Int32)), .unset, .unset, .unset] [(.ref a)])
        refine Go.getF X hx hZ hown (hw _ (List.mem_of_getElem? (i := 12) rfl)) Via.refl eT F_lasts_a (hb hby d3_132) ?_
        intro T X eT
        show Go p e below s _ _ T (mkF m 135 #[.val (.ref a), .val (.long q1), .second, .val (.long q2), .second, .val (.long q3), .second, .val (.long q4), .second, .val (.int (0 : Int32)), .val (.int (0 : Int32)), .val (.int (1 : Int32)), .unset, .unset, .unset] [(.ref y)])
        refine Go.of (fun _ kq => XS.iload X.here hx rfl (hb hby d3_135) rfl kq) ?_
        show Go p e below s _ _ T (mkF m 137 #[.val (.ref a), .val (.long q1), .second, .val (.long q2), .second, .val (.long q3), .second, .val (.long q4), .second, .val (.int (0 : Int32)), .val (.int (0 : Int32)), .val (.int (1 : Int32)), .unset, .unset, .unset] [(.int (0 : Int32)), (.ref y)])
        refine Go.of (fun _ kq => XS.aloadN X.here hx rfl (hb hby d3_137) rfl rfl kq) ?_
        show Go p e below s _ _ T (mkF m 138 #[.val (.ref a), .val (.long q1), .second, .val (.long q2), .second, .val (.long q3), .second, .val (.long q4), .second, .val (.int (0 : Int32)), .val (.int (0 : Int32)), .val (.int (1 : Int32)), .unset, .unset, .unset] [(.ref a), (.int (0 : Int32)), (.ref y)])
        refine Go.getF X hx hZ hown (hw _ (List.mem_of_getElem? (i := 12) rfl)) Via.refl eT F_lasts_a (hb hby d3_138) ?_
        intro T X eT
        show Go p e below s _ _ T (mkF m 141 #[.val (.ref a), .val (.long q1), .second, .val (.long q2), .second, .val (.long q3), .second, .val (.long q4), .second, .val (.int (0 : Int32)), .val (.int (0 : Int32)), .val (.int (1 : Int32)), .unset, .unset, .unset] [(.ref y), (.int (0 : Int32)), (.ref y)])
        refine Go.of (fun _ kq => XS.iload X.here hx rfl (hb hby d3_141) rfl kq) ?_
        show Go p e below s _ _ T (mkF m 143 #[.val (.ref a), .val (.long q1), .second, .val (.long q2), .second, .val (.long q3), .second, .val (.long q4), .second, .val (.int (0 : Int32)), .val (.int (0 : Int32)), .val (.int (1 : Int32)), .unset, .unset, .unset] [(.int (0 : Int32)), (.ref y), (.int (0 : Int32)), (.ref y)])
        refine Go.ldJ (.long q2) X hx hZ eT V_y (show Inb (0 : Int32) 3 from ⟨by decide, by decide⟩) rfl (hb hby d3_143) ?_
        show Go p e below s _ _ T (mkF m 144 #[.val (.ref a), .val (.long q1), .second, .val (.long q2), .second, .val (.long q3), .second, .val (.long q4), .second, .val (.int (0 : Int32)), .val (.int (0 : Int32)), .val (.int (1 : Int32)), .unset, .unset, .unset] [(.long q2), (.int (0 : Int32)), (.ref y)])
        refine Go.of (fun _ kq => XS.aloadN X.here hx rfl (hb hby d3_144) rfl rfl kq) ?_
        show Go p e below s _ _ T (mkF m 145 #[.val (.ref a), .val (.long q1), .second, .val (.long q2), .second, .val (.long q3), .second, .val (.long q4), .second, .val (.int (0 : Int32)), .val (.int (0 : Int32)), .val (.int (1 : Int32)), .unset, .unset, .unset] [(.ref a), (.long q2), (.int (0 : Int32)), (.ref y)])
        refine Go.getF X hx hZ hown (hw _ (List.mem_of_getElem? (i := 12) rfl)) Via.refl eT F_lasts_a (hb hby d3_145) ?_
        intro T X eT
        show Go p e below s _ _ T (mkF m 148 #[.val (.ref a), .val (.long q1), .second, .val (.long q2), .second, .val (.long q3), .second, .val (.long q4), .second, .val (.int (0 : Int32)), .val (.int (0 : Int32)), .val (.int (1 : Int32)), .unset, .unset, .unset] [(.ref y), (.long q2), (.int (0 : Int32)), (.ref y)])
        refine Go.of (fun _ kq => XS.iload X.here hx rfl (hb hby d3_148) rfl kq) ?_
        show Go p e below s _ _ T (mkF m 150 #[.val (.ref a), .val (.long q1), .second, .val (.long q2), .second, .val (.long q3), .second, .val (.long q4), .second, .val (.int (0 : Int32)), .val (.int (0 : Int32)), .val (.int (1 : Int32)), .unset, .unset, .unset] [(.int (1 : Int32)), (.ref y), (.long q2), (.int (0 : Int32)), (.ref y)])
        refine Go.ldJ (.long (g 0)) X hx hZ eT V_y (show Inb (1 : Int32) 3 from ⟨by decide, by decide⟩) rfl (hb hby d3_150) ?_
        show Go p e below s _ _ T (mkF m 151 #[.val (.ref a), .val (.long q1), .second, .val (.long q2), .second, .val (.long q3), .second, .val (.long q4), .second, .val (.int (0 : Int32)), .val (.int (0 : Int32)), .val (.int (1 : Int32)), .unset, .unset, .unset] [(.long (g 0)), (.long q2), (.int (0 : Int32)), (.ref y)])
        refine Go.static X hx hZ hown (hw _ (List.mem_of_getElem? (i := 30) rfl)) (hw _ (List.mem_of_getElem? (i := 31) rfl)) (hw _ (List.mem_of_getElem? (i := 32) rfl)) (hw _ (List.mem_of_getElem? (i := 33) rfl)) (by decide) (rmMax hw q2 (g 0) _ n0) eT 2 (by decide) (by decide) (by decide) (by decide) (by rw [hml]; rfl) (argsL := [(.long q2), (.long (g 0))]) [(.int (0 : Int32)), (.ref y)] (lenOf pd0 rfl) rfl rfl (Nat.le_of_eq rfl) (hb hby d3_151) ?_
        intro v T L' X hQ
        obtain ⟨rfl, N', eT⟩ := hQ
        have N := Fr.app N N'
        show Go p e below s _ _ T (mkF m 154 #[.val (.ref a), .val (.long q1), .second, .val (.long q2), .second, .val (.long q3), .second, .val (.long q4), .second, .val (.int (0 : Int32)), .val (.int (0 : Int32)), .val (.int (1 : Int32)), .unset, .unset, .unset] [(.long (own_max q2 (g 0))), (.int (0 : Int32)), (.ref y)])
        have hin : Inb (0 : Int32) 3 := ⟨by decide, by decide⟩
        refine Go.stJ X hx hZ eT V_y hin (hb hby d3_154) ?_
        intro T h X eT wr
        have N := Fr.snoc X N g_y
        have K := K.wr wr (Or.inl (List.mem_of_getElem? (i := 2) rfl))
        have E_a := E_a.wr wr
        have F_firsts_a := F_firsts_a.other wr (Or.inl ne_a_y)
        have F_lasts_a := F_lasts_a.other wr (Or.inl ne_a_y)
        have F_count_a := F_count_a.other wr (Or.inl ne_a_y)
        have V_x := V_x.other wr ne_x_y
        have V_y : AV Z h y .long 3 (fun j => .long ((updJ (updJ (updJ g 1 (g 0)) 0 q2) 0 (own_max q2 (g 0))) j)) := V_y.setJ wr hin.2
        show Go p e below s _ _ T (mkF m 155 #[.val (.ref a), .val (.long q1), .second, .val (.long q2), .second, .val (.long q3), .second, .val (.long q4), .second, .val (.int (0 : Int32)), .val (.int (0 : Int32)), .val (.int (1 : Int32)), .unset, .unset, .unset] [])
        refine Go.of (fun _ kq => XS.goto X.here hx rfl (pc0 := 155) (pc' := 189) rfl (hb hby d3_155) (by decide) (by decide) kq) ?_
        show Go p e below s _ _ T (mkF m 189 #[.val (.ref a), .val (.long q1), .second, .val (.long q2), .second, .val (.long q3), .second, .val (.long q4), .second, .val (.int (0 : Int32)), .val (.int (0 : Int32)), .val (.int (1 : Int32)), .unset, .unset, .unset] [])
        refine Go.of (fun _ kq => XS.iinc X.here hx rfl (hb hby d3_189) rfl (l' := #[.val (.ref a), .val (.long q1), .second, .val (.long q2), .second, .val (.long q3), .second, .val (.long q4), .second, .val (.int (0 : Int32)), .val (.int (0 : Int32)), .val (.int (2 : Int32)), .unset, .unset, .unset]) rfl kq) ?_
        show Go p e below s _ _ T (mkF m 192 #[.val (.ref a), .val (.long q1), .second, .val (.long q2), .second, .val (.long q3), .second, .val (.long q4), .second, .val (.int (0 : Int32)), .val (.int (0 : Int32)), .val (.int (2 : Int32)), .unset, .unset, .unset] [])
        refine Go.of (fun _ kq => XS.goto X.here hx rfl (pc0 := 192) (pc' := 102) rfl (hb hby d3_192) (by decide) (by decide) kq) ?_
        show Go p e below s _ _ T (mkF m 102 #[.val (.ref a), .val (.long q1), .second, .val (.long q2), .second, .val (.long q3), .second, .val (.long q4), .second, .val (.int (0 : Int32)), .val (.int (0 : Int32)), .val (.int (2 : Int32)), .unset, .unset, .unset] [])
        refine Go.of (fun _ kq => XS.iload X.here hx rfl (hb hby d3_102) rfl kq) ?_
        show Go p e below s _ _ T (mkF m 104 #[.val (.ref a), .val (.long q1), .second, .val (.long q2), .second, .val (.long q3), .second, .val (.long q4), .second, .val (.int (0 : Int32)), .val (.int (0 : Int32)), .val (.int (2 : Int32)), .unset, .unset, .unset] [(.int (2 : Int32))])
        refine Go.of (fun _ kq => XS.aloadN X.here hx rfl (hb hby d3_104) rfl rfl kq) ?_
        show Go p e below s _ _ T (mkF m 105 #[.val (.ref a), .val (.long q1), .second, .val (.long q2), .second, .val (.long q3), .second, .val (.long q4), .second, .val (.int (0 : Int32)), .val (.int (0 : Int32)), .val (.int (2 : Int32)), .unset, .unset, .unset] [(.ref a), (.int (2 : Int32))])
        refine Go.getF X hx hZ hown (hw _ (List.mem_of_getElem? (i := 19) rfl)) Via.refl eT F_count_a (hb hby d3_105) ?_
        intro T X eT
        show Go p e below s _ _ T (mkF m 108 #[.val (.ref a), .val (.long q1), .second, .val (.long q2), .second, .val (.long q3), .second, .val (.long q4), .second, .val (.int (0 : Int32)), .val (.int (0 : Int32)), .val (.int (2 : Int32)), .unset, .unset, .unset] [(.int (2 : Int32)), (.int (2 : Int32))])
        refine Go.of (fun _ kq => XS.icmpYes X.here hx rfl (pc0 := 108) (pc' := 195) rfl (hb hby d3_108) rfl (flt (by decide)).2.1 (by decide) (by decide) kq) ?_
        show Go p e below s _ _ T (mkF m 195 #[.val (.ref a), .val (.long q1), .second, .val (.long q2), .second, .val (.long q3), .second, .val (.long q4), .second, .val (.int (0 : Int32)), .val (.int (0 : Int32)), .val (.int (2 : Int32)), .unset, .unset, .unset] [])
        refine Go.of (fun _ kq => XS.aloadN X.here hx rfl (hb hby d3_195) rfl rfl kq) ?_
        show Go p e below s _ _ T (mkF m 196 #[.val (.ref a), .val (.long q1), .second, .val (.long q2), .second, .val (.long q3), .second, .val (.long q4), .second, .val (.int (0 : Int32)), .val (.int (0 : Int32)), .val (.int (2 : Int32)), .unset, .unset, .unset] [(.ref a)])
        refine Go.of (fun _ kq => XS.iload X.here hx rfl (hb hby d3_196) rfl kq) ?_
        show Go p e below s _ _ T (mkF m 198 #[.val (.ref a), .val (.long q1), .second, .val (.long q2), .second, .val (.long q3), .second, .val (.long q4), .second, .val (.int (0 : Int32)), .val (.int (0 : Int32)), .val (.int (2 : Int32)), .unset, .unset, .unset] [(.int (0 : Int32)), (.ref a)])
        refine Go.of (fun _ kq => XS.iconst X.here hx rfl (hb hby d3_198) kq) ?_
        show Go p e below s _ _ T (mkF m 199 #[.val (.ref a), .val (.long q1), .second, .val (.long q2), .second, .val (.long q3), .second, .val (.long q4), .second, .val (.int (0 : Int32)), .val (.int (0 : Int32)), .val (.int (2 : Int32)), .unset, .unset, .unset] [(.int (1 : Int32)), (.int (0 : Int32)), (.ref a)])
        refine Go.of (fun _ kq => XS.iadd X.here hx rfl (hb hby d3_199) rfl kq) ?_
        show Go p e below s _ _ T (mkF m 200 #[.val (.ref a), .val (.long q1), .second, .val (.long q2), .second, .val (.long q3), .second, .val (.long q4), .second, .val (.int (0 : Int32)), .val (.int (0 : Int32)), .val (.int (2 : Int32)), .unset, .unset, .unset] [(.int (1 : Int32)), (.ref a)])
        refine Go.putF X hx hZ hown (hw _ (List.mem_of_getElem? (i := 19) rfl)) Via.refl eT F_count_a E_a (Or.inl (hw _ (List.mem_of_getElem? (i := 20) rfl))) (hw _ (List.mem_of_getElem? (i := 1) rfl)) (ty := .int) (by decide) rfl rfl (hb hby d3_200) ?_
        intro T h X eT wr
        have N := Fr.snoc X N g_a
        have K := K.wr wr (Or.inl (List.mem_of_getElem? (i := 0) rfl))
        have E_a := E_a.wr wr
        have F_firsts_a := F_firsts_a.other wr (Or.inr (slot_ne (Or.inr (hw _ (List.mem_of_getElem? (i := 11) rfl))) (Or.inl (hw _ (List.mem_of_getElem? (i := 20) rfl))) (by decide) (t := (.array .long)) (t' := .int) (by decide) (by decide)))
        have F_lasts_a := F_lasts_a.other wr (Or.inr (slot_ne (Or.inr (hw _ (List.mem_of_getElem? (i := 13) rfl))) (Or.inl (hw _ (List.mem_of_getElem? (i := 20) rfl))) (by decide) (t := (.array .long)) (t' := .int) (by decide) (by decide)))
        have F_count_a := F_count_a.same wr
        have V_x := V_x.other wr (Ne.symm ne_a_x)
        have V_y := V_y.other wr (Ne.symm ne_a_y)
        show Go p e below s _ _ T (mkF m 203 #[.val (.ref a), .val (.long q1), .second, .val (.long q2), .second, .val (.long q3), .second, .val (.long q4), .second, .val (.int (0 : Int32)), .val (.int (0 : Int32)), .val (.int (2 : Int32)), .unset, .unset, .unset] [])
        refine Go.of (fun _ kq => XS.aloadN X.here hx rfl (hb hby d3_203) rfl rfl kq) ?_
        show Go p e below s _ _ T (mkF m 204 #[.val (.ref a), .val (.long q1), .second, .val (.long q2), .second, .val (.long q3), .second, .val (.long q4), .second, .val (.int (0 : Int32)), .val (.int (0 : Int32)), .val (.int (2 : Int32)), .unset, .unset, .unset] [(.ref a)])
        refine Go.getF X hx hZ hown (hw _ (List.mem_of_getElem? (i := 19) rfl)) Via.refl eT F_count_a (hb hby d3_204) ?_
        intro T X eT
        show Go p e below s _ _ T (mkF m 207 #[.val (.ref a), .val (.long q1), .second, .val (.long q2), .second, .val (.long q3), .second, .val (.long q4), .second, .val (.int (0 : Int32)), .val (.int (0 : Int32)), .val (.int (2 : Int32)), .unset, .unset, .unset] [(.int (1 : Int32))])
        refine Go.of (fun _ kq => XS.iconst X.here hx rfl (hb hby d3_207) kq) ?_
        show Go p e below s _ _ T (mkF m 208 #[.val (.ref a), .val (.long q1), .second, .val (.long q2), .second, .val (.long q3), .second, .val (.long q4), .second, .val (.int (0 : Int32)), .val (.int (0 : Int32)), .val (.int (2 : Int32)), .unset, .unset, .unset] [(.int (2 : Int32)), (.int (1 : Int32))])
        refine Go.of (fun _ kq => XS.icmpYes X.here hx rfl (pc0 := 208) (pc' := 272) rfl (hb hby d3_208) rfl (flt (by decide)).2.2.2 (by decide) (by decide) kq) ?_
        show Go p e below s _ _ T (mkF m 272 #[.val (.ref a), .val (.long q1), .second, .val (.long q2), .second, .val (.long q3), .second, .val (.long q4), .second, .val (.int (0 : Int32)), .val (.int (0 : Int32)), .val (.int (2 : Int32)), .unset, .unset, .unset] [])
        refine Go.retV X hx hret hlk (hb hby d3_272) (by decide) (by decide) ?_
        try rw [eT]
        exact ⟨rfl, N, K, by unfold own_add; rw [if_neg hc3]; simp only [if_pos hc29]; unfold own_put; rw [if_neg hc128]; exact ⟨F_firsts_a, F_lasts_a, F_count_a, _, _, V_x, V_y, rfl, rfl⟩⟩
    · refine Go.of (fun _ kq => XS.ifYes X.here hx rfl (pc0 := 29) (pc' := 70) rfl (hb hby d3_29) rfl (cFgt hc29).2 (by decide) (by decide) kq) ?_
      show Go p e below s _ _ T (mkF m 70 #[.val (.ref a), .val (.long q1), .second, .val (.long q2), .second, .val (.long q3), .second, .val (.long q4), .second, .val (.int (1 : Int32)), .unset, .unset, .unset, .unset, .unset] [])
      refine Go.of (fun _ kq => XS.aloadN X.here hx rfl (hb hby d3_70) rfl rfl kq) ?_
      show Go p e below s _ _ T (mkF m 71 #[.val (.ref a), .val (.long q1), .second, .val (.long q2), .second, .val (.long q3), .second, .val (.long q4), .second, .val (.int (1 : Int32)), .unset, .unset, .unset, .unset, .unset] [(.ref a)])
      refine Go.getF X hx hZ hown (hw _ (List.mem_of_getElem? (i := 10) rfl)) Via.refl eT F_firsts_a (hb hby d3_71) ?_
      intro T X eT
      show Go p e below s _ _ T (mkF m 74 #[.val (.ref a), .val (.long q1), .second, .val (.long q2), .second, .val (.long q3), .second, .val (.long q4), .second, .val (.int (1 : Int32)), .unset, .unset, .unset, .unset, .unset] [(.ref x)])
      refine Go.of (fun _ kq => XS.iload X.here hx rfl (hb hby d3_74) rfl kq) ?_
      show Go p e below s _ _ T (mkF m 76 #[.val (.ref a), .val (.long q1), .second, .val (.long q2), .second, .val (.long q3), .second, .val (.long q4), .second, .val (.int (1 : Int32)), .unset, .unset, .unset, .unset, .unset] [(.int (1 : Int32)), (.ref x)])
      refine Go.of (fun _ kq => XS.lloadN X.here hx rfl (hb hby d3_76) rfl kq) ?_
      show Go p e below s _ _ T (mkF m 77 #[.val (.ref a), .val (.long q1), .second, .val (.long q2), .second, .val (.long q3), .second, .val (.long q4), .second, .val (.int (1 : Int32)), .unset, .unset, .unset, .unset, .unset] [(.long q1), (.int (1 : Int32)), (.ref x)])
      have hin : Inb (1 : Int32) 3 := ⟨by decide, by decide⟩
      refine Go.stJ X hx hZ eT V_x hin (hb hby d3_77) ?_
      intro T h X eT wr
      have N := Fr.snoc X N g_x
      have K := K.wr wr (Or.inl (List.mem_of_getElem? (i := 1) rfl))
      have E_a := E_a.wr wr
      have F_firsts_a := F_firsts_a.other wr (Or.inl ne_a_x)
      have F_lasts_a := F_lasts_a.other wr (Or.inl ne_a_x)
      have F_count_a := F_count_a.other wr (Or.inl ne_a_x)
      have V_x : AV Z h x .long 3 (fun j => .long ((updJ f 1 q1) j)) := V_x.setJ wr hin.2
      have V_y := V_y.other wr (Ne.symm ne_x_y)
      show Go p e below s _ _ T (mkF m 78 #[.val (.ref a), .val (.long q1), .second, .val (.long q2), .second, .val (.long q3), .second, .val (.long q4), .second, .val (.int (1 : Int32)), .unset, .unset, .unset, .unset, .unset] [])
      refine Go.of (fun _ kq => XS.aloadN X.here hx rfl (hb hby d3_78) rfl rfl kq) ?_
      show Go p e below s _ _ T (mkF m 79 #[.val (.ref a), .val (.long q1), .second, .val (.long q2), .second, .val (.long q3), .second, .val (.long q4), .second, .val (.int (1 : Int32)), .unset, .unset, .unset, .unset, .unset] [(.ref a)])
      refine Go.getF X hx hZ hown (hw _ (List.mem_of_getElem? (i := 12) rfl)) Via.refl eT F_lasts_a (hb hby d3_79) ?_
      intro T X eT
      show Go p e below s _ _ T (mkF m 82 #[.val (.ref a), .val (.long q1), .second, .val (.long q2), .second, .val (.long q3), .second, .val (.long q4), .second, .val (.int (1 : Int32)), .unset, .unset, .unset, .unset, .unset] [(.ref y)])
      refine Go.of (fun _ kq => XS.iload X.here hx rfl (hb hby d3_82) rfl kq) ?_
      show Go p e below s _ _ T (mkF m 84 #[.val (.ref a), .val (.long q1), .second, .val (.long q2), .second, .val (.long q3), .second, .val (.long q4), .second, .val (.int (1 : Int32)), .unset, .unset, .unset, .unset, .unset] [(.int (1 : Int32)), (.ref y)])
      refine Go.of (fun _ kq => XS.lloadN X.here hx rfl (hb hby d3_84) rfl kq) ?_
      show Go p e below s _ _ T (mkF m 85 #[.val (.ref a), .val (.long q1), .second, .val (.long q2), .second, .val (.long q3), .second, .val (.long q4), .second, .val (.int (1 : Int32)), .unset, .unset, .unset, .unset, .unset] [(.long q2), (.int (1 : Int32)), (.ref y)])
      have hin : Inb (1 : Int32) 3 := ⟨by decide, by decide⟩
      refine Go.stJ X hx hZ eT V_y hin (hb hby d3_85) ?_
      intro T h X eT wr
      have N := Fr.snoc X N g_y
      have K := K.wr wr (Or.inl (List.mem_of_getElem? (i := 2) rfl))
      have E_a := E_a.wr wr
      have F_firsts_a := F_firsts_a.other wr (Or.inl ne_a_y)
      have F_lasts_a := F_lasts_a.other wr (Or.inl ne_a_y)
      have F_count_a := F_count_a.other wr (Or.inl ne_a_y)
      have V_x := V_x.other wr ne_x_y
      have V_y : AV Z h y .long 3 (fun j => .long ((updJ g 1 q2) j)) := V_y.setJ wr hin.2
      show Go p e below s _ _ T (mkF m 86 #[.val (.ref a), .val (.long q1), .second, .val (.long q2), .second, .val (.long q3), .second, .val (.long q4), .second, .val (.int (1 : Int32)), .unset, .unset, .unset, .unset, .unset] [])
      refine Go.of (fun _ kq => XS.aloadN X.here hx rfl (hb hby d3_86) rfl rfl kq) ?_
      show Go p e below s _ _ T (mkF m 87 #[.val (.ref a), .val (.long q1), .second, .val (.long q2), .second, .val (.long q3), .second, .val (.long q4), .second, .val (.int (1 : Int32)), .unset, .unset, .unset, .unset, .unset] [(.ref a)])
      refine Go.of (fun _ kq => XS.dup X.here hx rfl (hb hby d3_87) rfl rfl kq) ?_
      show Go p e below s _ _ T (mkF m 88 #[.val (.ref a), .val (.long q1), .second, .val (.long q2), .second, .val (.long q3), .second, .val (.long q4), .second, .val (.int (1 : Int32)), .unset, .unset, .unset, .unset, .unset] [(.ref a), (.ref a)])
      refine Go.getF X hx hZ hown (hw _ (List.mem_of_getElem? (i := 19) rfl)) Via.refl eT F_count_a (hb hby d3_88) ?_
      intro T X eT
      show Go p e below s _ _ T (mkF m 91 #[.val (.ref a), .val (.long q1), .second, .val (.long q2), .second, .val (.long q3), .second, .val (.long q4), .second, .val (.int (1 : Int32)), .unset, .unset, .unset, .unset, .unset] [(.int (1 : Int32)), (.ref a)])
      refine Go.of (fun _ kq => XS.iconst X.here hx rfl (hb hby d3_91) kq) ?_
      show Go p e below s _ _ T (mkF m 92 #[.val (.ref a), .val (.long q1), .second, .val (.long q2), .second, .val (.long q3), .second, .val (.long q4), .second, .val (.int (1 : Int32)), .unset, .unset, .unset, .unset, .unset] [(.int (1 : Int32)), (.int (1 : Int32)), (.ref a)])
      refine Go.of (fun _ kq => XS.iadd X.here hx rfl (hb hby d3_92) rfl kq) ?_
      show Go p e below s _ _ T (mkF m 93 #[.val (.ref a), .val (.long q1), .second, .val (.long q2), .second, .val (.long q3), .second, .val (.long q4), .second, .val (.int (1 : Int32)), .unset, .unset, .unset, .unset, .unset] [(.int (2 : Int32)), (.ref a)])
      refine Go.putF X hx hZ hown (hw _ (List.mem_of_getElem? (i := 19) rfl)) Via.refl eT F_count_a E_a (Or.inl (hw _ (List.mem_of_getElem? (i := 20) rfl))) (hw _ (List.mem_of_getElem? (i := 1) rfl)) (ty := .int) (by decide) rfl rfl (hb hby d3_93) ?_
      intro T h X eT wr
      have N := Fr.snoc X N g_a
      have K := K.wr wr (Or.inl (List.mem_of_getElem? (i := 0) rfl))
      have E_a := E_a.wr wr
      have F_firsts_a := F_firsts_a.other wr (Or.inr (slot_ne (Or.inr (hw _ (List.mem_of_getElem? (i := 11) rfl))) (Or.inl (hw _ (List.mem_of_getElem? (i := 20) rfl))) (by decide) (t := (.array .long)) (t' := .int) (by decide) (by decide)))
      have F_lasts_a := F_lasts_a.other wr (Or.inr (slot_ne (Or.inr (hw _ (List.mem_of_getElem? (i := 13) rfl))) (Or.inl (hw _ (List.mem_of_getElem? (i := 20) rfl))) (by decide) (t := (.array .long)) (t' := .int) (by decide) (by decide)))
      have F_count_a := F_count_a.same wr
      have V_x := V_x.other wr (Ne.symm ne_a_x)
      have V_y := V_y.other wr (Ne.symm ne_a_y)
      show Go p e below s _ _ T (mkF m 96 #[.val (.ref a), .val (.long q1), .second, .val (.long q2), .second, .val (.long q3), .second, .val (.long q4), .second, .val (.int (1 : Int32)), .unset, .unset, .unset, .unset, .unset] [])
      refine Go.of (fun _ kq => XS.iconst X.here hx rfl (hb hby d3_96) kq) ?_
      show Go p e below s _ _ T (mkF m 97 #[.val (.ref a), .val (.long q1), .second, .val (.long q2), .second, .val (.long q3), .second, .val (.long q4), .second, .val (.int (1 : Int32)), .unset, .unset, .unset, .unset, .unset] [(.int (0 : Int32))])
      refine Go.of (fun _ kq => XS.istore X.here hx rfl (hb hby d3_97) rfl (l' := #[.val (.ref a), .val (.long q1), .second, .val (.long q2), .second, .val (.long q3), .second, .val (.long q4), .second, .val (.int (1 : Int32)), .val (.int (0 : Int32)), .unset, .unset, .unset, .unset]) rfl kq) ?_
      show Go p e below s _ _ T (mkF m 99 #[.val (.ref a), .val (.long q1), .second, .val (.long q2), .second, .val (.long q3), .second, .val (.long q4), .second, .val (.int (1 : Int32)), .val (.int (0 : Int32)), .unset, .unset, .unset, .unset] [])
      refine Go.of (fun _ kq => XS.iconst X.here hx rfl (hb hby d3_99) kq) ?_
      show Go p e below s _ _ T (mkF m 100 #[.val (.ref a), .val (.long q1), .second, .val (.long q2), .second, .val (.long q3), .second, .val (.long q4), .second, .val (.int (1 : Int32)), .val (.int (0 : Int32)), .unset, .unset, .unset, .unset] [(.int (1 : Int32))])
      refine Go.of (fun _ kq => XS.istore X.here hx rfl (hb hby d3_100) rfl (l' := #[.val (.ref a), .val (.long q1), .second, .val (.long q2), .second, .val (.long q3), .second, .val (.long q4), .second, .val (.int (1 : Int32)), .val (.int (0 : Int32)), .val (.int (1 : Int32)), .unset, .unset, .unset]) rfl kq) ?_
      show Go p e below s _ _ T (mkF m 102 #[.val (.ref a), .val (.long q1), .second, .val (.long q2), .second, .val (.long q3), .second, .val (.long q4), .second, .val (.int (1 : Int32)), .val (.int (0 : Int32)), .val (.int (1 : Int32)), .unset, .unset, .unset] [])
      refine Go.of (fun _ kq => XS.iload X.here hx rfl (hb hby d3_102) rfl kq) ?_
      show Go p e below s _ _ T (mkF m 104 #[.val (.ref a), .val (.long q1), .second, .val (.long q2), .second, .val (.long q3), .second, .val (.long q4), .second, .val (.int (1 : Int32)), .val (.int (0 : Int32)), .val (.int (1 : Int32)), .unset, .unset, .unset] [(.int (1 : Int32))])
      refine Go.of (fun _ kq => XS.aloadN X.here hx rfl (hb hby d3_104) rfl rfl kq) ?_
      show Go p e below s _ _ T (mkF m 105 #[.val (.ref a), .val (.long q1), .second, .val (.long q2), .second, .val (.long q3), .second, .val (.long q4), .second, .val (.int (1 : Int32)), .val (.int (0 : Int32)), .val (.int (1 : Int32)), .unset, .unset, .unset] [(.ref a), (.int (1 : Int32))])
      refine Go.getF X hx hZ hown (hw _ (List.mem_of_getElem? (i := 19) rfl)) Via.refl eT F_count_a (hb hby d3_105) ?_
      intro T X eT
      show Go p e below s _ _ T (mkF m 108 #[.val (.ref a), .val (.long q1), .second, .val (.long q2), .second, .val (.long q3), .second, .val (.long q4), .second, .val (.int (1 : Int32)), .val (.int (0 : Int32)), .val (.int (1 : Int32)), .unset, .unset, .unset] [(.int (2 : Int32)), (.int (1 : Int32))])
      refine Go.of (fun _ kq => XS.icmpNo X.here hx rfl (hb hby d3_108) rfl (tlt (by decide)).2.1 kq) ?_
      show Go p e below s _ _ T (mkF m 111 #[.val (.ref a), .val (.long q1), .second, .val (.long q2), .second, .val (.long q3), .second, .val (.long q4), .second, .val (.int (1 : Int32)), .val (.int (0 : Int32)), .val (.int (1 : Int32)), .unset, .unset, .unset] [])
      refine Go.of (fun _ kq => XS.aloadN X.here hx rfl (hb hby d3_111) rfl rfl kq) ?_
      show Go p e below s _ _ T (mkF m 112 #[.val (.ref a), .val (.long q1), .second, .val (.long q2), .second, .val (.long q3), .second, .val (.long q4), .second, .val (.int (1 : Int32)), .val (.int (0 : Int32)), .val (.int (1 : Int32)), .unset, .unset, .unset] [(.ref a)])
      refine Go.getF X hx hZ hown (hw _ (List.mem_of_getElem? (i := 10) rfl)) Via.refl eT F_firsts_a (hb hby d3_112) ?_
      intro T X eT
      show Go p e below s _ _ T (mkF m 115 #[.val (.ref a), .val (.long q1), .second, .val (.long q2), .second, .val (.long q3), .second, .val (.long q4), .second, .val (.int (1 : Int32)), .val (.int (0 : Int32)), .val (.int (1 : Int32)), .unset, .unset, .unset] [(.ref x)])
      refine Go.of (fun _ kq => XS.iload X.here hx rfl (hb hby d3_115) rfl kq) ?_
      show Go p e below s _ _ T (mkF m 117 #[.val (.ref a), .val (.long q1), .second, .val (.long q2), .second, .val (.long q3), .second, .val (.long q4), .second, .val (.int (1 : Int32)), .val (.int (0 : Int32)), .val (.int (1 : Int32)), .unset, .unset, .unset] [(.int (1 : Int32)), (.ref x)])
      refine Go.ldJ (.long q1) X hx hZ eT V_x (show Inb (1 : Int32) 3 from ⟨by decide, by decide⟩) rfl (hb hby d3_117) ?_
      show Go p e below s _ _ T (mkF m 118 #[.val (.ref a), .val (.long q1), .second, .val (.long q2), .second, .val (.long q3), .second, .val (.long q4), .second, .val (.int (1 : Int32)), .val (.int (0 : Int32)), .val (.int (1 : Int32)), .unset, .unset, .unset] [(.long q1)])
      refine Go.of (fun _ kq => XS.aloadN X.here hx rfl (hb hby d3_118) rfl rfl kq) ?_
      show Go p e below s _ _ T (mkF m 119 #[.val (.ref a), .val (.long q1), .second, .val (.long q2), .second, .val (.long q3), .second, .val (.long q4), .second, .val (.int (1 : Int32)), .val (.int (0 : Int32)), .val (.int (1 : Int32)), .unset, .unset, .unset] [(.ref a), (.long q1)])
      refine Go.getF X hx hZ hown (hw _ (List.mem_of_getElem? (i := 12) rfl)) Via.refl eT F_lasts_a (hb hby d3_119) ?_
      intro T X eT
      show Go p e below s _ _ T (mkF m 122 #[.val (.ref a), .val (.long q1), .second, .val (.long q2), .second, .val (.long q3), .second, .val (.long q4), .second, .val (.int (1 : Int32)), .val (.int (0 : Int32)), .val (.int (1 : Int32)), .unset, .unset, .unset] [(.ref y), (.long q1)])
      refine Go.of (fun _ kq => XS.iload X.here hx rfl (hb hby d3_122) rfl kq) ?_
      show Go p e below s _ _ T (mkF m 124 #[.val (.ref a), .val (.long q1), .second, .val (.long q2), .second, .val (.long q3), .second, .val (.long q4), .second, .val (.int (1 : Int32)), .val (.int (0 : Int32)), .val (.int (1 : Int32)), .unset, .unset, .unset] [(.int (0 : Int32)), (.ref y), (.long q1)])
      refine Go.ldJ (.long (g 0)) X hx hZ eT V_y (show Inb (0 : Int32) 3 from ⟨by decide, by decide⟩) rfl (hb hby d3_124) ?_
      show Go p e below s _ _ T (mkF m 125 #[.val (.ref a), .val (.long q1), .second, .val (.long q2), .second, .val (.long q3), .second, .val (.long q4), .second, .val (.int (1 : Int32)), .val (.int (0 : Int32)), .val (.int (1 : Int32)), .unset, .unset, .unset] [(.long (g 0)), (.long q1)])
      refine Go.of (fun _ kq => XS.lconst X.here hx rfl (hb hby d3_125) kq) ?_
      show Go p e below s _ _ T (mkF m 126 #[.val (.ref a), .val (.long q1), .second, .val (.long q2), .second, .val (.long q3), .second, .val (.long q4), .second, .val (.int (1 : Int32)), .val (.int (0 : Int32)), .val (.int (1 : Int32)), .unset, .unset, .unset] [(.long (1 : Int64)), (.long (g 0)), (.long q1)])
      refine Go.of (fun _ kq => XS.ladd X.here hx rfl (hb hby d3_126) rfl kq) ?_
      show Go p e below s _ _ T (mkF m 127 #[.val (.ref a), .val (.long q1), .second, .val (.long q2), .second, .val (.long q3), .second, .val (.long q4), .second, .val (.int (1 : Int32)), .val (.int (0 : Int32)), .val (.int (1 : Int32)), .unset, .unset, .unset] [(.long ((g 0) + (1 : Int64))), (.long q1)])
      refine Go.of (fun _ kq => XS.lcmp X.here hx rfl (hb hby d3_127) rfl kq) ?_
      show Go p e below s _ _ T (mkF m 128 #[.val (.ref a), .val (.long q1), .second, .val (.long q2), .second, .val (.long q3), .second, .val (.long q4), .second, .val (.int (1 : Int32)), .val (.int (0 : Int32)), .val (.int (1 : Int32)), .unset, .unset, .unset] [(.int (lcmpW q1 ((g 0) + (1 : Int64))))])
      by_cases hc128 : ((g 0) + (1 : Int64)) < q1
      · refine Go.of (fun _ kq => XS.ifYes X.here hx rfl (pc0 := 128) (pc' := 158) rfl (hb hby d3_128) rfl (cZgt hc128).1 (by decide) (by decide) kq) ?_
        show Go p e below s _ _ T (mkF m 158 #[.val (.ref a), .val (.long q1), .second, .val (.long q2), .second, .val (.long q3), .second, .val (.long q4), .second, .val (.int (1 : Int32)), .val (.int (0 : Int32)), .val (.int (1 : Int32)), .unset, .unset, .unset] [])
        refine Go.of (fun _ kq => XS.iinc X.here hx rfl (hb hby d3_158) rfl (l' := #[.val (.ref a), .val (.long q1), .second, .val (.long q2), .second, .val (.long q3), .second, .val (.long q4), .second, .val (.int (1 : Int32)), .val (.int (1 : Int32)), .val (.int (1 : Int32)), .unset, .unset, .unset]) rfl kq) ?_
        show Go p e below s _ _ T (mkF m 161 #[.val (.ref a), .val (.long q1), .second, .val (.long q2), .second, .val (.long q3), .second, .val (.long q4), .second, .val (.int (1 : Int32)), .val (.int (1 : Int32)), .val (.int (1 : Int32)), .unset, .unset, .unset] [])
        refine Go.of (fun _ kq => XS.aloadN X.here hx rfl (hb hby d3_161) rfl rfl kq) ?_
        show Go p e below s _ _ T (mkF m 162 #[.val (.ref a), .val (.long q1), .second, .val (.long q2), .second, .val (.long q3), .second, .val (.long q4), .second, .val (.int (1 : Int32)), .val (.int (1 : Int32)), .val (.int (1 : Int32)), .unset, .unset, .unset] [(.ref a)])
        refine Go.getF X hx hZ hown (hw _ (List.mem_of_getElem? (i := 10) rfl)) Via.refl eT F_firsts_a (hb hby d3_162) ?_
        intro T X eT
        show Go p e below s _ _ T (mkF m 165 #[.val (.ref a), .val (.long q1), .second, .val (.long q2), .second, .val (.long q3), .second, .val (.long q4), .second, .val (.int (1 : Int32)), .val (.int (1 : Int32)), .val (.int (1 : Int32)), .unset, .unset, .unset] [(.ref x)])
        refine Go.of (fun _ kq => XS.iload X.here hx rfl (hb hby d3_165) rfl kq) ?_
        show Go p e below s _ _ T (mkF m 167 #[.val (.ref a), .val (.long q1), .second, .val (.long q2), .second, .val (.long q3), .second, .val (.long q4), .second, .val (.int (1 : Int32)), .val (.int (1 : Int32)), .val (.int (1 : Int32)), .unset, .unset, .unset] [(.int (1 : Int32)), (.ref x)])
        refine Go.of (fun _ kq => XS.aloadN X.here hx rfl (hb hby d3_167) rfl rfl kq) ?_
        show Go p e below s _ _ T (mkF m 168 #[.val (.ref a), .val (.long q1), .second, .val (.long q2), .second, .val (.long q3), .second, .val (.long q4), .second, .val (.int (1 : Int32)), .val (.int (1 : Int32)), .val (.int (1 : Int32)), .unset, .unset, .unset] [(.ref a), (.int (1 : Int32)), (.ref x)])
        refine Go.getF X hx hZ hown (hw _ (List.mem_of_getElem? (i := 10) rfl)) Via.refl eT F_firsts_a (hb hby d3_168) ?_
        intro T X eT
        show Go p e below s _ _ T (mkF m 171 #[.val (.ref a), .val (.long q1), .second, .val (.long q2), .second, .val (.long q3), .second, .val (.long q4), .second, .val (.int (1 : Int32)), .val (.int (1 : Int32)), .val (.int (1 : Int32)), .unset, .unset, .unset] [(.ref x), (.int (1 : Int32)), (.ref x)])
        refine Go.of (fun _ kq => XS.iload X.here hx rfl (hb hby d3_171) rfl kq) ?_
        show Go p e below s _ _ T (mkF m 173 #[.val (.ref a), .val (.long q1), .second, .val (.long q2), .second, .val (.long q3), .second, .val (.long q4), .second, .val (.int (1 : Int32)), .val (.int (1 : Int32)), .val (.int (1 : Int32)), .unset, .unset, .unset] [(.int (1 : Int32)), (.ref x), (.int (1 : Int32)), (.ref x)])
        refine Go.ldJ (.long q1) X hx hZ eT V_x (show Inb (1 : Int32) 3 from ⟨by decide, by decide⟩) rfl (hb hby d3_173) ?_
        show Go p e below s _ _ T (mkF m 174 #[.val (.ref a), .val (.long q1), .second, .val (.long q2), .second, .val (.long q3), .second, .val (.long q4), .second, .val (.int (1 : Int32)), .val (.int (1 : Int32)), .val (.int (1 : Int32)), .unset, .unset, .unset] [(.long q1), (.int (1 : Int32)), (.ref x)])
        have hin : Inb (1 : Int32) 3 := ⟨by decide, by decide⟩
        refine Go.stJ X hx hZ eT V_x hin (hb hby d3_174) ?_
        intro T h X eT wr
        have N := Fr.snoc X N g_x
        have K := K.wr wr (Or.inl (List.mem_of_getElem? (i := 1) rfl))
        have E_a := E_a.wr wr
        have F_firsts_a := F_firsts_a.other wr (Or.inl ne_a_x)
        have F_lasts_a := F_lasts_a.other wr (Or.inl ne_a_x)
        have F_count_a := F_count_a.other wr (Or.inl ne_a_x)
        have V_x : AV Z h x .long 3 (fun j => .long ((updJ (updJ f 1 q1) 1 q1) j)) := V_x.setJ wr hin.2
        have V_y := V_y.other wr (Ne.symm ne_x_y)
        show Go p e below s _ _ T (mkF m 175 #[.val (.ref a), .val (.long q1), .second, .val (.long q2), .second, .val (.long q3), .second, .val (.long q4), .second, .val (.int (1 : Int32)), .val (.int (1 : Int32)), .val (.int (1 : Int32)), .unset, .unset, .unset] [])
        refine Go.of (fun _ kq => XS.aloadN X.here hx rfl (hb hby d3_175) rfl rfl kq) ?_
        show Go p e below s _ _ T (mkF m 176 #[.val (.ref a), .val (.long q1), .second, .val (.long q2), .second, .val (.long q3), .second, .val (.long q4), .second, .val (.int (1 : Int32)), .val (.int (1 : Int32)), .val (.int (1 : Int32)), .unset, .unset, .unset] [(.ref a)])
        refine Go.getF X hx hZ hown (hw _ (List.mem_of_getElem? (i := 12) rfl)) Via.refl eT F_lasts_a (hb hby d3_176) ?_
        intro T X eT
        show Go p e below s _ _ T (mkF m 179 #[.val (.ref a), .val (.long q1), .second, .val (.long q2), .second, .val (.long q3), .second, .val (.long q4), .second, .val (.int (1 : Int32)), .val (.int (1 : Int32)), .val (.int (1 : Int32)), .unset, .unset, .unset] [(.ref y)])
        refine Go.of (fun _ kq => XS.iload X.here hx rfl (hb hby d3_179) rfl kq) ?_
        show Go p e below s _ _ T (mkF m 181 #[.val (.ref a), .val (.long q1), .second, .val (.long q2), .second, .val (.long q3), .second, .val (.long q4), .second, .val (.int (1 : Int32)), .val (.int (1 : Int32)), .val (.int (1 : Int32)), .unset, .unset, .unset] [(.int (1 : Int32)), (.ref y)])
        refine Go.of (fun _ kq => XS.aloadN X.here hx rfl (hb hby d3_181) rfl rfl kq) ?_
        show Go p e below s _ _ T (mkF m 182 #[.val (.ref a), .val (.long q1), .second, .val (.long q2), .second, .val (.long q3), .second, .val (.long q4), .second, .val (.int (1 : Int32)), .val (.int (1 : Int32)), .val (.int (1 : Int32)), .unset, .unset, .unset] [(.ref a), (.int (1 : Int32)), (.ref y)])
        refine Go.getF X hx hZ hown (hw _ (List.mem_of_getElem? (i := 12) rfl)) Via.refl eT F_lasts_a (hb hby d3_182) ?_
        intro T X eT
        show Go p e below s _ _ T (mkF m 185 #[.val (.ref a), .val (.long q1), .second, .val (.long q2), .second, .val (.long q3), .second, .val (.long q4), .second, .val (.int (1 : Int32)), .val (.int (1 : Int32)), .val (.int (1 : Int32)), .unset, .unset, .unset] [(.ref y), (.int (1 : Int32)), (.ref y)])
        refine Go.of (fun _ kq => XS.iload X.here hx rfl (hb hby d3_185) rfl kq) ?_
        show Go p e below s _ _ T (mkF m 187 #[.val (.ref a), .val (.long q1), .second, .val (.long q2), .second, .val (.long q3), .second, .val (.long q4), .second, .val (.int (1 : Int32)), .val (.int (1 : Int32)), .val (.int (1 : Int32)), .unset, .unset, .unset] [(.int (1 : Int32)), (.ref y), (.int (1 : Int32)), (.ref y)])
        refine Go.ldJ (.long q2) X hx hZ eT V_y (show Inb (1 : Int32) 3 from ⟨by decide, by decide⟩) rfl (hb hby d3_187) ?_
        show Go p e below s _ _ T (mkF m 188 #[.val (.ref a), .val (.long q1), .second, .val (.long q2), .second, .val (.long q3), .second, .val (.long q4), .second, .val (.int (1 : Int32)), .val (.int (1 : Int32)), .val (.int (1 : Int32)), .unset, .unset, .unset] [(.long q2), (.int (1 : Int32)), (.ref y)])
        have hin : Inb (1 : Int32) 3 := ⟨by decide, by decide⟩
        refine Go.stJ X hx hZ eT V_y hin (hb hby d3_188) ?_
        intro T h X eT wr
        have N := Fr.snoc X N g_y
        have K := K.wr wr (Or.inl (List.mem_of_getElem? (i := 2) rfl))
        have E_a := E_a.wr wr
        have F_firsts_a := F_firsts_a.other wr (Or.inl ne_a_y)
        have F_lasts_a := F_lasts_a.other wr (Or.inl ne_a_y)
        have F_count_a := F_count_a.other wr (Or.inl ne_a_y)
        have V_x := V_x.other wr ne_x_y
        have V_y : AV Z h y .long 3 (fun j => .long ((updJ (updJ g 1 q2) 1 q2) j)) := V_y.setJ wr hin.2
        show Go p e below s _ _ T (mkF m 189 #[.val (.ref a), .val (.long q1), .second, .val (.long q2), .second, .val (.long q3), .second, .val (.long q4), .second, .val (.int (1 : Int32)), .val (.int (1 : Int32)), .val (.int (1 : Int32)), .unset, .unset, .unset] [])
        refine Go.of (fun _ kq => XS.iinc X.here hx rfl (hb hby d3_189) rfl (l' := #[.val (.ref a), .val (.long q1), .second, .val (.long q2), .second, .val (.long q3), .second, .val (.long q4), .second, .val (.int (1 : Int32)), .val (.int (1 : Int32)), .val (.int (2 : Int32)), .unset, .unset, .unset]) rfl kq) ?_
        show Go p e below s _ _ T (mkF m 192 #[.val (.ref a), .val (.long q1), .second, .val (.long q2), .second, .val (.long q3), .second, .val (.long q4), .second, .val (.int (1 : Int32)), .val (.int (1 : Int32)), .val (.int (2 : Int32)), .unset, .unset, .unset] [])
        refine Go.of (fun _ kq => XS.goto X.here hx rfl (pc0 := 192) (pc' := 102) rfl (hb hby d3_192) (by decide) (by decide) kq) ?_
        show Go p e below s _ _ T (mkF m 102 #[.val (.ref a), .val (.long q1), .second, .val (.long q2), .second, .val (.long q3), .second, .val (.long q4), .second, .val (.int (1 : Int32)), .val (.int (1 : Int32)), .val (.int (2 : Int32)), .unset, .unset, .unset] [])
        refine Go.of (fun _ kq => XS.iload X.here hx rfl (hb hby d3_102) rfl kq) ?_
        show Go p e below s _ _ T (mkF m 104 #[.val (.ref a), .val (.long q1), .second, .val (.long q2), .second, .val (.long q3), .second, .val (.long q4), .second, .val (.int (1 : Int32)), .val (.int (1 : Int32)), .val (.int (2 : Int32)), .unset, .unset, .unset] [(.int (2 : Int32))])
        refine Go.of (fun _ kq => XS.aloadN X.here hx rfl (hb hby d3_104) rfl rfl kq) ?_
        show Go p e below s _ _ T (mkF m 105 #[.val (.ref a), .val (.long q1), .second, .val (.long q2), .second, .val (.long q3), .second, .val (.long q4), .second, .val (.int (1 : Int32)), .val (.int (1 : Int32)), .val (.int (2 : Int32)), .unset, .unset, .unset] [(.ref a), (.int (2 : Int32))])
        refine Go.getF X hx hZ hown (hw _ (List.mem_of_getElem? (i := 19) rfl)) Via.refl eT F_count_a (hb hby d3_105) ?_
        intro T X eT
        show Go p e below s _ _ T (mkF m 108 #[.val (.ref a), .val (.long q1), .second, .val (.long q2), .second, .val (.long q3), .second, .val (.long q4), .second, .val (.int (1 : Int32)), .val (.int (1 : Int32)), .val (.int (2 : Int32)), .unset, .unset, .unset] [(.int (2 : Int32)), (.int (2 : Int32))])
        refine Go.of (fun _ kq => XS.icmpYes X.here hx rfl (pc0 := 108) (pc' := 195) rfl (hb hby d3_108) rfl (flt (by decide)).2.1 (by decide) (by decide) kq) ?_
        show Go p e below s _ _ T (mkF m 195 #[.val (.ref a), .val (.long q1), .second, .val (.long q2), .second, .val (.long q3), .second, .val (.long q4), .second, .val (.int (1 : Int32)), .val (.int (1 : Int32)), .val (.int (2 : Int32)), .unset, .unset, .unset] [])
        refine Go.of (fun _ kq => XS.aloadN X.here hx rfl (hb hby d3_195) rfl rfl kq) ?_
        show Go p e below s _ _ T (mkF m 196 #[.val (.ref a), .val (.long q1), .second, .val (.long q2), .second, .val (.long q3), .second, .val (.long q4), .second, .val (.int (1 : Int32)), .val (.int (1 : Int32)), .val (.int (2 : Int32)), .unset, .unset, .unset] [(.ref a)])
        refine Go.of (fun _ kq => XS.iload X.here hx rfl (hb hby d3_196) rfl kq) ?_
        show Go p e below s _ _ T (mkF m 198 #[.val (.ref a), .val (.long q1), .second, .val (.long q2), .second, .val (.long q3), .second, .val (.long q4), .second, .val (.int (1 : Int32)), .val (.int (1 : Int32)), .val (.int (2 : Int32)), .unset, .unset, .unset] [(.int (1 : Int32)), (.ref a)])
        refine Go.of (fun _ kq => XS.iconst X.here hx rfl (hb hby d3_198) kq) ?_
        show Go p e below s _ _ T (mkF m 199 #[.val (.ref a), .val (.long q1), .second, .val (.long q2), .second, .val (.long q3), .second, .val (.long q4), .second, .val (.int (1 : Int32)), .val (.int (1 : Int32)), .val (.int (2 : Int32)), .unset, .unset, .unset] [(.int (1 : Int32)), (.int (1 : Int32)), (.ref a)])
        refine Go.of (fun _ kq => XS.iadd X.here hx rfl (hb hby d3_199) rfl kq) ?_
        show Go p e below s _ _ T (mkF m 200 #[.val (.ref a), .val (.long q1), .second, .val (.long q2), .second, .val (.long q3), .second, .val (.long q4), .second, .val (.int (1 : Int32)), .val (.int (1 : Int32)), .val (.int (2 : Int32)), .unset, .unset, .unset] [(.int (2 : Int32)), (.ref a)])
        refine Go.putF X hx hZ hown (hw _ (List.mem_of_getElem? (i := 19) rfl)) Via.refl eT F_count_a E_a (Or.inl (hw _ (List.mem_of_getElem? (i := 20) rfl))) (hw _ (List.mem_of_getElem? (i := 1) rfl)) (ty := .int) (by decide) rfl rfl (hb hby d3_200) ?_
        intro T h X eT wr
        have N := Fr.snoc X N g_a
        have K := K.wr wr (Or.inl (List.mem_of_getElem? (i := 0) rfl))
        have E_a := E_a.wr wr
        have F_firsts_a := F_firsts_a.other wr (Or.inr (slot_ne (Or.inr (hw _ (List.mem_of_getElem? (i := 11) rfl))) (Or.inl (hw _ (List.mem_of_getElem? (i := 20) rfl))) (by decide) (t := (.array .long)) (t' := .int) (by decide) (by decide)))
        have F_lasts_a := F_lasts_a.other wr (Or.inr (slot_ne (Or.inr (hw _ (List.mem_of_getElem? (i := 13) rfl))) (Or.inl (hw _ (List.mem_of_getElem? (i := 20) rfl))) (by decide) (t := (.array .long)) (t' := .int) (by decide) (by decide)))
        have F_count_a := F_count_a.same wr
        have V_x := V_x.other wr (Ne.symm ne_a_x)
        have V_y := V_y.other wr (Ne.symm ne_a_y)
        show Go p e below s _ _ T (mkF m 203 #[.val (.ref a), .val (.long q1), .second, .val (.long q2), .second, .val (.long q3), .second, .val (.long q4), .second, .val (.int (1 : Int32)), .val (.int (1 : Int32)), .val (.int (2 : Int32)), .unset, .unset, .unset] [])
        refine Go.of (fun _ kq => XS.aloadN X.here hx rfl (hb hby d3_203) rfl rfl kq) ?_
        show Go p e below s _ _ T (mkF m 204 #[.val (.ref a), .val (.long q1), .second, .val (.long q2), .second, .val (.long q3), .second, .val (.long q4), .second, .val (.int (1 : Int32)), .val (.int (1 : Int32)), .val (.int (2 : Int32)), .unset, .unset, .unset] [(.ref a)])
        refine Go.getF X hx hZ hown (hw _ (List.mem_of_getElem? (i := 19) rfl)) Via.refl eT F_count_a (hb hby d3_204) ?_
        intro T X eT
        show Go p e below s _ _ T (mkF m 207 #[.val (.ref a), .val (.long q1), .second, .val (.long q2), .second, .val (.long q3), .second, .val (.long q4), .second, .val (.int (1 : Int32)), .val (.int (1 : Int32)), .val (.int (2 : Int32)), .unset, .unset, .unset] [(.int (2 : Int32))])
        refine Go.of (fun _ kq => XS.iconst X.here hx rfl (hb hby d3_207) kq) ?_
        show Go p e below s _ _ T (mkF m 208 #[.val (.ref a), .val (.long q1), .second, .val (.long q2), .second, .val (.long q3), .second, .val (.long q4), .second, .val (.int (1 : Int32)), .val (.int (1 : Int32)), .val (.int (2 : Int32)), .unset, .unset, .unset] [(.int (2 : Int32)), (.int (2 : Int32))])
        refine Go.of (fun _ kq => XS.icmpYes X.here hx rfl (pc0 := 208) (pc' := 272) rfl (hb hby d3_208) rfl (flt (by decide)).2.2.2 (by decide) (by decide) kq) ?_
        show Go p e below s _ _ T (mkF m 272 #[.val (.ref a), .val (.long q1), .second, .val (.long q2), .second, .val (.long q3), .second, .val (.long q4), .second, .val (.int (1 : Int32)), .val (.int (1 : Int32)), .val (.int (2 : Int32)), .unset, .unset, .unset] [])
        refine Go.retV X hx hret hlk (hb hby d3_272) (by decide) (by decide) ?_
        try rw [eT]
        exact ⟨rfl, N, K, by unfold own_add; rw [if_neg hc3]; simp only [if_neg hc29]; unfold own_put; rw [if_pos hc128]; exact ⟨F_firsts_a, F_lasts_a, F_count_a, _, _, V_x, V_y, rfl, rfl, rfl, rfl⟩⟩
      · refine Go.of (fun _ kq => XS.ifNo X.here hx rfl (hb hby d3_128) rfl (cFgt hc128).1 kq) ?_
        show Go p e below s _ _ T (mkF m 131 #[.val (.ref a), .val (.long q1), .second, .val (.long q2), .second, .val (.long q3), .second, .val (.long q4), .second, .val (.int (1 : Int32)), .val (.int (0 : Int32)), .val (.int (1 : Int32)), .unset, .unset, .unset] [])
        refine Go.of (fun _ kq => XS.aloadN X.here hx rfl (hb hby d3_131) rfl rfl kq) ?_
        show Go p e below s _ _ T (mkF m 132 #[.val (.ref a), .val (.long q1), .second, .val (.long q2), .second, .val (.long q3), .second, .val (.long q4), .second, .val (.int (1 : Int32)), .val (.int (0 : Int32)), .val (.int (1 : Int32)), .unset, .unset, .unset] [(.ref a)])
        refine Go.getF X hx hZ hown (hw _ (List.mem_of_getElem? (i := 12) rfl)) Via.refl eT F_lasts_a (hb hby d3_132) ?_
        intro T X eT
        show Go p e below s _ _ T (mkF m 135 #[.val (.ref a), .val (.long q1), .second, .val (.long q2), .second, .val (.long q3), .second, .val (.long q4), .second, .val (.int (1 : Int32)), .val (.int (0 : Int32)), .val (.int (1 : Int32)), .unset, .unset, .unset] [(.ref y)])
        refine Go.of (fun _ kq => XS.iload X.here hx rfl (hb hby d3_135) rfl kq) ?_
        show Go p e below s _ _ T (mkF m 137 #[.val (.ref a), .val (.long q1), .second, .val (.long q2), .second, .val (.long q3), .second, .val (.long q4), .second, .val (.int (1 : Int32)), .val (.int (0 : Int32)), .val (.int (1 : Int32)), .unset, .unset, .unset] [(.int (0 : Int32)), (.ref y)])
        refine Go.of (fun _ kq => XS.aloadN X.here hx rfl (hb hby d3_137) rfl rfl kq) ?_
        show Go p e below s _ _ T (mkF m 138 #[.val (.ref a), .val (.long q1), .second, .val (.long q2), .second, .val (.long q3), .second, .val (.long q4), .second, .val (.int (1 : Int32)), .val (.int (0 : Int32)), .val (.int (1 : Int32)), .unset, .unset, .unset] [(.ref a), (.int (0 : Int32)), (.ref y)])
        refine Go.getF X hx hZ hown (hw _ (List.mem_of_getElem? (i := 12) rfl)) Via.refl eT F_lasts_a (hb hby d3_138) ?_
        intro T X eT
        show Go p e below s _ _ T (mkF m 141 #[.val (.ref a), .val (.long q1), .second, .val (.long q2), .second, .val (.long q3), .second, .val (.long q4), .second, .val (.int (1 : Int32)), .val (.int (0 : Int32)), .val (.int (1 : Int32)), .unset, .unset, .unset] [(.ref y), (.int (0 : Int32)), (.ref y)])
        refine Go.of (fun _ kq => XS.iload X.here hx rfl (hb hby d3_141) rfl kq) ?_
        show Go p e below s _ _ T (mkF m 143 #[.val (.ref a), .val (.long q1), .second, .val (.long q2), .second, .val (.long q3), .second, .val (.long q4), .second, .val (.int (1 : Int32)), .val (.int (0 : Int32)), .val (.int (1 : Int32)), .unset, .unset, .unset] [(.int (0 : Int32)), (.ref y), (.int (0 : Int32)), (.ref y)])
        refine Go.ldJ (.long (g 0)) X hx hZ eT V_y (show Inb (0 : Int32) 3 from ⟨by decide, by decide⟩) rfl (hb hby d3_143) ?_
        show Go p e below s _ _ T (mkF m 144 #[.val (.ref a), .val (.long q1), .second, .val (.long q2), .second, .val (.long q3), .second, .val (.long q4), .second, .val (.int (1 : Int32)), .val (.int (0 : Int32)), .val (.int (1 : Int32)), .unset, .unset, .unset] [(.long (g 0)), (.int (0 : Int32)), (.ref y)])
        refine Go.of (fun _ kq => XS.aloadN X.here hx rfl (hb hby d3_144) rfl rfl kq) ?_
        show Go p e below s _ _ T (mkF m 145 #[.val (.ref a), .val (.long q1), .second, .val (.long q2), .second, .val (.long q3), .second, .val (.long q4), .second, .val (.int (1 : Int32)), .val (.int (0 : Int32)), .val (.int (1 : Int32)), .unset, .unset, .unset] [(.ref a), (.long (g 0)), (.int (0 : Int32)), (.ref y)])
        refine Go.getF X hx hZ hown (hw _ (List.mem_of_getElem? (i := 12) rfl)) Via.refl eT F_lasts_a (hb hby d3_145) ?_
        intro T X eT
        show Go p e below s _ _ T (mkF m 148 #[.val (.ref a), .val (.long q1), .second, .val (.long q2), .second, .val (.long q3), .second, .val (.long q4), .second, .val (.int (1 : Int32)), .val (.int (0 : Int32)), .val (.int (1 : Int32)), .unset, .unset, .unset] [(.ref y), (.long (g 0)), (.int (0 : Int32)), (.ref y)])
        refine Go.of (fun _ kq => XS.iload X.here hx rfl (hb hby d3_148) rfl kq) ?_
        show Go p e below s _ _ T (mkF m 150 #[.val (.ref a), .val (.long q1), .second, .val (.long q2), .second, .val (.long q3), .second, .val (.long q4), .second, .val (.int (1 : Int32)), .val (.int (0 : Int32)), .val (.int (1 : Int32)), .unset, .unset, .unset] [(.int (1 : Int32)), (.ref y), (.long (g 0)), (.int (0 : Int32)), (.ref y)])
        refine Go.ldJ (.long q2) X hx hZ eT V_y (show Inb (1 : Int32) 3 from ⟨by decide, by decide⟩) rfl (hb hby d3_150) ?_
        show Go p e below s _ _ T (mkF m 151 #[.val (.ref a), .val (.long q1), .second, .val (.long q2), .second, .val (.long q3), .second, .val (.long q4), .second, .val (.int (1 : Int32)), .val (.int (0 : Int32)), .val (.int (1 : Int32)), .unset, .unset, .unset] [(.long q2), (.long (g 0)), (.int (0 : Int32)), (.ref y)])
        refine Go.static X hx hZ hown (hw _ (List.mem_of_getElem? (i := 30) rfl)) (hw _ (List.mem_of_getElem? (i := 31) rfl)) (hw _ (List.mem_of_getElem? (i := 32) rfl)) (hw _ (List.mem_of_getElem? (i := 33) rfl)) (by decide) (rmMax hw (g 0) q2 _ n0) eT 2 (by decide) (by decide) (by decide) (by decide) (by rw [hml]; rfl) (argsL := [(.long (g 0)), (.long q2)]) [(.int (0 : Int32)), (.ref y)] (lenOf pd0 rfl) rfl rfl (Nat.le_of_eq rfl) (hb hby d3_151) ?_
        intro v T L' X hQ
        obtain ⟨rfl, N', eT⟩ := hQ
        have N := Fr.app N N'
        show Go p e below s _ _ T (mkF m 154 #[.val (.ref a), .val (.long q1), .second, .val (.long q2), .second, .val (.long q3), .second, .val (.long q4), .second, .val (.int (1 : Int32)), .val (.int (0 : Int32)), .val (.int (1 : Int32)), .unset, .unset, .unset] [(.long (own_max (g 0) q2)), (.int (0 : Int32)), (.ref y)])
        have hin : Inb (0 : Int32) 3 := ⟨by decide, by decide⟩
        refine Go.stJ X hx hZ eT V_y hin (hb hby d3_154) ?_
        intro T h X eT wr
        have N := Fr.snoc X N g_y
        have K := K.wr wr (Or.inl (List.mem_of_getElem? (i := 2) rfl))
        have E_a := E_a.wr wr
        have F_firsts_a := F_firsts_a.other wr (Or.inl ne_a_y)
        have F_lasts_a := F_lasts_a.other wr (Or.inl ne_a_y)
        have F_count_a := F_count_a.other wr (Or.inl ne_a_y)
        have V_x := V_x.other wr ne_x_y
        have V_y : AV Z h y .long 3 (fun j => .long ((updJ (updJ g 1 q2) 0 (own_max (g 0) q2)) j)) := V_y.setJ wr hin.2
        show Go p e below s _ _ T (mkF m 155 #[.val (.ref a), .val (.long q1), .second, .val (.long q2), .second, .val (.long q3), .second, .val (.long q4), .second, .val (.int (1 : Int32)), .val (.int (0 : Int32)), .val (.int (1 : Int32)), .unset, .unset, .unset] [])
        refine Go.of (fun _ kq => XS.goto X.here hx rfl (pc0 := 155) (pc' := 189) rfl (hb hby d3_155) (by decide) (by decide) kq) ?_
        show Go p e below s _ _ T (mkF m 189 #[.val (.ref a), .val (.long q1), .second, .val (.long q2), .second, .val (.long q3), .second, .val (.long q4), .second, .val (.int (1 : Int32)), .val (.int (0 : Int32)), .val (.int (1 : Int32)), .unset, .unset, .unset] [])
        refine Go.of (fun _ kq => XS.iinc X.here hx rfl (hb hby d3_189) rfl (l' := #[.val (.ref a), .val (.long q1), .second, .val (.long q2), .second, .val (.long q3), .second, .val (.long q4), .second, .val (.int (1 : Int32)), .val (.int (0 : Int32)), .val (.int (2 : Int32)), .unset, .unset, .unset]) rfl kq) ?_
        show Go p e below s _ _ T (mkF m 192 #[.val (.ref a), .val (.long q1), .second, .val (.long q2), .second, .val (.long q3), .second, .val (.long q4), .second, .val (.int (1 : Int32)), .val (.int (0 : Int32)), .val (.int (2 : Int32)), .unset, .unset, .unset] [])
        refine Go.of (fun _ kq => XS.goto X.here hx rfl (pc0 := 192) (pc' := 102) rfl (hb hby d3_192) (by decide) (by decide) kq) ?_
        show Go p e below s _ _ T (mkF m 102 #[.val (.ref a), .val (.long q1), .second, .val (.long q2), .second, .val (.long q3), .second, .val (.long q4), .second, .val (.int (1 : Int32)), .val (.int (0 : Int32)), .val (.int (2 : Int32)), .unset, .unset, .unset] [])
        refine Go.of (fun _ kq => XS.iload X.here hx rfl (hb hby d3_102) rfl kq) ?_
        show Go p e below s _ _ T (mkF m 104 #[.val (.ref a), .val (.long q1), .second, .val (.long q2), .second, .val (.long q3), .second, .val (.long q4), .second, .val (.int (1 : Int32)), .val (.int (0 : Int32)), .val (.int (2 : Int32)), .unset, .unset, .unset] [(.int (2 : Int32))])
        refine Go.of (fun _ kq => XS.aloadN X.here hx rfl (hb hby d3_104) rfl rfl kq) ?_
        show Go p e below s _ _ T (mkF m 105 #[.val (.ref a), .val (.long q1), .second, .val (.long q2), .second, .val (.long q3), .second, .val (.long q4), .second, .val (.int (1 : Int32)), .val (.int (0 : Int32)), .val (.int (2 : Int32)), .unset, .unset, .unset] [(.ref a), (.int (2 : Int32))])
        refine Go.getF X hx hZ hown (hw _ (List.mem_of_getElem? (i := 19) rfl)) Via.refl eT F_count_a (hb hby d3_105) ?_
        intro T X eT
        show Go p e below s _ _ T (mkF m 108 #[.val (.ref a), .val (.long q1), .second, .val (.long q2), .second, .val (.long q3), .second, .val (.long q4), .second, .val (.int (1 : Int32)), .val (.int (0 : Int32)), .val (.int (2 : Int32)), .unset, .unset, .unset] [(.int (2 : Int32)), (.int (2 : Int32))])
        refine Go.of (fun _ kq => XS.icmpYes X.here hx rfl (pc0 := 108) (pc' := 195) rfl (hb hby d3_108) rfl (flt (by decide)).2.1 (by decide) (by decide) kq) ?_
        show Go p e below s _ _ T (mkF m 195 #[.val (.ref a), .val (.long q1), .second, .val (.long q2), .second, .val (.long q3), .second, .val (.long q4), .second, .val (.int (1 : Int32)), .val (.int (0 : Int32)), .val (.int (2 : Int32)), .unset, .unset, .unset] [])
        refine Go.of (fun _ kq => XS.aloadN X.here hx rfl (hb hby d3_195) rfl rfl kq) ?_
        show Go p e below s _ _ T (mkF m 196 #[.val (.ref a), .val (.long q1), .second, .val (.long q2), .second, .val (.long q3), .second, .val (.long q4), .second, .val (.int (1 : Int32)), .val (.int (0 : Int32)), .val (.int (2 : Int32)), .unset, .unset, .unset] [(.ref a)])
        refine Go.of (fun _ kq => XS.iload X.here hx rfl (hb hby d3_196) rfl kq) ?_
        show Go p e below s _ _ T (mkF m 198 #[.val (.ref a), .val (.long q1), .second, .val (.long q2), .second, .val (.long q3), .second, .val (.long q4), .second, .val (.int (1 : Int32)), .val (.int (0 : Int32)), .val (.int (2 : Int32)), .unset, .unset, .unset] [(.int (0 : Int32)), (.ref a)])
        refine Go.of (fun _ kq => XS.iconst X.here hx rfl (hb hby d3_198) kq) ?_
        show Go p e below s _ _ T (mkF m 199 #[.val (.ref a), .val (.long q1), .second, .val (.long q2), .second, .val (.long q3), .second, .val (.long q4), .second, .val (.int (1 : Int32)), .val (.int (0 : Int32)), .val (.int (2 : Int32)), .unset, .unset, .unset] [(.int (1 : Int32)), (.int (0 : Int32)), (.ref a)])
        refine Go.of (fun _ kq => XS.iadd X.here hx rfl (hb hby d3_199) rfl kq) ?_
        show Go p e below s _ _ T (mkF m 200 #[.val (.ref a), .val (.long q1), .second, .val (.long q2), .second, .val (.long q3), .second, .val (.long q4), .second, .val (.int (1 : Int32)), .val (.int (0 : Int32)), .val (.int (2 : Int32)), .unset, .unset, .unset] [(.int (1 : Int32)), (.ref a)])
        refine Go.putF X hx hZ hown (hw _ (List.mem_of_getElem? (i := 19) rfl)) Via.refl eT F_count_a E_a (Or.inl (hw _ (List.mem_of_getElem? (i := 20) rfl))) (hw _ (List.mem_of_getElem? (i := 1) rfl)) (ty := .int) (by decide) rfl rfl (hb hby d3_200) ?_
        intro T h X eT wr
        have N := Fr.snoc X N g_a
        have K := K.wr wr (Or.inl (List.mem_of_getElem? (i := 0) rfl))
        have E_a := E_a.wr wr
        have F_firsts_a := F_firsts_a.other wr (Or.inr (slot_ne (Or.inr (hw _ (List.mem_of_getElem? (i := 11) rfl))) (Or.inl (hw _ (List.mem_of_getElem? (i := 20) rfl))) (by decide) (t := (.array .long)) (t' := .int) (by decide) (by decide)))
        have F_lasts_a := F_lasts_a.other wr (Or.inr (slot_ne (Or.inr (hw _ (List.mem_of_getElem? (i := 13) rfl))) (Or.inl (hw _ (List.mem_of_getElem? (i := 20) rfl))) (by decide) (t := (.array .long)) (t' := .int) (by decide) (by decide)))
        have F_count_a := F_count_a.same wr
        have V_x := V_x.other wr (Ne.symm ne_a_x)
        have V_y := V_y.other wr (Ne.symm ne_a_y)
        show Go p e below s _ _ T (mkF m 203 #[.val (.ref a), .val (.long q1), .second, .val (.long q2), .second, .val (.long q3), .second, .val (.long q4), .second, .val (.int (1 : Int32)), .val (.int (0 : Int32)), .val (.int (2 : Int32)), .unset, .unset, .unset] [])
        refine Go.of (fun _ kq => XS.aloadN X.here hx rfl (hb hby d3_203) rfl rfl kq) ?_
        show Go p e below s _ _ T (mkF m 204 #[.val (.ref a), .val (.long q1), .second, .val (.long q2), .second, .val (.long q3), .second, .val (.long q4), .second, .val (.int (1 : Int32)), .val (.int (0 : Int32)), .val (.int (2 : Int32)), .unset, .unset, .unset] [(.ref a)])
        refine Go.getF X hx hZ hown (hw _ (List.mem_of_getElem? (i := 19) rfl)) Via.refl eT F_count_a (hb hby d3_204) ?_
        intro T X eT
        show Go p e below s _ _ T (mkF m 207 #[.val (.ref a), .val (.long q1), .second, .val (.long q2), .second, .val (.long q3), .second, .val (.long q4), .second, .val (.int (1 : Int32)), .val (.int (0 : Int32)), .val (.int (2 : Int32)), .unset, .unset, .unset] [(.int (1 : Int32))])
        refine Go.of (fun _ kq => XS.iconst X.here hx rfl (hb hby d3_207) kq) ?_
        show Go p e below s _ _ T (mkF m 208 #[.val (.ref a), .val (.long q1), .second, .val (.long q2), .second, .val (.long q3), .second, .val (.long q4), .second, .val (.int (1 : Int32)), .val (.int (0 : Int32)), .val (.int (2 : Int32)), .unset, .unset, .unset] [(.int (2 : Int32)), (.int (1 : Int32))])
        refine Go.of (fun _ kq => XS.icmpYes X.here hx rfl (pc0 := 208) (pc' := 272) rfl (hb hby d3_208) rfl (flt (by decide)).2.2.2 (by decide) (by decide) kq) ?_
        show Go p e below s _ _ T (mkF m 272 #[.val (.ref a), .val (.long q1), .second, .val (.long q2), .second, .val (.long q3), .second, .val (.long q4), .second, .val (.int (1 : Int32)), .val (.int (0 : Int32)), .val (.int (2 : Int32)), .unset, .unset, .unset] [])
        refine Go.retV X hx hret hlk (hb hby d3_272) (by decide) (by decide) ?_
        try rw [eT]
        exact ⟨rfl, N, K, by unfold own_add; rw [if_neg hc3]; simp only [if_neg hc29]; unfold own_put; rw [if_neg hc128]; exact ⟨F_firsts_a, F_lasts_a, F_count_a, _, _, V_x, V_y, rfl, rfl⟩⟩
theorem d4_0 : decode method_2_code 0 = .ok (.lload_n 0, 1) := by decide +kernel
theorem d4_1 : decode method_2_code 1 = .ok (.lload 4, 2) := by decide +kernel
theorem d4_3 : decode method_2_code 3 = .ok (.lcmp, 1) := by decide +kernel
theorem d4_4 : decode method_2_code 4 = .ok (.ifCond .gt 14, 3) := by decide +kernel
theorem d4_7 : decode method_2_code 7 = .ok (.lload 4, 2) := by decide +kernel
theorem d4_9 : decode method_2_code 9 = .ok (.lload_n 2, 1) := by decide +kernel
theorem d4_10 : decode method_2_code 10 = .ok (.lcmp, 1) := by decide +kernel
theorem d4_11 : decode method_2_code 11 = .ok (.ifCond .gt 7, 3) := by decide +kernel
theorem d4_14 : decode method_2_code 14 = .ok (.iconst 1, 1) := by decide +kernel
theorem d4_15 : decode method_2_code 15 = .ok (.goto 4, 3) := by decide +kernel
theorem d4_18 : decode method_2_code 18 = .ok (.iconst 0, 1) := by decide +kernel
theorem d4_19 : decode method_2_code 19 = .ok (.ireturn, 1) := by decide +kernel
theorem pn4 : plainFor (⟨"com/example/credence/credence/oauth1/SpentRangesContainsPinLaw", "in", "(JJJ)Z"⟩ : MethodName) = true := plainFor_of_name (by first | (simp [plainName, overriddenIn]; done) | decide +kernel)
theorem ef_rmIn (m : MethodId) (x0 : Int64) (x1 : Int64) (x2 : Int64) : entryFrame m #[(.long x0), (.long x1), (.long x2)] 6 = mkF m 0 #[.val (.long x0), .second, .val (.long x1), .second, .val (.long x2), .second] [] := by first | (simp [entryFrame, mkF, argsToLocals, Value.category]; done) | rfl
set_option maxRecDepth 65536 in
set_option maxHeartbeats 40000000 in
theorem rmIn {l : Launch} {Z : State} {a0 : Array Value} (hw : ∀ d ∈ tables_1, d.before a0 Z = true) (q1 q2 t : Int64) (h0 : Heap) (n0 : Nat)  :
    Met l Z (⟨"com/example/credence/credence/oauth1/SpentRangesContainsPinLaw", "in", "(JJJ)Z"⟩ : MethodName) method_2_code 6 (some .boolean) [] ({ frames := 0, cells := 0, slots := 0, locals := 0 } : Room) #[(.long q1), (.long q2), (.long t)] h0 (fun v h L => v = some (.int (own_in q1 q2 t)) ∧ Fr n0 L ∧ h = h0) := by
  refine Met.mk pn4 ?_
  intro p e s m below meth c T hx hby hml hown hnm hret hlk hZ X eT
  refine Go.cast (ef_rmIn m q1 q2 t) ?_
  have N := Fr.nil n0
  show Go p e below s _ _ T (mkF m 0 #[.val (.long q1), .second, .val (.long q2), .second, .val (.long t), .second] [])
  refine Go.of (fun _ kq => XS.lloadN X.here hx rfl (hb hby d4_0) rfl kq) ?_
  show Go p e below s _ _ T (mkF m 1 #[.val (.long q1), .second, .val (.long q2), .second, .val (.long t), .second] [(.long q1)])
  refine Go.of (fun _ kq => XS.lload X.here hx rfl (hb hby d4_1) rfl kq) ?_
  show Go p e below s _ _ T (mkF m 3 #[.val (.long q1), .second, .val (.long q2), .second, .val (.long t), .second] [(.long t), (.long q1)])
  refine Go.of (fun _ kq => XS.lcmp X.here hx rfl (hb hby d4_3) rfl kq) ?_
  show Go p e below s _ _ T (mkF m 4 #[.val (.long q1), .second, .val (.long q2), .second, .val (.long t), .second] [(.int (lcmpW q1 t))])
  by_cases hc4 : t < q1
  · refine Go.of (fun _ kq => XS.ifYes X.here hx rfl (pc0 := 4) (pc' := 18) rfl (hb hby d4_4) rfl (cZgt hc4).1 (by decide) (by decide) kq) ?_
    show Go p e below s _ _ T (mkF m 18 #[.val (.long q1), .second, .val (.long q2), .second, .val (.long t), .second] [])
    refine Go.of (fun _ kq => XS.iconst X.here hx rfl (hb hby d4_18) kq) ?_
    show Go p e below s _ _ T (mkF m 19 #[.val (.long q1), .second, .val (.long q2), .second, .val (.long t), .second] [(.int (0 : Int32))])
    refine Go.retN X hx hret (by simp) hlk (hb hby d4_19) (by decide) (by decide) ?_
    try rw [eT]
    exact ⟨by rw [show own_in q1 q2 t = (0 : Int32) by simp [own_in, hc4]]; rfl, N, rfl⟩
  · refine Go.of (fun _ kq => XS.ifNo X.here hx rfl (hb hby d4_4) rfl (cFgt hc4).1 kq) ?_
    show Go p e below s _ _ T (mkF m 7 #[.val (.long q1), .second, .val (.long q2), .second, .val (.long t), .second] [])
    refine Go.of (fun _ kq => XS.lload X.here hx rfl (hb hby d4_7) rfl kq) ?_
    show Go p e below s _ _ T (mkF m 9 #[.val (.long q1), .second, .val (.long q2), .second, .val (.long t), .second] [(.long t)])
    refine Go.of (fun _ kq => XS.lloadN X.here hx rfl (hb hby d4_9) rfl kq) ?_
    show Go p e below s _ _ T (mkF m 10 #[.val (.long q1), .second, .val (.long q2), .second, .val (.long t), .second] [(.long q2), (.long t)])
    refine Go.of (fun _ kq => XS.lcmp X.here hx rfl (hb hby d4_10) rfl kq) ?_
    show Go p e below s _ _ T (mkF m 11 #[.val (.long q1), .second, .val (.long q2), .second, .val (.long t), .second] [(.int (lcmpW t q2))])
    by_cases hc11 : q2 < t
    · refine Go.of (fun _ kq => XS.ifYes X.here hx rfl (pc0 := 11) (pc' := 18) rfl (hb hby d4_11) rfl (cZgt hc11).1 (by decide) (by decide) kq) ?_
      show Go p e below s _ _ T (mkF m 18 #[.val (.long q1), .second, .val (.long q2), .second, .val (.long t), .second] [])
      refine Go.of (fun _ kq => XS.iconst X.here hx rfl (hb hby d4_18) kq) ?_
      show Go p e below s _ _ T (mkF m 19 #[.val (.long q1), .second, .val (.long q2), .second, .val (.long t), .second] [(.int (0 : Int32))])
      refine Go.retN X hx hret (by simp) hlk (hb hby d4_19) (by decide) (by decide) ?_
      try rw [eT]
      exact ⟨by rw [show own_in q1 q2 t = (0 : Int32) by simp [own_in, hc4, hc11]]; rfl, N, rfl⟩
    · refine Go.of (fun _ kq => XS.ifNo X.here hx rfl (hb hby d4_11) rfl (cFgt hc11).1 kq) ?_
      show Go p e below s _ _ T (mkF m 14 #[.val (.long q1), .second, .val (.long q2), .second, .val (.long t), .second] [])
      refine Go.of (fun _ kq => XS.iconst X.here hx rfl (hb hby d4_14) kq) ?_
      show Go p e below s _ _ T (mkF m 15 #[.val (.long q1), .second, .val (.long q2), .second, .val (.long t), .second] [(.int (1 : Int32))])
      refine Go.of (fun _ kq => XS.goto X.here hx rfl (pc0 := 15) (pc' := 19) rfl (hb hby d4_15) (by decide) (by decide) kq) ?_
      show Go p e below s _ _ T (mkF m 19 #[.val (.long q1), .second, .val (.long q2), .second, .val (.long t), .second] [(.int (1 : Int32))])
      refine Go.retN X hx hret (by simp) hlk (hb hby d4_19) (by decide) (by decide) ?_
      try rw [eT]
      exact ⟨by rw [show own_in q1 q2 t = (1 : Int32) by simp [own_in, hc4, hc11]]; rfl, N, rfl⟩
theorem d5_0 : decode prog_18_method_2_code 0 = .ok (.iconst 0, 1) := by decide +kernel
theorem d5_1 : decode prog_18_method_2_code 1 = .ok (.istore_n 3, 1) := by decide +kernel
theorem d5_2 : decode prog_18_method_2_code 2 = .ok (.iconst 0, 1) := by decide +kernel
theorem d5_3 : decode prog_18_method_2_code 3 = .ok (.istore 4, 2) := by decide +kernel
theorem d5_5 : decode prog_18_method_2_code 5 = .ok (.iload 4, 2) := by decide +kernel
theorem d5_7 : decode prog_18_method_2_code 7 = .ok (.aload_n 0, 1) := by decide +kernel
theorem d5_8 : decode prog_18_method_2_code 8 = .ok (.getfield 18, 3) := by decide +kernel
theorem d5_11 : decode prog_18_method_2_code 11 = .ok (.if_icmp .ge 43, 3) := by decide +kernel
theorem d5_54 : decode prog_18_method_2_code 54 = .ok (.iload_n 3, 1) := by decide +kernel
theorem d5_55 : decode prog_18_method_2_code 55 = .ok (.ireturn, 1) := by decide +kernel
theorem pn5 : plainFor (⟨"com/example/credence/credence/oauth1/SpentRanges", "contains", "(J)Z"⟩ : MethodName) = true := plainFor_of_name (by first | (simp [plainName, overriddenIn]; done) | decide +kernel)
theorem ef_rmHas0 (m : MethodId) (x0 : Addr) (x1 : Int64) : entryFrame m #[(.ref x0), (.long x1)] 5 = mkF m 0 #[.val (.ref x0), .val (.long x1), .second, .unset, .unset] [] := by first | (simp [entryFrame, mkF, argsToLocals, Value.category]; done) | rfl
set_option maxRecDepth 65536 in
set_option maxHeartbeats 40000000 in
theorem rmHas0 {l : Launch} {Z : State} {a0 : Array Value} (hw : ∀ d ∈ tables_1, d.before a0 Z = true) (a : Addr) (t : Int64) (x y : Addr) (f g : Nat → Int64) (h0 : Heap) (n0 : Nat) (F_firsts_a : Fld Z h0 a "com/example/credence/credence/oauth1/SpentRanges" "firsts" "[J" (.ref x)) (F_lasts_a : Fld Z h0 a "com/example/credence/credence/oauth1/SpentRanges" "lasts" "[J" (.ref y)) (F_count_a : Fld Z h0 a "com/example/credence/credence/oauth1/SpentRanges" "count" "I" (.int (0 : Int32))) (V_x : AV Z h0 x .long 3 (fun j => .long (f j))) (V_y : AV Z h0 y .long 3 (fun j => .long (g j))) :
    Met l Z (⟨"com/example/credence/credence/oauth1/SpentRanges", "contains", "(J)Z"⟩ : MethodName) prog_18_method_2_code 5 (some .boolean) [] ({ frames := 0, cells := 0, slots := 0, locals := 0 } : Room) #[(.ref a), (.long t)] h0 (fun v h L => v = some (.int (own_has t [])) ∧ Fr n0 L ∧ h = h0) := by
  refine Met.mk pn5 ?_
  intro p e s m below meth c T hx hby hml hown hnm hret hlk hZ X eT
  refine Go.cast (ef_rmHas0 m a t) ?_
  have N := Fr.nil n0
  show Go p e below s _ _ T (mkF m 0 #[.val (.ref a), .val (.long t), .second, .unset, .unset] [])
  refine Go.of (fun _ kq => XS.iconst X.here hx rfl (hb hby d5_0) kq) ?_
  show Go p e below s _ _ T (mkF m 1 #[.val (.ref a), .val (.long t), .second, .unset, .unset] [(.int (0 : Int32))])
  refine Go.of (fun _ kq => XS.istoreN X.here hx rfl (hb hby d5_1) rfl (l' := #[.val (.ref a), .val (.long t), .second, .val (.int (0 : Int32)), .unset]) rfl kq) ?_
  show Go p e below s _ _ T (mkF m 2 #[.val (.ref a), .val (.long t), .second, .val (.int (0 : Int32)), .unset] [])
  refine Go.of (fun _ kq => XS.iconst X.here hx rfl (hb hby d5_2) kq) ?_
  show Go p e below s _ _ T (mkF m 3 #[.val (.ref a), .val (.long t), .second, .val (.int (0 : Int32)), .unset] [(.int (0 : Int32))])
  refine Go.of (fun _ kq => XS.istore X.here hx rfl (hb hby d5_3) rfl (l' := #[.val (.ref a), .val (.long t), .second, .val (.int (0 : Int32)), .val (.int (0 : Int32))]) rfl kq) ?_
  show Go p e below s _ _ T (mkF m 5 #[.val (.ref a), .val (.long t), .second, .val (.int (0 : Int32)), .val (.int (0 : Int32))] [])
  refine Go.of (fun _ kq => XS.iload X.here hx rfl (hb hby d5_5) rfl kq) ?_
  show Go p e below s _ _ T (mkF m 7 #[.val (.ref a), .val (.long t), .second, .val (.int (0 : Int32)), .val (.int (0 : Int32))] [(.int (0 : Int32))])
  refine Go.of (fun _ kq => XS.aloadN X.here hx rfl (hb hby d5_7) rfl rfl kq) ?_
  show Go p e below s _ _ T (mkF m 8 #[.val (.ref a), .val (.long t), .second, .val (.int (0 : Int32)), .val (.int (0 : Int32))] [(.ref a), (.int (0 : Int32))])
  refine Go.getF X hx hZ hown (hw _ (List.mem_of_getElem? (i := 19) rfl)) Via.refl eT F_count_a (hb hby d5_8) ?_
  intro T X eT
  show Go p e below s _ _ T (mkF m 11 #[.val (.ref a), .val (.long t), .second, .val (.int (0 : Int32)), .val (.int (0 : Int32))] [(.int (0 : Int32)), (.int (0 : Int32))])
  refine Go.of (fun _ kq => XS.icmpYes X.here hx rfl (pc0 := 11) (pc' := 54) rfl (hb hby d5_11) rfl (flt (by decide)).2.1 (by decide) (by decide) kq) ?_
  show Go p e below s _ _ T (mkF m 54 #[.val (.ref a), .val (.long t), .second, .val (.int (0 : Int32)), .val (.int (0 : Int32))] [])
  refine Go.of (fun _ kq => XS.iloadN X.here hx rfl (hb hby d5_54) rfl kq) ?_
  show Go p e below s _ _ T (mkF m 55 #[.val (.ref a), .val (.long t), .second, .val (.int (0 : Int32)), .val (.int (0 : Int32))] [(.int (0 : Int32))])
  refine Go.retN X hx hret (by simp) hlk (hb hby d5_55) (by decide) (by decide) ?_
  try rw [eT]
  exact ⟨by rw [show own_has t [] = (0 : Int32) by simp [own_has, own_in]]; rfl, N, rfl⟩
theorem d5_14 : decode prog_18_method_2_code 14 = .ok (.iload_n 3, 1) := by decide +kernel
theorem d5_15 : decode prog_18_method_2_code 15 = .ok (.ifCond .ne 39, 3) := by decide +kernel
theorem d5_18 : decode prog_18_method_2_code 18 = .ok (.aload_n 0, 1) := by decide +kernel
theorem d5_19 : decode prog_18_method_2_code 19 = .ok (.getfield 11, 3) := by decide +kernel
theorem d5_22 : decode prog_18_method_2_code 22 = .ok (.iload 4, 2) := by decide +kernel
theorem d5_24 : decode prog_18_method_2_code 24 = .ok (.laload, 1) := by decide +kernel
theorem d5_25 : decode prog_18_method_2_code 25 = .ok (.lload_n 1, 1) := by decide +kernel
theorem d5_26 : decode prog_18_method_2_code 26 = .ok (.lcmp, 1) := by decide +kernel
theorem d5_27 : decode prog_18_method_2_code 27 = .ok (.ifCond .gt 19, 3) := by decide +kernel
theorem d5_30 : decode prog_18_method_2_code 30 = .ok (.lload_n 1, 1) := by decide +kernel
theorem d5_31 : decode prog_18_method_2_code 31 = .ok (.aload_n 0, 1) := by decide +kernel
theorem d5_32 : decode prog_18_method_2_code 32 = .ok (.getfield 15, 3) := by decide +kernel
theorem d5_35 : decode prog_18_method_2_code 35 = .ok (.iload 4, 2) := by decide +kernel
theorem d5_37 : decode prog_18_method_2_code 37 = .ok (.laload, 1) := by decide +kernel
theorem d5_38 : decode prog_18_method_2_code 38 = .ok (.lcmp, 1) := by decide +kernel
theorem d5_39 : decode prog_18_method_2_code 39 = .ok (.ifCond .gt 7, 3) := by decide +kernel
theorem d5_42 : decode prog_18_method_2_code 42 = .ok (.iconst 1, 1) := by decide +kernel
theorem d5_43 : decode prog_18_method_2_code 43 = .ok (.goto 4, 3) := by decide +kernel
theorem d5_46 : decode prog_18_method_2_code 46 = .ok (.iconst 0, 1) := by decide +kernel
theorem d5_47 : decode prog_18_method_2_code 47 = .ok (.istore_n 3, 1) := by decide +kernel
theorem d5_48 : decode prog_18_method_2_code 48 = .ok (.iinc 4 1, 3) := by decide +kernel
theorem d5_51 : decode prog_18_method_2_code 51 = .ok (.goto (-46), 3) := by decide +kernel
theorem ef_rmHas1 (m : MethodId) (x0 : Addr) (x1 : Int64) : entryFrame m #[(.ref x0), (.long x1)] 5 = mkF m 0 #[.val (.ref x0), .val (.long x1), .second, .unset, .unset] [] := by first | (simp [entryFrame, mkF, argsToLocals, Value.category]; done) | rfl
set_option maxRecDepth 65536 in
set_option maxHeartbeats 40000000 in
theorem rmHas1 {l : Launch} {Z : State} {a0 : Array Value} (hw : ∀ d ∈ tables_1, d.before a0 Z = true) (a : Addr) (t : Int64) (x y : Addr) (f g : Nat → Int64) (h0 : Heap) (n0 : Nat) (F_firsts_a : Fld Z h0 a "com/example/credence/credence/oauth1/SpentRanges" "firsts" "[J" (.ref x)) (F_lasts_a : Fld Z h0 a "com/example/credence/credence/oauth1/SpentRanges" "lasts" "[J" (.ref y)) (F_count_a : Fld Z h0 a "com/example/credence/credence/oauth1/SpentRanges" "count" "I" (.int (1 : Int32))) (V_x : AV Z h0 x .long 3 (fun j => .long (f j))) (V_y : AV Z h0 y .long 3 (fun j => .long (g j))) :
    Met l Z (⟨"com/example/credence/credence/oauth1/SpentRanges", "contains", "(J)Z"⟩ : MethodName) prog_18_method_2_code 5 (some .boolean) [] ({ frames := 0, cells := 0, slots := 0, locals := 0 } : Room) #[(.ref a), (.long t)] h0 (fun v h L => v = some (.int (own_has t [(f 0, g 0)])) ∧ Fr n0 L ∧ h = h0) := by
  refine Met.mk pn5 ?_
  intro p e s m below meth c T hx hby hml hown hnm hret hlk hZ X eT
  refine Go.cast (ef_rmHas1 m a t) ?_
  have N := Fr.nil n0
  show Go p e below s _ _ T (mkF m 0 #[.val (.ref a), .val (.long t), .second, .unset, .unset] [])
  refine Go.of (fun _ kq => XS.iconst X.here hx rfl (hb hby d5_0) kq) ?_
  show Go p e below s _ _ T (mkF m 1 #[.val (.ref a), .val (.long t), .second, .unset, .unset] [(.int (0 : Int32))])
  refine Go.of (fun _ kq => XS.istoreN X.here hx rfl (hb hby d5_1) rfl (l' := #[.val (.ref a), .val (.long t), .second, .val (.int (0 : Int32)), .unset]) rfl kq) ?_
  show Go p e below s _ _ T (mkF m 2 #[.val (.ref a), .val (.long t), .second, .val (.int (0 : Int32)), .unset] [])
  refine Go.of (fun _ kq => XS.iconst X.here hx rfl (hb hby d5_2) kq) ?_
  show Go p e below s _ _ T (mkF m 3 #[.val (.ref a), .val (.long t), .second, .val (.int (0 : Int32)), .unset] [(.int (0 : Int32))])
  refine Go.of (fun _ kq => XS.istore X.here hx rfl (hb hby d5_3) rfl (l' := #[.val (.ref a), .val (.long t), .second, .val (.int (0 : Int32)), .val (.int (0 : Int32))]) rfl kq) ?_
  show Go p e below s _ _ T (mkF m 5 #[.val (.ref a), .val (.long t), .second, .val (.int (0 : Int32)), .val (.int (0 : Int32))] [])
  refine Go.of (fun _ kq => XS.iload X.here hx rfl (hb hby d5_5) rfl kq) ?_
  show Go p e below s _ _ T (mkF m 7 #[.val (.ref a), .val (.long t), .second, .val (.int (0 : Int32)), .val (.int (0 : Int32))] [(.int (0 : Int32))])
  refine Go.of (fun _ kq => XS.aloadN X.here hx rfl (hb hby d5_7) rfl rfl kq) ?_
  show Go p e below s _ _ T (mkF m 8 #[.val (.ref a), .val (.long t), .second, .val (.int (0 : Int32)), .val (.int (0 : Int32))] [(.ref a), (.int (0 : Int32))])
  refine Go.getF X hx hZ hown (hw _ (List.mem_of_getElem? (i := 19) rfl)) Via.refl eT F_count_a (hb hby d5_8) ?_
  intro T X eT
  show Go p e below s _ _ T (mkF m 11 #[.val (.ref a), .val (.long t), .second, .val (.int (0 : Int32)), .val (.int (0 : Int32))] [(.int (1 : Int32)), (.int (0 : Int32))])
  refine Go.of (fun _ kq => XS.icmpNo X.here hx rfl (hb hby d5_11) rfl (tlt (by decide)).2.1 kq) ?_
  show Go p e below s _ _ T (mkF m 14 #[.val (.ref a), .val (.long t), .second, .val (.int (0 : Int32)), .val (.int (0 : Int32))] [])
  refine Go.of (fun _ kq => XS.iloadN X.here hx rfl (hb hby d5_14) rfl kq) ?_
  show Go p e below s _ _ T (mkF m 15 #[.val (.ref a), .val (.long t), .second, .val (.int (0 : Int32)), .val (.int (0 : Int32))] [(.int (0 : Int32))])
  refine Go.of (fun _ kq => XS.ifNo X.here hx rfl (hb hby d5_15) rfl ((if0 _ _).trans (teq (by decide)).2) kq) ?_
  show Go p e below s _ _ T (mkF m 18 #[.val (.ref a), .val (.long t), .second, .val (.int (0 : Int32)), .val (.int (0 : Int32))] [])
  refine Go.of (fun _ kq => XS.aloadN X.here hx rfl (hb hby d5_18) rfl rfl kq) ?_
  show Go p e below s _ _ T (mkF m 19 #[.val (.ref a), .val (.long t), .second, .val (.int (0 : Int32)), .val (.int (0 : Int32))] [(.ref a)])
  refine Go.getF X hx hZ hown (hw _ (List.mem_of_getElem? (i := 10) rfl)) Via.refl eT F_firsts_a (hb hby d5_19) ?_
  intro T X eT
  show Go p e below s _ _ T (mkF m 22 #[.val (.ref a), .val (.long t), .second, .val (.int (0 : Int32)), .val (.int (0 : Int32))] [(.ref x)])
  refine Go.of (fun _ kq => XS.iload X.here hx rfl (hb hby d5_22) rfl kq) ?_
  show Go p e below s _ _ T (mkF m 24 #[.val (.ref a), .val (.long t), .second, .val (.int (0 : Int32)), .val (.int (0 : Int32))] [(.int (0 : Int32)), (.ref x)])
  refine Go.ldJ (.long (f 0)) X hx hZ eT V_x (show Inb (0 : Int32) 3 from ⟨by decide, by decide⟩) rfl (hb hby d5_24) ?_
  show Go p e below s _ _ T (mkF m 25 #[.val (.ref a), .val (.long t), .second, .val (.int (0 : Int32)), .val (.int (0 : Int32))] [(.long (f 0))])
  refine Go.of (fun _ kq => XS.lloadN X.here hx rfl (hb hby d5_25) rfl kq) ?_
  show Go p e below s _ _ T (mkF m 26 #[.val (.ref a), .val (.long t), .second, .val (.int (0 : Int32)), .val (.int (0 : Int32))] [(.long t), (.long (f 0))])
  refine Go.of (fun _ kq => XS.lcmp X.here hx rfl (hb hby d5_26) rfl kq) ?_
  show Go p e below s _ _ T (mkF m 27 #[.val (.ref a), .val (.long t), .second, .val (.int (0 : Int32)), .val (.int (0 : Int32))] [(.int (lcmpW (f 0) t))])
  by_cases hc27_1 : t < (f 0)
  · refine Go.of (fun _ kq => XS.ifYes X.here hx rfl (pc0 := 27) (pc' := 46) rfl (hb hby d5_27) rfl (cZgt hc27_1).1 (by decide) (by decide) kq) ?_
    show Go p e below s _ _ T (mkF m 46 #[.val (.ref a), .val (.long t), .second, .val (.int (0 : Int32)), .val (.int (0 : Int32))] [])
    refine Go.of (fun _ kq => XS.iconst X.here hx rfl (hb hby d5_46) kq) ?_
    show Go p e below s _ _ T (mkF m 47 #[.val (.ref a), .val (.long t), .second, .val (.int (0 : Int32)), .val (.int (0 : Int32))] [(.int (0 : Int32))])
    refine Go.of (fun _ kq => XS.istoreN X.here hx rfl (hb hby d5_47) rfl (l' := #[.val (.ref a), .val (.long t), .second, .val (.int (0 : Int32)), .val (.int (0 : Int32))]) rfl kq) ?_
    show Go p e below s _ _ T (mkF m 48 #[.val (.ref a), .val (.long t), .second, .val (.int (0 : Int32)), .val (.int (0 : Int32))] [])
    refine Go.of (fun _ kq => XS.iinc X.here hx rfl (hb hby d5_48) rfl (l' := #[.val (.ref a), .val (.long t), .second, .val (.int (0 : Int32)), .val (.int (1 : Int32))]) rfl kq) ?_
    show Go p e below s _ _ T (mkF m 51 #[.val (.ref a), .val (.long t), .second, .val (.int (0 : Int32)), .val (.int (1 : Int32))] [])
    refine Go.of (fun _ kq => XS.goto X.here hx rfl (pc0 := 51) (pc' := 5) rfl (hb hby d5_51) (by decide) (by decide) kq) ?_
    show Go p e below s _ _ T (mkF m 5 #[.val (.ref a), .val (.long t), .second, .val (.int (0 : Int32)), .val (.int (1 : Int32))] [])
    refine Go.of (fun _ kq => XS.iload X.here hx rfl (hb hby d5_5) rfl kq) ?_
    show Go p e below s _ _ T (mkF m 7 #[.val (.ref a), .val (.long t), .second, .val (.int (0 : Int32)), .val (.int (1 : Int32))] [(.int (1 : Int32))])
    refine Go.of (fun _ kq => XS.aloadN X.here hx rfl (hb hby d5_7) rfl rfl kq) ?_
    show Go p e below s _ _ T (mkF m 8 #[.val (.ref a), .val (.long t), .second, .val (.int (0 : Int32)), .val (.int (1 : Int32))] [(.ref a), (.int (1 : Int32))])
    refine Go.getF X hx hZ hown (hw _ (List.mem_of_getElem? (i := 19) rfl)) Via.refl eT F_count_a (hb hby d5_8) ?_
    intro T X eT
    show Go p e below s _ _ T (mkF m 11 #[.val (.ref a), .val (.long t), .second, .val (.int (0 : Int32)), .val (.int (1 : Int32))] [(.int (1 : Int32)), (.int (1 : Int32))])
    refine Go.of (fun _ kq => XS.icmpYes X.here hx rfl (pc0 := 11) (pc' := 54) rfl (hb hby d5_11) rfl (flt (by decide)).2.1 (by decide) (by decide) kq) ?_
    show Go p e below s _ _ T (mkF m 54 #[.val (.ref a), .val (.long t), .second, .val (.int (0 : Int32)), .val (.int (1 : Int32))] [])
    refine Go.of (fun _ kq => XS.iloadN X.here hx rfl (hb hby d5_54) rfl kq) ?_
    show Go p e below s _ _ T (mkF m 55 #[.val (.ref a), .val (.long t), .second, .val (.int (0 : Int32)), .val (.int (1 : Int32))] [(.int (0 : Int32))])
    refine Go.retN X hx hret (by simp) hlk (hb hby d5_55) (by decide) (by decide) ?_
    try rw [eT]
    exact ⟨by rw [show own_has t [(f 0, g 0)] = (0 : Int32) by simp [own_has, own_in, hc27_1]]; rfl, N, rfl⟩
  · refine Go.of (fun _ kq => XS.ifNo X.here hx rfl (hb hby d5_27) rfl (cFgt hc27_1).1 kq) ?_
    show Go p e below s _ _ T (mkF m 30 #[.val (.ref a), .val (.long t), .second, .val (.int (0 : Int32)), .val (.int (0 : Int32))] [])
    refine Go.of (fun _ kq => XS.lloadN X.here hx rfl (hb hby d5_30) rfl kq) ?_
    show Go p e below s _ _ T (mkF m 31 #[.val (.ref a), .val (.long t), .second, .val (.int (0 : Int32)), .val (.int (0 : Int32))] [(.long t)])
    refine Go.of (fun _ kq => XS.aloadN X.here hx rfl (hb hby d5_31) rfl rfl kq) ?_
    show Go p e below s _ _ T (mkF m 32 #[.val (.ref a), .val (.long t), .second, .val (.int (0 : Int32)), .val (.int (0 : Int32))] [(.ref a), (.long t)])
    refine Go.getF X hx hZ hown (hw _ (List.mem_of_getElem? (i := 12) rfl)) Via.refl eT F_lasts_a (hb hby d5_32) ?_
    intro T X eT
    show Go p e below s _ _ T (mkF m 35 #[.val (.ref a), .val (.long t), .second, .val (.int (0 : Int32)), .val (.int (0 : Int32))] [(.ref y), (.long t)])
    refine Go.of (fun _ kq => XS.iload X.here hx rfl (hb hby d5_35) rfl kq) ?_
    show Go p e below s _ _ T (mkF m 37 #[.val (.ref a), .val (.long t), .second, .val (.int (0 : Int32)), .val (.int (0 : Int32))] [(.int (0 : Int32)), (.ref y), (.long t)])
    refine Go.ldJ (.long (g 0)) X hx hZ eT V_y (show Inb (0 : Int32) 3 from ⟨by decide, by decide⟩) rfl (hb hby d5_37) ?_
    show Go p e below s _ _ T (mkF m 38 #[.val (.ref a), .val (.long t), .second, .val (.int (0 : Int32)), .val (.int (0 : Int32))] [(.long (g 0)), (.long t)])
    refine Go.of (fun _ kq => XS.lcmp X.here hx rfl (hb hby d5_38) rfl kq) ?_
    show Go p e below s _ _ T (mkF m 39 #[.val (.ref a), .val (.long t), .second, .val (.int (0 : Int32)), .val (.int (0 : Int32))] [(.int (lcmpW t (g 0)))])
    by_cases hc39_1 : (g 0) < t
    · refine Go.of (fun _ kq => XS.ifYes X.here hx rfl (pc0 := 39) (pc' := 46) rfl (hb hby d5_39) rfl (cZgt hc39_1).1 (by decide) (by decide) kq) ?_
      show Go p e below s _ _ T (mkF m 46 #[.val (.ref a), .val (.long t), .second, .val (.int (0 : Int32)), .val (.int (0 : Int32))] [])
      refine Go.of (fun _ kq => XS.iconst X.here hx rfl (hb hby d5_46) kq) ?_
      show Go p e below s _ _ T (mkF m 47 #[.val (.ref a), .val (.long t), .second, .val (.int (0 : Int32)), .val (.int (0 : Int32))] [(.int (0 : Int32))])
      refine Go.of (fun _ kq => XS.istoreN X.here hx rfl (hb hby d5_47) rfl (l' := #[.val (.ref a), .val (.long t), .second, .val (.int (0 : Int32)), .val (.int (0 : Int32))]) rfl kq) ?_
      show Go p e below s _ _ T (mkF m 48 #[.val (.ref a), .val (.long t), .second, .val (.int (0 : Int32)), .val (.int (0 : Int32))] [])
      refine Go.of (fun _ kq => XS.iinc X.here hx rfl (hb hby d5_48) rfl (l' := #[.val (.ref a), .val (.long t), .second, .val (.int (0 : Int32)), .val (.int (1 : Int32))]) rfl kq) ?_
      show Go p e below s _ _ T (mkF m 51 #[.val (.ref a), .val (.long t), .second, .val (.int (0 : Int32)), .val (.int (1 : Int32))] [])
      refine Go.of (fun _ kq => XS.goto X.here hx rfl (pc0 := 51) (pc' := 5) rfl (hb hby d5_51) (by decide) (by decide) kq) ?_
      show Go p e below s _ _ T (mkF m 5 #[.val (.ref a), .val (.long t), .second, .val (.int (0 : Int32)), .val (.int (1 : Int32))] [])
      refine Go.of (fun _ kq => XS.iload X.here hx rfl (hb hby d5_5) rfl kq) ?_
      show Go p e below s _ _ T (mkF m 7 #[.val (.ref a), .val (.long t), .second, .val (.int (0 : Int32)), .val (.int (1 : Int32))] [(.int (1 : Int32))])
      refine Go.of (fun _ kq => XS.aloadN X.here hx rfl (hb hby d5_7) rfl rfl kq) ?_
      show Go p e below s _ _ T (mkF m 8 #[.val (.ref a), .val (.long t), .second, .val (.int (0 : Int32)), .val (.int (1 : Int32))] [(.ref a), (.int (1 : Int32))])
      refine Go.getF X hx hZ hown (hw _ (List.mem_of_getElem? (i := 19) rfl)) Via.refl eT F_count_a (hb hby d5_8) ?_
      intro T X eT
      show Go p e below s _ _ T (mkF m 11 #[.val (.ref a), .val (.long t), .second, .val (.int (0 : Int32)), .val (.int (1 : Int32))] [(.int (1 : Int32)), (.int (1 : Int32))])
      refine Go.of (fun _ kq => XS.icmpYes X.here hx rfl (pc0 := 11) (pc' := 54) rfl (hb hby d5_11) rfl (flt (by decide)).2.1 (by decide) (by decide) kq) ?_
      show Go p e below s _ _ T (mkF m 54 #[.val (.ref a), .val (.long t), .second, .val (.int (0 : Int32)), .val (.int (1 : Int32))] [])
      refine Go.of (fun _ kq => XS.iloadN X.here hx rfl (hb hby d5_54) rfl kq) ?_
      show Go p e below s _ _ T (mkF m 55 #[.val (.ref a), .val (.long t), .second, .val (.int (0 : Int32)), .val (.int (1 : Int32))] [(.int (0 : Int32))])
      refine Go.retN X hx hret (by simp) hlk (hb hby d5_55) (by decide) (by decide) ?_
      try rw [eT]
      exact ⟨by rw [show own_has t [(f 0, g 0)] = (0 : Int32) by simp [own_has, own_in, hc27_1, hc39_1]]; rfl, N, rfl⟩
    · refine Go.of (fun _ kq => XS.ifNo X.here hx rfl (hb hby d5_39) rfl (cFgt hc39_1).1 kq) ?_
      show Go p e below s _ _ T (mkF m 42 #[.val (.ref a), .val (.long t), .second, .val (.int (0 : Int32)), .val (.int (0 : Int32))] [])
      refine Go.of (fun _ kq => XS.iconst X.here hx rfl (hb hby d5_42) kq) ?_
      show Go p e below s _ _ T (mkF m 43 #[.val (.ref a), .val (.long t), .second, .val (.int (0 : Int32)), .val (.int (0 : Int32))] [(.int (1 : Int32))])
      refine Go.of (fun _ kq => XS.goto X.here hx rfl (pc0 := 43) (pc' := 47) rfl (hb hby d5_43) (by decide) (by decide) kq) ?_
      show Go p e below s _ _ T (mkF m 47 #[.val (.ref a), .val (.long t), .second, .val (.int (0 : Int32)), .val (.int (0 : Int32))] [(.int (1 : Int32))])
      refine Go.of (fun _ kq => XS.istoreN X.here hx rfl (hb hby d5_47) rfl (l' := #[.val (.ref a), .val (.long t), .second, .val (.int (1 : Int32)), .val (.int (0 : Int32))]) rfl kq) ?_
      show Go p e below s _ _ T (mkF m 48 #[.val (.ref a), .val (.long t), .second, .val (.int (1 : Int32)), .val (.int (0 : Int32))] [])
      refine Go.of (fun _ kq => XS.iinc X.here hx rfl (hb hby d5_48) rfl (l' := #[.val (.ref a), .val (.long t), .second, .val (.int (1 : Int32)), .val (.int (1 : Int32))]) rfl kq) ?_
      show Go p e below s _ _ T (mkF m 51 #[.val (.ref a), .val (.long t), .second, .val (.int (1 : Int32)), .val (.int (1 : Int32))] [])
      refine Go.of (fun _ kq => XS.goto X.here hx rfl (pc0 := 51) (pc' := 5) rfl (hb hby d5_51) (by decide) (by decide) kq) ?_
      show Go p e below s _ _ T (mkF m 5 #[.val (.ref a), .val (.long t), .second, .val (.int (1 : Int32)), .val (.int (1 : Int32))] [])
      refine Go.of (fun _ kq => XS.iload X.here hx rfl (hb hby d5_5) rfl kq) ?_
      show Go p e below s _ _ T (mkF m 7 #[.val (.ref a), .val (.long t), .second, .val (.int (1 : Int32)), .val (.int (1 : Int32))] [(.int (1 : Int32))])
      refine Go.of (fun _ kq => XS.aloadN X.here hx rfl (hb hby d5_7) rfl rfl kq) ?_
      show Go p e below s _ _ T (mkF m 8 #[.val (.ref a), .val (.long t), .second, .val (.int (1 : Int32)), .val (.int (1 : Int32))] [(.ref a), (.int (1 : Int32))])
      refine Go.getF X hx hZ hown (hw _ (List.mem_of_getElem? (i := 19) rfl)) Via.refl eT F_count_a (hb hby d5_8) ?_
      intro T X eT
      show Go p e below s _ _ T (mkF m 11 #[.val (.ref a), .val (.long t), .second, .val (.int (1 : Int32)), .val (.int (1 : Int32))] [(.int (1 : Int32)), (.int (1 : Int32))])
      refine Go.of (fun _ kq => XS.icmpYes X.here hx rfl (pc0 := 11) (pc' := 54) rfl (hb hby d5_11) rfl (flt (by decide)).2.1 (by decide) (by decide) kq) ?_
      show Go p e below s _ _ T (mkF m 54 #[.val (.ref a), .val (.long t), .second, .val (.int (1 : Int32)), .val (.int (1 : Int32))] [])
      refine Go.of (fun _ kq => XS.iloadN X.here hx rfl (hb hby d5_54) rfl kq) ?_
      show Go p e below s _ _ T (mkF m 55 #[.val (.ref a), .val (.long t), .second, .val (.int (1 : Int32)), .val (.int (1 : Int32))] [(.int (1 : Int32))])
      refine Go.retN X hx hret (by simp) hlk (hb hby d5_55) (by decide) (by decide) ?_
      try rw [eT]
      exact ⟨by rw [show own_has t [(f 0, g 0)] = (1 : Int32) by simp [own_has, own_in, hc27_1, hc39_1]]; rfl, N, rfl⟩
theorem ef_rmHas2 (m : MethodId) (x0 : Addr) (x1 : Int64) : entryFrame m #[(.ref x0), (.long x1)] 5 = mkF m 0 #[.val (.ref x0), .val (.long x1), .second, .unset, .unset] [] := by first | (simp [entryFrame, mkF, argsToLocals, Value.category]; done) | rfl
set_option maxRecDepth 65536 in
set_option maxHeartbeats 40000000 in
theorem rmHas2 {l : Launch} {Z : State} {a0 : Array Value} (hw : ∀ d ∈ tables_1, d.before a0 Z = true) (a : Addr) (t : Int64) (x y : Addr) (f g : Nat → Int64) (h0 : Heap) (n0 : Nat) (F_firsts_a : Fld Z h0 a "com/example/credence/credence/oauth1/SpentRanges" "firsts" "[J" (.ref x)) (F_lasts_a : Fld Z h0 a "com/example/credence/credence/oauth1/SpentRanges" "lasts" "[J" (.ref y)) (F_count_a : Fld Z h0 a "com/example/credence/credence/oauth1/SpentRanges" "count" "I" (.int (2 : Int32))) (V_x : AV Z h0 x .long 3 (fun j => .long (f j))) (V_y : AV Z h0 y .long 3 (fun j => .long (g j))) :
    Met l Z (⟨"com/example/credence/credence/oauth1/SpentRanges", "contains", "(J)Z"⟩ : MethodName) prog_18_method_2_code 5 (some .boolean) [] ({ frames := 0, cells := 0, slots := 0, locals := 0 } : Room) #[(.ref a), (.long t)] h0 (fun v h L => v = some (.int (own_has t [(f 0, g 0), (f 1, g 1)])) ∧ Fr n0 L ∧ h = h0) := by
  refine Met.mk pn5 ?_
  intro p e s m below meth c T hx hby hml hown hnm hret hlk hZ X eT
  refine Go.cast (ef_rmHas2 m a t) ?_
  have N := Fr.nil n0
  show Go p e below s _ _ T (mkF m 0 #[.val (.ref a), .val (.long t), .second, .unset, .unset] [])
  refine Go.of (fun _ kq => XS.iconst X.here hx rfl (hb hby d5_0) kq) ?_
  show Go p e below s _ _ T (mkF m 1 #[.val (.ref a), .val (.long t), .second, .unset, .unset] [(.int (0 : Int32))])
  refine Go.of (fun _ kq => XS.istoreN X.here hx rfl (hb hby d5_1) rfl (l' := #[.val (.ref a), .val (.long t), .second, .val (.int (0 : Int32)), .unset]) rfl kq) ?_
  show Go p e below s _ _ T (mkF m 2 #[.val (.ref a), .val (.long t), .second, .val (.int (0 : Int32)), .unset] [])
  refine Go.of (fun _ kq => XS.iconst X.here hx rfl (hb hby d5_2) kq) ?_
  show Go p e below s _ _ T (mkF m 3 #[.val (.ref a), .val (.long t), .second, .val (.int (0 : Int32)), .unset] [(.int (0 : Int32))])
  refine Go.of (fun _ kq => XS.istore X.here hx rfl (hb hby d5_3) rfl (l' := #[.val (.ref a), .val (.long t), .second, .val (.int (0 : Int32)), .val (.int (0 : Int32))]) rfl kq) ?_
  show Go p e below s _ _ T (mkF m 5 #[.val (.ref a), .val (.long t), .second, .val (.int (0 : Int32)), .val (.int (0 : Int32))] [])
  refine Go.of (fun _ kq => XS.iload X.here hx rfl (hb hby d5_5) rfl kq) ?_
  show Go p e below s _ _ T (mkF m 7 #[.val (.ref a), .val (.long t), .second, .val (.int (0 : Int32)), .val (.int (0 : Int32))] [(.int (0 : Int32))])
  refine Go.of (fun _ kq => XS.aloadN X.here hx rfl (hb hby d5_7) rfl rfl kq) ?_
  show Go p e below s _ _ T (mkF m 8 #[.val (.ref a), .val (.long t), .second, .val (.int (0 : Int32)), .val (.int (0 : Int32))] [(.ref a), (.int (0 : Int32))])
  refine Go.getF X hx hZ hown (hw _ (List.mem_of_getElem? (i := 19) rfl)) Via.refl eT F_count_a (hb hby d5_8) ?_
  intro T X eT
  show Go p e below s _ _ T (mkF m 11 #[.val (.ref a), .val (.long t), .second, .val (.int (0 : Int32)), .val (.int (0 : Int32))] [(.int (2 : Int32)), (.int (0 : Int32))])
  refine Go.of (fun _ kq => XS.icmpNo X.here hx rfl (hb hby d5_11) rfl (tlt (by decide)).2.1 kq) ?_
  show Go p e below s _ _ T (mkF m 14 #[.val (.ref a), .val (.long t), .second, .val (.int (0 : Int32)), .val (.int (0 : Int32))] [])
  refine Go.of (fun _ kq => XS.iloadN X.here hx rfl (hb hby d5_14) rfl kq) ?_
  show Go p e below s _ _ T (mkF m 15 #[.val (.ref a), .val (.long t), .second, .val (.int (0 : Int32)), .val (.int (0 : Int32))] [(.int (0 : Int32))])
  refine Go.of (fun _ kq => XS.ifNo X.here hx rfl (hb hby d5_15) rfl ((if0 _ _).trans (teq (by decide)).2) kq) ?_
  show Go p e below s _ _ T (mkF m 18 #[.val (.ref a), .val (.long t), .second, .val (.int (0 : Int32)), .val (.int (0 : Int32))] [])
  refine Go.of (fun _ kq => XS.aloadN X.here hx rfl (hb hby d5_18) rfl rfl kq) ?_
  show Go p e below s _ _ T (mkF m 19 #[.val (.ref a), .val (.long t), .second, .val (.int (0 : Int32)), .val (.int (0 : Int32))] [(.ref a)])
  refine Go.getF X hx hZ hown (hw _ (List.mem_of_getElem? (i := 10) rfl)) Via.refl eT F_firsts_a (hb hby d5_19) ?_
  intro T X eT
  show Go p e below s _ _ T (mkF m 22 #[.val (.ref a), .val (.long t), .second, .val (.int (0 : Int32)), .val (.int (0 : Int32))] [(.ref x)])
  refine Go.of (fun _ kq => XS.iload X.here hx rfl (hb hby d5_22) rfl kq) ?_
  show Go p e below s _ _ T (mkF m 24 #[.val (.ref a), .val (.long t), .second, .val (.int (0 : Int32)), .val (.int (0 : Int32))] [(.int (0 : Int32)), (.ref x)])
  refine Go.ldJ (.long (f 0)) X hx hZ eT V_x (show Inb (0 : Int32) 3 from ⟨by decide, by decide⟩) rfl (hb hby d5_24) ?_
  show Go p e below s _ _ T (mkF m 25 #[.val (.ref a), .val (.long t), .second, .val (.int (0 : Int32)), .val (.int (0 : Int32))] [(.long (f 0))])
  refine Go.of (fun _ kq => XS.lloadN X.here hx rfl (hb hby d5_25) rfl kq) ?_
  show Go p e below s _ _ T (mkF m 26 #[.val (.ref a), .val (.long t), .second, .val (.int (0 : Int32)), .val (.int (0 : Int32))] [(.long t), (.long (f 0))])
  refine Go.of (fun _ kq => XS.lcmp X.here hx rfl (hb hby d5_26) rfl kq) ?_
  show Go p e below s _ _ T (mkF m 27 #[.val (.ref a), .val (.long t), .second, .val (.int (0 : Int32)), .val (.int (0 : Int32))] [(.int (lcmpW (f 0) t))])
  by_cases hc27_1 : t < (f 0)
  · refine Go.of (fun _ kq => XS.ifYes X.here hx rfl (pc0 := 27) (pc' := 46) rfl (hb hby d5_27) rfl (cZgt hc27_1).1 (by decide) (by decide) kq) ?_
    show Go p e below s _ _ T (mkF m 46 #[.val (.ref a), .val (.long t), .second, .val (.int (0 : Int32)), .val (.int (0 : Int32))] [])
    refine Go.of (fun _ kq => XS.iconst X.here hx rfl (hb hby d5_46) kq) ?_
    show Go p e below s _ _ T (mkF m 47 #[.val (.ref a), .val (.long t), .second, .val (.int (0 : Int32)), .val (.int (0 : Int32))] [(.int (0 : Int32))])
    refine Go.of (fun _ kq => XS.istoreN X.here hx rfl (hb hby d5_47) rfl (l' := #[.val (.ref a), .val (.long t), .second, .val (.int (0 : Int32)), .val (.int (0 : Int32))]) rfl kq) ?_
    show Go p e below s _ _ T (mkF m 48 #[.val (.ref a), .val (.long t), .second, .val (.int (0 : Int32)), .val (.int (0 : Int32))] [])
    refine Go.of (fun _ kq => XS.iinc X.here hx rfl (hb hby d5_48) rfl (l' := #[.val (.ref a), .val (.long t), .second, .val (.int (0 : Int32)), .val (.int (1 : Int32))]) rfl kq) ?_
    show Go p e below s _ _ T (mkF m 51 #[.val (.ref a), .val (.long t), .second, .val (.int (0 : Int32)), .val (.int (1 : Int32))] [])
    refine Go.of (fun _ kq => XS.goto X.here hx rfl (pc0 := 51) (pc' := 5) rfl (hb hby d5_51) (by decide) (by decide) kq) ?_
    show Go p e below s _ _ T (mkF m 5 #[.val (.ref a), .val (.long t), .second, .val (.int (0 : Int32)), .val (.int (1 : Int32))] [])
    refine Go.of (fun _ kq => XS.iload X.here hx rfl (hb hby d5_5) rfl kq) ?_
    show Go p e below s _ _ T (mkF m 7 #[.val (.ref a), .val (.long t), .second, .val (.int (0 : Int32)), .val (.int (1 : Int32))] [(.int (1 : Int32))])
    refine Go.of (fun _ kq => XS.aloadN X.here hx rfl (hb hby d5_7) rfl rfl kq) ?_
    show Go p e below s _ _ T (mkF m 8 #[.val (.ref a), .val (.long t), .second, .val (.int (0 : Int32)), .val (.int (1 : Int32))] [(.ref a), (.int (1 : Int32))])
    refine Go.getF X hx hZ hown (hw _ (List.mem_of_getElem? (i := 19) rfl)) Via.refl eT F_count_a (hb hby d5_8) ?_
    intro T X eT
    show Go p e below s _ _ T (mkF m 11 #[.val (.ref a), .val (.long t), .second, .val (.int (0 : Int32)), .val (.int (1 : Int32))] [(.int (2 : Int32)), (.int (1 : Int32))])
    refine Go.of (fun _ kq => XS.icmpNo X.here hx rfl (hb hby d5_11) rfl (tlt (by decide)).2.1 kq) ?_
    show Go p e below s _ _ T (mkF m 14 #[.val (.ref a), .val (.long t), .second, .val (.int (0 : Int32)), .val (.int (1 : Int32))] [])
    refine Go.of (fun _ kq => XS.iloadN X.here hx rfl (hb hby d5_14) rfl kq) ?_
    show Go p e below s _ _ T (mkF m 15 #[.val (.ref a), .val (.long t), .second, .val (.int (0 : Int32)), .val (.int (1 : Int32))] [(.int (0 : Int32))])
    refine Go.of (fun _ kq => XS.ifNo X.here hx rfl (hb hby d5_15) rfl ((if0 _ _).trans (teq (by decide)).2) kq) ?_
    show Go p e below s _ _ T (mkF m 18 #[.val (.ref a), .val (.long t), .second, .val (.int (0 : Int32)), .val (.int (1 : Int32))] [])
    refine Go.of (fun _ kq => XS.aloadN X.here hx rfl (hb hby d5_18) rfl rfl kq) ?_
    show Go p e below s _ _ T (mkF m 19 #[.val (.ref a), .val (.long t), .second, .val (.int (0 : Int32)), .val (.int (1 : Int32))] [(.ref a)])
    refine Go.getF X hx hZ hown (hw _ (List.mem_of_getElem? (i := 10) rfl)) Via.refl eT F_firsts_a (hb hby d5_19) ?_
    intro T X eT
    show Go p e below s _ _ T (mkF m 22 #[.val (.ref a), .val (.long t), .second, .val (.int (0 : Int32)), .val (.int (1 : Int32))] [(.ref x)])
    refine Go.of (fun _ kq => XS.iload X.here hx rfl (hb hby d5_22) rfl kq) ?_
    show Go p e below s _ _ T (mkF m 24 #[.val (.ref a), .val (.long t), .second, .val (.int (0 : Int32)), .val (.int (1 : Int32))] [(.int (1 : Int32)), (.ref x)])
    refine Go.ldJ (.long (f 1)) X hx hZ eT V_x (show Inb (1 : Int32) 3 from ⟨by decide, by decide⟩) rfl (hb hby d5_24) ?_
    show Go p e below s _ _ T (mkF m 25 #[.val (.ref a), .val (.long t), .second, .val (.int (0 : Int32)), .val (.int (1 : Int32))] [(.long (f 1))])
    refine Go.of (fun _ kq => XS.lloadN X.here hx rfl (hb hby d5_25) rfl kq) ?_
    show Go p e below s _ _ T (mkF m 26 #[.val (.ref a), .val (.long t), .second, .val (.int (0 : Int32)), .val (.int (1 : Int32))] [(.long t), (.long (f 1))])
    refine Go.of (fun _ kq => XS.lcmp X.here hx rfl (hb hby d5_26) rfl kq) ?_
    show Go p e below s _ _ T (mkF m 27 #[.val (.ref a), .val (.long t), .second, .val (.int (0 : Int32)), .val (.int (1 : Int32))] [(.int (lcmpW (f 1) t))])
    by_cases hc27_2 : t < (f 1)
    · refine Go.of (fun _ kq => XS.ifYes X.here hx rfl (pc0 := 27) (pc' := 46) rfl (hb hby d5_27) rfl (cZgt hc27_2).1 (by decide) (by decide) kq) ?_
      show Go p e below s _ _ T (mkF m 46 #[.val (.ref a), .val (.long t), .second, .val (.int (0 : Int32)), .val (.int (1 : Int32))] [])
      refine Go.of (fun _ kq => XS.iconst X.here hx rfl (hb hby d5_46) kq) ?_
      show Go p e below s _ _ T (mkF m 47 #[.val (.ref a), .val (.long t), .second, .val (.int (0 : Int32)), .val (.int (1 : Int32))] [(.int (0 : Int32))])
      refine Go.of (fun _ kq => XS.istoreN X.here hx rfl (hb hby d5_47) rfl (l' := #[.val (.ref a), .val (.long t), .second, .val (.int (0 : Int32)), .val (.int (1 : Int32))]) rfl kq) ?_
      show Go p e below s _ _ T (mkF m 48 #[.val (.ref a), .val (.long t), .second, .val (.int (0 : Int32)), .val (.int (1 : Int32))] [])
      refine Go.of (fun _ kq => XS.iinc X.here hx rfl (hb hby d5_48) rfl (l' := #[.val (.ref a), .val (.long t), .second, .val (.int (0 : Int32)), .val (.int (2 : Int32))]) rfl kq) ?_
      show Go p e below s _ _ T (mkF m 51 #[.val (.ref a), .val (.long t), .second, .val (.int (0 : Int32)), .val (.int (2 : Int32))] [])
      refine Go.of (fun _ kq => XS.goto X.here hx rfl (pc0 := 51) (pc' := 5) rfl (hb hby d5_51) (by decide) (by decide) kq) ?_
      show Go p e below s _ _ T (mkF m 5 #[.val (.ref a), .val (.long t), .second, .val (.int (0 : Int32)), .val (.int (2 : Int32))] [])
      refine Go.of (fun _ kq => XS.iload X.here hx rfl (hb hby d5_5) rfl kq) ?_
      show Go p e below s _ _ T (mkF m 7 #[.val (.ref a), .val (.long t), .second, .val (.int (0 : Int32)), .val (.int (2 : Int32))] [(.int (2 : Int32))])
      refine Go.of (fun _ kq => XS.aloadN X.here hx rfl (hb hby d5_7) rfl rfl kq) ?_
      show Go p e below s _ _ T (mkF m 8 #[.val (.ref a), .val (.long t), .second, .val (.int (0 : Int32)), .val (.int (2 : Int32))] [(.ref a), (.int (2 : Int32))])
      refine Go.getF X hx hZ hown (hw _ (List.mem_of_getElem? (i := 19) rfl)) Via.refl eT F_count_a (hb hby d5_8) ?_
      intro T X eT
      show Go p e below s _ _ T (mkF m 11 #[.val (.ref a), .val (.long t), .second, .val (.int (0 : Int32)), .val (.int (2 : Int32))] [(.int (2 : Int32)), (.int (2 : Int32))])
      refine Go.of (fun _ kq => XS.icmpYes X.here hx rfl (pc0 := 11) (pc' := 54) rfl (hb hby d5_11) rfl (flt (by decide)).2.1 (by decide) (by decide) kq) ?_
      show Go p e below s _ _ T (mkF m 54 #[.val (.ref a), .val (.long t), .second, .val (.int (0 : Int32)), .val (.int (2 : Int32))] [])
      refine Go.of (fun _ kq => XS.iloadN X.here hx rfl (hb hby d5_54) rfl kq) ?_
      show Go p e below s _ _ T (mkF m 55 #[.val (.ref a), .val (.long t), .second, .val (.int (0 : Int32)), .val (.int (2 : Int32))] [(.int (0 : Int32))])
      refine Go.retN X hx hret (by simp) hlk (hb hby d5_55) (by decide) (by decide) ?_
      try rw [eT]
      exact ⟨by rw [show own_has t [(f 0, g 0), (f 1, g 1)] = (0 : Int32) by simp [own_has, own_in, hc27_1, hc27_2]]; rfl, N, rfl⟩
    · refine Go.of (fun _ kq => XS.ifNo X.here hx rfl (hb hby d5_27) rfl (cFgt hc27_2).1 kq) ?_
      show Go p e below s _ _ T (mkF m 30 #[.val (.ref a), .val (.long t), .second, .val (.int (0 : Int32)), .val (.int (1 : Int32))] [])
      refine Go.of (fun _ kq => XS.lloadN X.here hx rfl (hb hby d5_30) rfl kq) ?_
      show Go p e below s _ _ T (mkF m 31 #[.val (.ref a), .val (.long t), .second, .val (.int (0 : Int32)), .val (.int (1 : Int32))] [(.long t)])
      refine Go.of (fun _ kq => XS.aloadN X.here hx rfl (hb hby d5_31) rfl rfl kq) ?_
      show Go p e below s _ _ T (mkF m 32 #[.val (.ref a), .val (.long t), .second, .val (.int (0 : Int32)), .val (.int (1 : Int32))] [(.ref a), (.long t)])
      refine Go.getF X hx hZ hown (hw _ (List.mem_of_getElem? (i := 12) rfl)) Via.refl eT F_lasts_a (hb hby d5_32) ?_
      intro T X eT
      show Go p e below s _ _ T (mkF m 35 #[.val (.ref a), .val (.long t), .second, .val (.int (0 : Int32)), .val (.int (1 : Int32))] [(.ref y), (.long t)])
      refine Go.of (fun _ kq => XS.iload X.here hx rfl (hb hby d5_35) rfl kq) ?_
      show Go p e below s _ _ T (mkF m 37 #[.val (.ref a), .val (.long t), .second, .val (.int (0 : Int32)), .val (.int (1 : Int32))] [(.int (1 : Int32)), (.ref y), (.long t)])
      refine Go.ldJ (.long (g 1)) X hx hZ eT V_y (show Inb (1 : Int32) 3 from ⟨by decide, by decide⟩) rfl (hb hby d5_37) ?_
      show Go p e below s _ _ T (mkF m 38 #[.val (.ref a), .val (.long t), .second, .val (.int (0 : Int32)), .val (.int (1 : Int32))] [(.long (g 1)), (.long t)])
      refine Go.of (fun _ kq => XS.lcmp X.here hx rfl (hb hby d5_38) rfl kq) ?_
      show Go p e below s _ _ T (mkF m 39 #[.val (.ref a), .val (.long t), .second, .val (.int (0 : Int32)), .val (.int (1 : Int32))] [(.int (lcmpW t (g 1)))])
      by_cases hc39_2 : (g 1) < t
      · refine Go.of (fun _ kq => XS.ifYes X.here hx rfl (pc0 := 39) (pc' := 46) rfl (hb hby d5_39) rfl (cZgt hc39_2).1 (by decide) (by decide) kq) ?_
        show Go p e below s _ _ T (mkF m 46 #[.val (.ref a), .val (.long t), .second, .val (.int (0 : Int32)), .val (.int (1 : Int32))] [])
        refine Go.of (fun _ kq => XS.iconst X.here hx rfl (hb hby d5_46) kq) ?_
        show Go p e below s _ _ T (mkF m 47 #[.val (.ref a), .val (.long t), .second, .val (.int (0 : Int32)), .val (.int (1 : Int32))] [(.int (0 : Int32))])
        refine Go.of (fun _ kq => XS.istoreN X.here hx rfl (hb hby d5_47) rfl (l' := #[.val (.ref a), .val (.long t), .second, .val (.int (0 : Int32)), .val (.int (1 : Int32))]) rfl kq) ?_
        show Go p e below s _ _ T (mkF m 48 #[.val (.ref a), .val (.long t), .second, .val (.int (0 : Int32)), .val (.int (1 : Int32))] [])
        refine Go.of (fun _ kq => XS.iinc X.here hx rfl (hb hby d5_48) rfl (l' := #[.val (.ref a), .val (.long t), .second, .val (.int (0 : Int32)), .val (.int (2 : Int32))]) rfl kq) ?_
        show Go p e below s _ _ T (mkF m 51 #[.val (.ref a), .val (.long t), .second, .val (.int (0 : Int32)), .val (.int (2 : Int32))] [])
        refine Go.of (fun _ kq => XS.goto X.here hx rfl (pc0 := 51) (pc' := 5) rfl (hb hby d5_51) (by decide) (by decide) kq) ?_
        show Go p e below s _ _ T (mkF m 5 #[.val (.ref a), .val (.long t), .second, .val (.int (0 : Int32)), .val (.int (2 : Int32))] [])
        refine Go.of (fun _ kq => XS.iload X.here hx rfl (hb hby d5_5) rfl kq) ?_
        show Go p e below s _ _ T (mkF m 7 #[.val (.ref a), .val (.long t), .second, .val (.int (0 : Int32)), .val (.int (2 : Int32))] [(.int (2 : Int32))])
        refine Go.of (fun _ kq => XS.aloadN X.here hx rfl (hb hby d5_7) rfl rfl kq) ?_
        show Go p e below s _ _ T (mkF m 8 #[.val (.ref a), .val (.long t), .second, .val (.int (0 : Int32)), .val (.int (2 : Int32))] [(.ref a), (.int (2 : Int32))])
        refine Go.getF X hx hZ hown (hw _ (List.mem_of_getElem? (i := 19) rfl)) Via.refl eT F_count_a (hb hby d5_8) ?_
        intro T X eT
        show Go p e below s _ _ T (mkF m 11 #[.val (.ref a), .val (.long t), .second, .val (.int (0 : Int32)), .val (.int (2 : Int32))] [(.int (2 : Int32)), (.int (2 : Int32))])
        refine Go.of (fun _ kq => XS.icmpYes X.here hx rfl (pc0 := 11) (pc' := 54) rfl (hb hby d5_11) rfl (flt (by decide)).2.1 (by decide) (by decide) kq) ?_
        show Go p e below s _ _ T (mkF m 54 #[.val (.ref a), .val (.long t), .second, .val (.int (0 : Int32)), .val (.int (2 : Int32))] [])
        refine Go.of (fun _ kq => XS.iloadN X.here hx rfl (hb hby d5_54) rfl kq) ?_
        show Go p e below s _ _ T (mkF m 55 #[.val (.ref a), .val (.long t), .second, .val (.int (0 : Int32)), .val (.int (2 : Int32))] [(.int (0 : Int32))])
        refine Go.retN X hx hret (by simp) hlk (hb hby d5_55) (by decide) (by decide) ?_
        try rw [eT]
        exact ⟨by rw [show own_has t [(f 0, g 0), (f 1, g 1)] = (0 : Int32) by simp [own_has, own_in, hc27_1, hc27_2, hc39_2]]; rfl, N, rfl⟩
      · refine Go.of (fun _ kq => XS.ifNo X.here hx rfl (hb hby d5_39) rfl (cFgt hc39_2).1 kq) ?_
        show Go p e below s _ _ T (mkF m 42 #[.val (.ref a), .val (.long t), .second, .val (.int (0 : Int32)), .val (.int (1 : Int32))] [])
        refine Go.of (fun _ kq => XS.iconst X.here hx rfl (hb hby d5_42) kq) ?_
        show Go p e below s _ _ T (mkF m 43 #[.val (.ref a), .val (.long t), .second, .val (.int (0 : Int32)), .val (.int (1 : Int32))] [(.int (1 : Int32))])
        refine Go.of (fun _ kq => XS.goto X.here hx rfl (pc0 := 43) (pc' := 47) rfl (hb hby d5_43) (by decide) (by decide) kq) ?_
        show Go p e below s _ _ T (mkF m 47 #[.val (.ref a), .val (.long t), .second, .val (.int (0 : Int32)), .val (.int (1 : Int32))] [(.int (1 : Int32))])
        refine Go.of (fun _ kq => XS.istoreN X.here hx rfl (hb hby d5_47) rfl (l' := #[.val (.ref a), .val (.long t), .second, .val (.int (1 : Int32)), .val (.int (1 : Int32))]) rfl kq) ?_
        show Go p e below s _ _ T (mkF m 48 #[.val (.ref a), .val (.long t), .second, .val (.int (1 : Int32)), .val (.int (1 : Int32))] [])
        refine Go.of (fun _ kq => XS.iinc X.here hx rfl (hb hby d5_48) rfl (l' := #[.val (.ref a), .val (.long t), .second, .val (.int (1 : Int32)), .val (.int (2 : Int32))]) rfl kq) ?_
        show Go p e below s _ _ T (mkF m 51 #[.val (.ref a), .val (.long t), .second, .val (.int (1 : Int32)), .val (.int (2 : Int32))] [])
        refine Go.of (fun _ kq => XS.goto X.here hx rfl (pc0 := 51) (pc' := 5) rfl (hb hby d5_51) (by decide) (by decide) kq) ?_
        show Go p e below s _ _ T (mkF m 5 #[.val (.ref a), .val (.long t), .second, .val (.int (1 : Int32)), .val (.int (2 : Int32))] [])
        refine Go.of (fun _ kq => XS.iload X.here hx rfl (hb hby d5_5) rfl kq) ?_
        show Go p e below s _ _ T (mkF m 7 #[.val (.ref a), .val (.long t), .second, .val (.int (1 : Int32)), .val (.int (2 : Int32))] [(.int (2 : Int32))])
        refine Go.of (fun _ kq => XS.aloadN X.here hx rfl (hb hby d5_7) rfl rfl kq) ?_
        show Go p e below s _ _ T (mkF m 8 #[.val (.ref a), .val (.long t), .second, .val (.int (1 : Int32)), .val (.int (2 : Int32))] [(.ref a), (.int (2 : Int32))])
        refine Go.getF X hx hZ hown (hw _ (List.mem_of_getElem? (i := 19) rfl)) Via.refl eT F_count_a (hb hby d5_8) ?_
        intro T X eT
        show Go p e below s _ _ T (mkF m 11 #[.val (.ref a), .val (.long t), .second, .val (.int (1 : Int32)), .val (.int (2 : Int32))] [(.int (2 : Int32)), (.int (2 : Int32))])
        refine Go.of (fun _ kq => XS.icmpYes X.here hx rfl (pc0 := 11) (pc' := 54) rfl (hb hby d5_11) rfl (flt (by decide)).2.1 (by decide) (by decide) kq) ?_
        show Go p e below s _ _ T (mkF m 54 #[.val (.ref a), .val (.long t), .second, .val (.int (1 : Int32)), .val (.int (2 : Int32))] [])
        refine Go.of (fun _ kq => XS.iloadN X.here hx rfl (hb hby d5_54) rfl kq) ?_
        show Go p e below s _ _ T (mkF m 55 #[.val (.ref a), .val (.long t), .second, .val (.int (1 : Int32)), .val (.int (2 : Int32))] [(.int (1 : Int32))])
        refine Go.retN X hx hret (by simp) hlk (hb hby d5_55) (by decide) (by decide) ?_
        try rw [eT]
        exact ⟨by rw [show own_has t [(f 0, g 0), (f 1, g 1)] = (1 : Int32) by simp [own_has, own_in, hc27_1, hc27_2, hc39_2]]; rfl, N, rfl⟩
  · refine Go.of (fun _ kq => XS.ifNo X.here hx rfl (hb hby d5_27) rfl (cFgt hc27_1).1 kq) ?_
    show Go p e below s _ _ T (mkF m 30 #[.val (.ref a), .val (.long t), .second, .val (.int (0 : Int32)), .val (.int (0 : Int32))] [])
    refine Go.of (fun _ kq => XS.lloadN X.here hx rfl (hb hby d5_30) rfl kq) ?_
    show Go p e below s _ _ T (mkF m 31 #[.val (.ref a), .val (.long t), .second, .val (.int (0 : Int32)), .val (.int (0 : Int32))] [(.long t)])
    refine Go.of (fun _ kq => XS.aloadN X.here hx rfl (hb hby d5_31) rfl rfl kq) ?_
    show Go p e below s _ _ T (mkF m 32 #[.val (.ref a), .val (.long t), .second, .val (.int (0 : Int32)), .val (.int (0 : Int32))] [(.ref a), (.long t)])
    refine Go.getF X hx hZ hown (hw _ (List.mem_of_getElem? (i := 12) rfl)) Via.refl eT F_lasts_a (hb hby d5_32) ?_
    intro T X eT
    show Go p e below s _ _ T (mkF m 35 #[.val (.ref a), .val (.long t), .second, .val (.int (0 : Int32)), .val (.int (0 : Int32))] [(.ref y), (.long t)])
    refine Go.of (fun _ kq => XS.iload X.here hx rfl (hb hby d5_35) rfl kq) ?_
    show Go p e below s _ _ T (mkF m 37 #[.val (.ref a), .val (.long t), .second, .val (.int (0 : Int32)), .val (.int (0 : Int32))] [(.int (0 : Int32)), (.ref y), (.long t)])
    refine Go.ldJ (.long (g 0)) X hx hZ eT V_y (show Inb (0 : Int32) 3 from ⟨by decide, by decide⟩) rfl (hb hby d5_37) ?_
    show Go p e below s _ _ T (mkF m 38 #[.val (.ref a), .val (.long t), .second, .val (.int (0 : Int32)), .val (.int (0 : Int32))] [(.long (g 0)), (.long t)])
    refine Go.of (fun _ kq => XS.lcmp X.here hx rfl (hb hby d5_38) rfl kq) ?_
    show Go p e below s _ _ T (mkF m 39 #[.val (.ref a), .val (.long t), .second, .val (.int (0 : Int32)), .val (.int (0 : Int32))] [(.int (lcmpW t (g 0)))])
    by_cases hc39_1 : (g 0) < t
    · refine Go.of (fun _ kq => XS.ifYes X.here hx rfl (pc0 := 39) (pc' := 46) rfl (hb hby d5_39) rfl (cZgt hc39_1).1 (by decide) (by decide) kq) ?_
      show Go p e below s _ _ T (mkF m 46 #[.val (.ref a), .val (.long t), .second, .val (.int (0 : Int32)), .val (.int (0 : Int32))] [])
      refine Go.of (fun _ kq => XS.iconst X.here hx rfl (hb hby d5_46) kq) ?_
      show Go p e below s _ _ T (mkF m 47 #[.val (.ref a), .val (.long t), .second, .val (.int (0 : Int32)), .val (.int (0 : Int32))] [(.int (0 : Int32))])
      refine Go.of (fun _ kq => XS.istoreN X.here hx rfl (hb hby d5_47) rfl (l' := #[.val (.ref a), .val (.long t), .second, .val (.int (0 : Int32)), .val (.int (0 : Int32))]) rfl kq) ?_
      show Go p e below s _ _ T (mkF m 48 #[.val (.ref a), .val (.long t), .second, .val (.int (0 : Int32)), .val (.int (0 : Int32))] [])
      refine Go.of (fun _ kq => XS.iinc X.here hx rfl (hb hby d5_48) rfl (l' := #[.val (.ref a), .val (.long t), .second, .val (.int (0 : Int32)), .val (.int (1 : Int32))]) rfl kq) ?_
      show Go p e below s _ _ T (mkF m 51 #[.val (.ref a), .val (.long t), .second, .val (.int (0 : Int32)), .val (.int (1 : Int32))] [])
      refine Go.of (fun _ kq => XS.goto X.here hx rfl (pc0 := 51) (pc' := 5) rfl (hb hby d5_51) (by decide) (by decide) kq) ?_
      show Go p e below s _ _ T (mkF m 5 #[.val (.ref a), .val (.long t), .second, .val (.int (0 : Int32)), .val (.int (1 : Int32))] [])
      refine Go.of (fun _ kq => XS.iload X.here hx rfl (hb hby d5_5) rfl kq) ?_
      show Go p e below s _ _ T (mkF m 7 #[.val (.ref a), .val (.long t), .second, .val (.int (0 : Int32)), .val (.int (1 : Int32))] [(.int (1 : Int32))])
      refine Go.of (fun _ kq => XS.aloadN X.here hx rfl (hb hby d5_7) rfl rfl kq) ?_
      show Go p e below s _ _ T (mkF m 8 #[.val (.ref a), .val (.long t), .second, .val (.int (0 : Int32)), .val (.int (1 : Int32))] [(.ref a), (.int (1 : Int32))])
      refine Go.getF X hx hZ hown (hw _ (List.mem_of_getElem? (i := 19) rfl)) Via.refl eT F_count_a (hb hby d5_8) ?_
      intro T X eT
      show Go p e below s _ _ T (mkF m 11 #[.val (.ref a), .val (.long t), .second, .val (.int (0 : Int32)), .val (.int (1 : Int32))] [(.int (2 : Int32)), (.int (1 : Int32))])
      refine Go.of (fun _ kq => XS.icmpNo X.here hx rfl (hb hby d5_11) rfl (tlt (by decide)).2.1 kq) ?_
      show Go p e below s _ _ T (mkF m 14 #[.val (.ref a), .val (.long t), .second, .val (.int (0 : Int32)), .val (.int (1 : Int32))] [])
      refine Go.of (fun _ kq => XS.iloadN X.here hx rfl (hb hby d5_14) rfl kq) ?_
      show Go p e below s _ _ T (mkF m 15 #[.val (.ref a), .val (.long t), .second, .val (.int (0 : Int32)), .val (.int (1 : Int32))] [(.int (0 : Int32))])
      refine Go.of (fun _ kq => XS.ifNo X.here hx rfl (hb hby d5_15) rfl ((if0 _ _).trans (teq (by decide)).2) kq) ?_
      show Go p e below s _ _ T (mkF m 18 #[.val (.ref a), .val (.long t), .second, .val (.int (0 : Int32)), .val (.int (1 : Int32))] [])
      refine Go.of (fun _ kq => XS.aloadN X.here hx rfl (hb hby d5_18) rfl rfl kq) ?_
      show Go p e below s _ _ T (mkF m 19 #[.val (.ref a), .val (.long t), .second, .val (.int (0 : Int32)), .val (.int (1 : Int32))] [(.ref a)])
      refine Go.getF X hx hZ hown (hw _ (List.mem_of_getElem? (i := 10) rfl)) Via.refl eT F_firsts_a (hb hby d5_19) ?_
      intro T X eT
      show Go p e below s _ _ T (mkF m 22 #[.val (.ref a), .val (.long t), .second, .val (.int (0 : Int32)), .val (.int (1 : Int32))] [(.ref x)])
      refine Go.of (fun _ kq => XS.iload X.here hx rfl (hb hby d5_22) rfl kq) ?_
      show Go p e below s _ _ T (mkF m 24 #[.val (.ref a), .val (.long t), .second, .val (.int (0 : Int32)), .val (.int (1 : Int32))] [(.int (1 : Int32)), (.ref x)])
      refine Go.ldJ (.long (f 1)) X hx hZ eT V_x (show Inb (1 : Int32) 3 from ⟨by decide, by decide⟩) rfl (hb hby d5_24) ?_
      show Go p e below s _ _ T (mkF m 25 #[.val (.ref a), .val (.long t), .second, .val (.int (0 : Int32)), .val (.int (1 : Int32))] [(.long (f 1))])
      refine Go.of (fun _ kq => XS.lloadN X.here hx rfl (hb hby d5_25) rfl kq) ?_
      show Go p e below s _ _ T (mkF m 26 #[.val (.ref a), .val (.long t), .second, .val (.int (0 : Int32)), .val (.int (1 : Int32))] [(.long t), (.long (f 1))])
      refine Go.of (fun _ kq => XS.lcmp X.here hx rfl (hb hby d5_26) rfl kq) ?_
      show Go p e below s _ _ T (mkF m 27 #[.val (.ref a), .val (.long t), .second, .val (.int (0 : Int32)), .val (.int (1 : Int32))] [(.int (lcmpW (f 1) t))])
      by_cases hc27_2 : t < (f 1)
      · refine Go.of (fun _ kq => XS.ifYes X.here hx rfl (pc0 := 27) (pc' := 46) rfl (hb hby d5_27) rfl (cZgt hc27_2).1 (by decide) (by decide) kq) ?_
        show Go p e below s _ _ T (mkF m 46 #[.val (.ref a), .val (.long t), .second, .val (.int (0 : Int32)), .val (.int (1 : Int32))] [])
        refine Go.of (fun _ kq => XS.iconst X.here hx rfl (hb hby d5_46) kq) ?_
        show Go p e below s _ _ T (mkF m 47 #[.val (.ref a), .val (.long t), .second, .val (.int (0 : Int32)), .val (.int (1 : Int32))] [(.int (0 : Int32))])
        refine Go.of (fun _ kq => XS.istoreN X.here hx rfl (hb hby d5_47) rfl (l' := #[.val (.ref a), .val (.long t), .second, .val (.int (0 : Int32)), .val (.int (1 : Int32))]) rfl kq) ?_
        show Go p e below s _ _ T (mkF m 48 #[.val (.ref a), .val (.long t), .second, .val (.int (0 : Int32)), .val (.int (1 : Int32))] [])
        refine Go.of (fun _ kq => XS.iinc X.here hx rfl (hb hby d5_48) rfl (l' := #[.val (.ref a), .val (.long t), .second, .val (.int (0 : Int32)), .val (.int (2 : Int32))]) rfl kq) ?_
        show Go p e below s _ _ T (mkF m 51 #[.val (.ref a), .val (.long t), .second, .val (.int (0 : Int32)), .val (.int (2 : Int32))] [])
        refine Go.of (fun _ kq => XS.goto X.here hx rfl (pc0 := 51) (pc' := 5) rfl (hb hby d5_51) (by decide) (by decide) kq) ?_
        show Go p e below s _ _ T (mkF m 5 #[.val (.ref a), .val (.long t), .second, .val (.int (0 : Int32)), .val (.int (2 : Int32))] [])
        refine Go.of (fun _ kq => XS.iload X.here hx rfl (hb hby d5_5) rfl kq) ?_
        show Go p e below s _ _ T (mkF m 7 #[.val (.ref a), .val (.long t), .second, .val (.int (0 : Int32)), .val (.int (2 : Int32))] [(.int (2 : Int32))])
        refine Go.of (fun _ kq => XS.aloadN X.here hx rfl (hb hby d5_7) rfl rfl kq) ?_
        show Go p e below s _ _ T (mkF m 8 #[.val (.ref a), .val (.long t), .second, .val (.int (0 : Int32)), .val (.int (2 : Int32))] [(.ref a), (.int (2 : Int32))])
        refine Go.getF X hx hZ hown (hw _ (List.mem_of_getElem? (i := 19) rfl)) Via.refl eT F_count_a (hb hby d5_8) ?_
        intro T X eT
        show Go p e below s _ _ T (mkF m 11 #[.val (.ref a), .val (.long t), .second, .val (.int (0 : Int32)), .val (.int (2 : Int32))] [(.int (2 : Int32)), (.int (2 : Int32))])
        refine Go.of (fun _ kq => XS.icmpYes X.here hx rfl (pc0 := 11) (pc' := 54) rfl (hb hby d5_11) rfl (flt (by decide)).2.1 (by decide) (by decide) kq) ?_
        show Go p e below s _ _ T (mkF m 54 #[.val (.ref a), .val (.long t), .second, .val (.int (0 : Int32)), .val (.int (2 : Int32))] [])
        refine Go.of (fun _ kq => XS.iloadN X.here hx rfl (hb hby d5_54) rfl kq) ?_
        show Go p e below s _ _ T (mkF m 55 #[.val (.ref a), .val (.long t), .second, .val (.int (0 : Int32)), .val (.int (2 : Int32))] [(.int (0 : Int32))])
        refine Go.retN X hx hret (by simp) hlk (hb hby d5_55) (by decide) (by decide) ?_
        try rw [eT]
        exact ⟨by rw [show own_has t [(f 0, g 0), (f 1, g 1)] = (0 : Int32) by simp [own_has, own_in, hc27_1, hc39_1, hc27_2]]; rfl, N, rfl⟩
      · refine Go.of (fun _ kq => XS.ifNo X.here hx rfl (hb hby d5_27) rfl (cFgt hc27_2).1 kq) ?_
        show Go p e below s _ _ T (mkF m 30 #[.val (.ref a), .val (.long t), .second, .val (.int (0 : Int32)), .val (.int (1 : Int32))] [])
        refine Go.of (fun _ kq => XS.lloadN X.here hx rfl (hb hby d5_30) rfl kq) ?_
        show Go p e below s _ _ T (mkF m 31 #[.val (.ref a), .val (.long t), .second, .val (.int (0 : Int32)), .val (.int (1 : Int32))] [(.long t)])
        refine Go.of (fun _ kq => XS.aloadN X.here hx rfl (hb hby d5_31) rfl rfl kq) ?_
        show Go p e below s _ _ T (mkF m 32 #[.val (.ref a), .val (.long t), .second, .val (.int (0 : Int32)), .val (.int (1 : Int32))] [(.ref a), (.long t)])
        refine Go.getF X hx hZ hown (hw _ (List.mem_of_getElem? (i := 12) rfl)) Via.refl eT F_lasts_a (hb hby d5_32) ?_
        intro T X eT
        show Go p e below s _ _ T (mkF m 35 #[.val (.ref a), .val (.long t), .second, .val (.int (0 : Int32)), .val (.int (1 : Int32))] [(.ref y), (.long t)])
        refine Go.of (fun _ kq => XS.iload X.here hx rfl (hb hby d5_35) rfl kq) ?_
        show Go p e below s _ _ T (mkF m 37 #[.val (.ref a), .val (.long t), .second, .val (.int (0 : Int32)), .val (.int (1 : Int32))] [(.int (1 : Int32)), (.ref y), (.long t)])
        refine Go.ldJ (.long (g 1)) X hx hZ eT V_y (show Inb (1 : Int32) 3 from ⟨by decide, by decide⟩) rfl (hb hby d5_37) ?_
        show Go p e below s _ _ T (mkF m 38 #[.val (.ref a), .val (.long t), .second, .val (.int (0 : Int32)), .val (.int (1 : Int32))] [(.long (g 1)), (.long t)])
        refine Go.of (fun _ kq => XS.lcmp X.here hx rfl (hb hby d5_38) rfl kq) ?_
        show Go p e below s _ _ T (mkF m 39 #[.val (.ref a), .val (.long t), .second, .val (.int (0 : Int32)), .val (.int (1 : Int32))] [(.int (lcmpW t (g 1)))])
        by_cases hc39_2 : (g 1) < t
        · refine Go.of (fun _ kq => XS.ifYes X.here hx rfl (pc0 := 39) (pc' := 46) rfl (hb hby d5_39) rfl (cZgt hc39_2).1 (by decide) (by decide) kq) ?_
          show Go p e below s _ _ T (mkF m 46 #[.val (.ref a), .val (.long t), .second, .val (.int (0 : Int32)), .val (.int (1 : Int32))] [])
          refine Go.of (fun _ kq => XS.iconst X.here hx rfl (hb hby d5_46) kq) ?_
          show Go p e below s _ _ T (mkF m 47 #[.val (.ref a), .val (.long t), .second, .val (.int (0 : Int32)), .val (.int (1 : Int32))] [(.int (0 : Int32))])
          refine Go.of (fun _ kq => XS.istoreN X.here hx rfl (hb hby d5_47) rfl (l' := #[.val (.ref a), .val (.long t), .second, .val (.int (0 : Int32)), .val (.int (1 : Int32))]) rfl kq) ?_
          show Go p e below s _ _ T (mkF m 48 #[.val (.ref a), .val (.long t), .second, .val (.int (0 : Int32)), .val (.int (1 : Int32))] [])
          refine Go.of (fun _ kq => XS.iinc X.here hx rfl (hb hby d5_48) rfl (l' := #[.val (.ref a), .val (.long t), .second, .val (.int (0 : Int32)), .val (.int (2 : Int32))]) rfl kq) ?_
          show Go p e below s _ _ T (mkF m 51 #[.val (.ref a), .val (.long t), .second, .val (.int (0 : Int32)), .val (.int (2 : Int32))] [])
          refine Go.of (fun _ kq => XS.goto X.here hx rfl (pc0 := 51) (pc' := 5) rfl (hb hby d5_51) (by decide) (by decide) kq) ?_
          show Go p e below s _ _ T (mkF m 5 #[.val (.ref a), .val (.long t), .second, .val (.int (0 : Int32)), .val (.int (2 : Int32))] [])
          refine Go.of (fun _ kq => XS.iload X.here hx rfl (hb hby d5_5) rfl kq) ?_
          show Go p e below s _ _ T (mkF m 7 #[.val (.ref a), .val (.long t), .second, .val (.int (0 : Int32)), .val (.int (2 : Int32))] [(.int (2 : Int32))])
          refine Go.of (fun _ kq => XS.aloadN X.here hx rfl (hb hby d5_7) rfl rfl kq) ?_
          show Go p e below s _ _ T (mkF m 8 #[.val (.ref a), .val (.long t), .second, .val (.int (0 : Int32)), .val (.int (2 : Int32))] [(.ref a), (.int (2 : Int32))])
          refine Go.getF X hx hZ hown (hw _ (List.mem_of_getElem? (i := 19) rfl)) Via.refl eT F_count_a (hb hby d5_8) ?_
          intro T X eT
          show Go p e below s _ _ T (mkF m 11 #[.val (.ref a), .val (.long t), .second, .val (.int (0 : Int32)), .val (.int (2 : Int32))] [(.int (2 : Int32)), (.int (2 : Int32))])
          refine Go.of (fun _ kq => XS.icmpYes X.here hx rfl (pc0 := 11) (pc' := 54) rfl (hb hby d5_11) rfl (flt (by decide)).2.1 (by decide) (by decide) kq) ?_
          show Go p e below s _ _ T (mkF m 54 #[.val (.ref a), .val (.long t), .second, .val (.int (0 : Int32)), .val (.int (2 : Int32))] [])
          refine Go.of (fun _ kq => XS.iloadN X.here hx rfl (hb hby d5_54) rfl kq) ?_
          show Go p e below s _ _ T (mkF m 55 #[.val (.ref a), .val (.long t), .second, .val (.int (0 : Int32)), .val (.int (2 : Int32))] [(.int (0 : Int32))])
          refine Go.retN X hx hret (by simp) hlk (hb hby d5_55) (by decide) (by decide) ?_
          try rw [eT]
          exact ⟨by rw [show own_has t [(f 0, g 0), (f 1, g 1)] = (0 : Int32) by simp [own_has, own_in, hc27_1, hc39_1, hc27_2, hc39_2]]; rfl, N, rfl⟩
        · refine Go.of (fun _ kq => XS.ifNo X.here hx rfl (hb hby d5_39) rfl (cFgt hc39_2).1 kq) ?_
          show Go p e below s _ _ T (mkF m 42 #[.val (.ref a), .val (.long t), .second, .val (.int (0 : Int32)), .val (.int (1 : Int32))] [])
          refine Go.of (fun _ kq => XS.iconst X.here hx rfl (hb hby d5_42) kq) ?_
          show Go p e below s _ _ T (mkF m 43 #[.val (.ref a), .val (.long t), .second, .val (.int (0 : Int32)), .val (.int (1 : Int32))] [(.int (1 : Int32))])
          refine Go.of (fun _ kq => XS.goto X.here hx rfl (pc0 := 43) (pc' := 47) rfl (hb hby d5_43) (by decide) (by decide) kq) ?_
          show Go p e below s _ _ T (mkF m 47 #[.val (.ref a), .val (.long t), .second, .val (.int (0 : Int32)), .val (.int (1 : Int32))] [(.int (1 : Int32))])
          refine Go.of (fun _ kq => XS.istoreN X.here hx rfl (hb hby d5_47) rfl (l' := #[.val (.ref a), .val (.long t), .second, .val (.int (1 : Int32)), .val (.int (1 : Int32))]) rfl kq) ?_
          show Go p e below s _ _ T (mkF m 48 #[.val (.ref a), .val (.long t), .second, .val (.int (1 : Int32)), .val (.int (1 : Int32))] [])
          refine Go.of (fun _ kq => XS.iinc X.here hx rfl (hb hby d5_48) rfl (l' := #[.val (.ref a), .val (.long t), .second, .val (.int (1 : Int32)), .val (.int (2 : Int32))]) rfl kq) ?_
          show Go p e below s _ _ T (mkF m 51 #[.val (.ref a), .val (.long t), .second, .val (.int (1 : Int32)), .val (.int (2 : Int32))] [])
          refine Go.of (fun _ kq => XS.goto X.here hx rfl (pc0 := 51) (pc' := 5) rfl (hb hby d5_51) (by decide) (by decide) kq) ?_
          show Go p e below s _ _ T (mkF m 5 #[.val (.ref a), .val (.long t), .second, .val (.int (1 : Int32)), .val (.int (2 : Int32))] [])
          refine Go.of (fun _ kq => XS.iload X.here hx rfl (hb hby d5_5) rfl kq) ?_
          show Go p e below s _ _ T (mkF m 7 #[.val (.ref a), .val (.long t), .second, .val (.int (1 : Int32)), .val (.int (2 : Int32))] [(.int (2 : Int32))])
          refine Go.of (fun _ kq => XS.aloadN X.here hx rfl (hb hby d5_7) rfl rfl kq) ?_
          show Go p e below s _ _ T (mkF m 8 #[.val (.ref a), .val (.long t), .second, .val (.int (1 : Int32)), .val (.int (2 : Int32))] [(.ref a), (.int (2 : Int32))])
          refine Go.getF X hx hZ hown (hw _ (List.mem_of_getElem? (i := 19) rfl)) Via.refl eT F_count_a (hb hby d5_8) ?_
          intro T X eT
          show Go p e below s _ _ T (mkF m 11 #[.val (.ref a), .val (.long t), .second, .val (.int (1 : Int32)), .val (.int (2 : Int32))] [(.int (2 : Int32)), (.int (2 : Int32))])
          refine Go.of (fun _ kq => XS.icmpYes X.here hx rfl (pc0 := 11) (pc' := 54) rfl (hb hby d5_11) rfl (flt (by decide)).2.1 (by decide) (by decide) kq) ?_
          show Go p e below s _ _ T (mkF m 54 #[.val (.ref a), .val (.long t), .second, .val (.int (1 : Int32)), .val (.int (2 : Int32))] [])
          refine Go.of (fun _ kq => XS.iloadN X.here hx rfl (hb hby d5_54) rfl kq) ?_
          show Go p e below s _ _ T (mkF m 55 #[.val (.ref a), .val (.long t), .second, .val (.int (1 : Int32)), .val (.int (2 : Int32))] [(.int (1 : Int32))])
          refine Go.retN X hx hret (by simp) hlk (hb hby d5_55) (by decide) (by decide) ?_
          try rw [eT]
          exact ⟨by rw [show own_has t [(f 0, g 0), (f 1, g 1)] = (1 : Int32) by simp [own_has, own_in, hc27_1, hc39_1, hc27_2, hc39_2]]; rfl, N, rfl⟩
    · refine Go.of (fun _ kq => XS.ifNo X.here hx rfl (hb hby d5_39) rfl (cFgt hc39_1).1 kq) ?_
      show Go p e below s _ _ T (mkF m 42 #[.val (.ref a), .val (.long t), .second, .val (.int (0 : Int32)), .val (.int (0 : Int32))] [])
      refine Go.of (fun _ kq => XS.iconst X.here hx rfl (hb hby d5_42) kq) ?_
      show Go p e below s _ _ T (mkF m 43 #[.val (.ref a), .val (.long t), .second, .val (.int (0 : Int32)), .val (.int (0 : Int32))] [(.int (1 : Int32))])
      refine Go.of (fun _ kq => XS.goto X.here hx rfl (pc0 := 43) (pc' := 47) rfl (hb hby d5_43) (by decide) (by decide) kq) ?_
      show Go p e below s _ _ T (mkF m 47 #[.val (.ref a), .val (.long t), .second, .val (.int (0 : Int32)), .val (.int (0 : Int32))] [(.int (1 : Int32))])
      refine Go.of (fun _ kq => XS.istoreN X.here hx rfl (hb hby d5_47) rfl (l' := #[.val (.ref a), .val (.long t), .second, .val (.int (1 : Int32)), .val (.int (0 : Int32))]) rfl kq) ?_
      show Go p e below s _ _ T (mkF m 48 #[.val (.ref a), .val (.long t), .second, .val (.int (1 : Int32)), .val (.int (0 : Int32))] [])
      refine Go.of (fun _ kq => XS.iinc X.here hx rfl (hb hby d5_48) rfl (l' := #[.val (.ref a), .val (.long t), .second, .val (.int (1 : Int32)), .val (.int (1 : Int32))]) rfl kq) ?_
      show Go p e below s _ _ T (mkF m 51 #[.val (.ref a), .val (.long t), .second, .val (.int (1 : Int32)), .val (.int (1 : Int32))] [])
      refine Go.of (fun _ kq => XS.goto X.here hx rfl (pc0 := 51) (pc' := 5) rfl (hb hby d5_51) (by decide) (by decide) kq) ?_
      show Go p e below s _ _ T (mkF m 5 #[.val (.ref a), .val (.long t), .second, .val (.int (1 : Int32)), .val (.int (1 : Int32))] [])
      refine Go.of (fun _ kq => XS.iload X.here hx rfl (hb hby d5_5) rfl kq) ?_
      show Go p e below s _ _ T (mkF m 7 #[.val (.ref a), .val (.long t), .second, .val (.int (1 : Int32)), .val (.int (1 : Int32))] [(.int (1 : Int32))])
      refine Go.of (fun _ kq => XS.aloadN X.here hx rfl (hb hby d5_7) rfl rfl kq) ?_
      show Go p e below s _ _ T (mkF m 8 #[.val (.ref a), .val (.long t), .second, .val (.int (1 : Int32)), .val (.int (1 : Int32))] [(.ref a), (.int (1 : Int32))])
      refine Go.getF X hx hZ hown (hw _ (List.mem_of_getElem? (i := 19) rfl)) Via.refl eT F_count_a (hb hby d5_8) ?_
      intro T X eT
      show Go p e below s _ _ T (mkF m 11 #[.val (.ref a), .val (.long t), .second, .val (.int (1 : Int32)), .val (.int (1 : Int32))] [(.int (2 : Int32)), (.int (1 : Int32))])
      refine Go.of (fun _ kq => XS.icmpNo X.here hx rfl (hb hby d5_11) rfl (tlt (by decide)).2.1 kq) ?_
      show Go p e below s _ _ T (mkF m 14 #[.val (.ref a), .val (.long t), .second, .val (.int (1 : Int32)), .val (.int (1 : Int32))] [])
      refine Go.of (fun _ kq => XS.iloadN X.here hx rfl (hb hby d5_14) rfl kq) ?_
      show Go p e below s _ _ T (mkF m 15 #[.val (.ref a), .val (.long t), .second, .val (.int (1 : Int32)), .val (.int (1 : Int32))] [(.int (1 : Int32))])
      refine Go.of (fun _ kq => XS.ifYes X.here hx rfl (pc0 := 15) (pc' := 54) rfl (hb hby d5_15) rfl ((if0 _ _).trans (feq (by decide)).2) (by decide) (by decide) kq) ?_
      show Go p e below s _ _ T (mkF m 54 #[.val (.ref a), .val (.long t), .second, .val (.int (1 : Int32)), .val (.int (1 : Int32))] [])
      refine Go.of (fun _ kq => XS.iloadN X.here hx rfl (hb hby d5_54) rfl kq) ?_
      show Go p e below s _ _ T (mkF m 55 #[.val (.ref a), .val (.long t), .second, .val (.int (1 : Int32)), .val (.int (1 : Int32))] [(.int (1 : Int32))])
      refine Go.retN X hx hret (by simp) hlk (hb hby d5_55) (by decide) (by decide) ?_
      try rw [eT]
      exact ⟨by rw [show own_has t [(f 0, g 0), (f 1, g 1)] = (1 : Int32) by simp [own_has, own_in, hc27_1, hc39_1]]; rfl, N, rfl⟩
theorem rmAdd {l : Launch} {Z : State} {a0 : Array Value} (hw : ∀ d ∈ tables_1, d.before a0 Z = true) (a : Addr) (q1 q2 q3 q4 : Int64) (x y : Addr) (rs : List (Int64 × Int64)) (hrs : rs = [] ∨ ∃ r, rs = [r]) (h0 : Heap) (n0 : Nat) (g_a : n0 ≤ a) (g_x : n0 ≤ x) (g_y : n0 ≤ y) (ne_a_x : a ≠ x) (ne_a_y : a ≠ y) (ne_x_y : x ≠ y)  (E_a : Exa Z h0 a "com/example/credence/credence/oauth1/SpentRanges") (R : Rg Z h0 a x y rs) :
    Met l Z (⟨"com/example/credence/credence/oauth1/SpentRanges", "add", "(JJJJ)V"⟩ : MethodName) prog_18_method_3_code 15 none [] ({ frames := 1, cells := 0, slots := 0, locals := 18 } : Room) #[(.ref a), (.long q1), (.long q2), (.long q3), (.long q4)] h0 (fun v h L => v = none ∧ Fr n0 L ∧ Keep h0 h [a, x, y] ∧ Rg Z h a x y (own_add rs q1 q2)) := by
  obtain ⟨F1, F2, F3, f, g, V1, V2, m⟩ := R
  rcases hrs with rfl | ⟨r, rfl⟩
  · exact rmAdd0 hw a q1 q2 q3 q4 x y f g h0 n0 g_a g_x g_y ne_a_x ne_a_y ne_x_y E_a F1 F2 F3 V1 V2
  · have e : r = (f 0, g 0) := Prod.ext m.1.symm m.2.symm
    rw [e]
    exact rmAdd1 hw a q1 q2 q3 q4 x y f g h0 n0 g_a g_x g_y ne_a_x ne_a_y ne_x_y E_a F1 F2 F3 V1 V2
theorem rmHas {l : Launch} {Z : State} {a0 : Array Value} (hw : ∀ d ∈ tables_1, d.before a0 Z = true) (a : Addr) (t : Int64) (x y : Addr) (rs : List (Int64 × Int64)) (h0 : Heap) (n0 : Nat) (R : Rg Z h0 a x y rs) :
    Met l Z (⟨"com/example/credence/credence/oauth1/SpentRanges", "contains", "(J)Z"⟩ : MethodName) prog_18_method_2_code 5 (some .boolean) [] ({ frames := 0, cells := 0, slots := 0, locals := 0 } : Room) #[(.ref a), (.long t)] h0 (fun v h L => v = some (.int (own_has t rs)) ∧ Fr n0 L ∧ h = h0) := by
  obtain ⟨F1, F2, F3, f, g, V1, V2, m⟩ := R
  match rs, m, F3 with
  | [], m, F3 => exact rmHas0 hw a t x y f g h0 n0 F1 F2 F3 V1 V2
  | [r], m, F3 =>
    have e : r = (f 0, g 0) := Prod.ext m.1.symm m.2.symm
    rw [e]
    exact rmHas1 hw a t x y f g h0 n0 F1 F2 F3 V1 V2
  | [r, r'], m, F3 =>
    have e : r = (f 0, g 0) := Prod.ext m.1.symm m.2.1.symm
    have e' : r' = (f 1, g 1) := Prod.ext m.2.2.1.symm m.2.2.2.symm
    rw [e, e']
    exact rmHas2 hw a t x y f g h0 n0 F1 F2 F3 V1 V2
  | _ :: _ :: _ :: _, m, _ => exact m.elim
theorem pn0 : plainFor x = true := plainFor_of_name (by first | (simp [plainName, overriddenIn]; done) | decide +kernel)
theorem ef_rm0 (m : MethodId) (x0 : Int64) (x1 : Int64) (x2 : Int64) (x3 : Int64) (x4 : Int64) : entryFrame m #[(.long x0), (.long x1), (.long x2), (.long x3), (.long x4)] maxLocals = mkF m 0 #[.val (.long x0), .second, .val (.long x1), .second, .val (.long x2), .second, .val (.long x3), .second, .val (.long x4), .second, .unset, .unset] [] := by first | (simp [entryFrame, mkF, argsToLocals, Value.category, maxLocals]; done) | rfl
set_option maxRecDepth 65536 in
set_option maxHeartbeats 40000000 in
theorem rm0 {l : Launch} {Z : State} {a0 : Array Value} (hw : ∀ d ∈ tables_1, d.before a0 Z = true) (a1 b1 a2 b2 t : Int64) (h0 : Heap) (n0 : Nat) (Z0 : n0 ≤ h0.size) :
    Met l Z x code maxLocals ret tables_1 room_1 #[(.long a1), (.long b1), (.long a2), (.long b2), (.long t)] h0 (fun v h L => v = some (.int 1) ∧ Fr n0 L) := by
  refine Met.mk pn0 ?_
  intro p e s m below meth c T hx hby hml hown hnm hret hlk hZ X eT
  refine Go.cast (ef_rm0 m a1 b1 a2 b2 t) ?_
  have N := Fr.nil n0
  have K := Keep.refl h0 []
  show Go p e below s _ _ T (mkF m 0 #[.val (.long a1), .second, .val (.long b1), .second, .val (.long a2), .second, .val (.long b2), .second, .val (.long t), .second, .unset, .unset] [])
  refine Go.newO X hx hZ hown (hw _ (List.mem_of_getElem? (i := 0) rfl)) (hw _ (List.mem_of_getElem? (i := 1) rfl)) (hw _ (List.mem_of_getElem? (i := 2) rfl)) eT (hb hby at_0) (by decide) (by decide) ?_
  intro T h b0 X eT E ha E_b0 D_b0
  have z_b0 : h0.size ≤ b0 := by rw [ha]; exact K.1
  have g_b0 : n0 ≤ b0 := Nat.le_trans Z0 z_b0
  have K := K.ext E
  have F_firsts_b0 : Fld Z h b0 "com/example/credence/credence/oauth1/SpentRanges" "firsts" "[J" .null := D_b0 (Or.inr (hw _ (List.mem_of_getElem? (i := 11) rfl))) (ty := (.array .long)) (by decide)
  have F_lasts_b0 : Fld Z h b0 "com/example/credence/credence/oauth1/SpentRanges" "lasts" "[J" .null := D_b0 (Or.inr (hw _ (List.mem_of_getElem? (i := 13) rfl))) (ty := (.array .long)) (by decide)
  have F_count_b0 : Fld Z h b0 "com/example/credence/credence/oauth1/SpentRanges" "count" "I" (.int (0 : Int32)) := D_b0 (Or.inl (hw _ (List.mem_of_getElem? (i := 20) rfl))) (ty := .int) (by decide)
  show Go p e below s _ _ T (mkF m 3 #[.val (.long a1), .second, .val (.long b1), .second, .val (.long a2), .second, .val (.long b2), .second, .val (.long t), .second, .unset, .unset] [(.ref b0)])
  refine Go.of (fun _ kq => XS.dup X.here hx rfl (hb hby at_3) rfl rfl kq) ?_
  show Go p e below s _ _ T (mkF m 4 #[.val (.long a1), .second, .val (.long b1), .second, .val (.long a2), .second, .val (.long b2), .second, .val (.long t), .second, .unset, .unset] [(.ref b0), (.ref b0)])
  refine Go.special (a := b0) X hx hZ hown rfl (hw _ (List.mem_of_getElem? (i := 3) rfl)) (hw _ (List.mem_of_getElem? (i := 4) rfl)) (hw _ (List.mem_of_getElem? (i := 2) rfl)) (hw _ (List.mem_of_getElem? (i := 5) rfl)) (by decide) (rmIni hw b0 _ n0 (Nat.le_trans Z0 K.1) g_b0 E_b0 F_firsts_b0 F_lasts_b0 F_count_b0) eT 1 (by decide) (by decide) (by decide) (by decide) (by rw [hml]; rfl) (argsL := []) [(.ref b0)] (lenOf pd1 rfl) rfl rfl (Nat.le_of_eq rfl) (hb hby at_4) ?_
  intro v T L' X hQ
  obtain ⟨h, eT⟩ : ∃ z, T.heap = z := ⟨_, rfl⟩
  rw [eT] at hQ
  obtain ⟨rfl, N', K', x, y, zx, zy, ne_b0_x, ne_b0_y, ne_x_y, RR⟩ := hQ
  have N := Fr.app N N'
  have z_x := Nat.le_trans K.1 zx
  have z_y := Nat.le_trans K.1 zy
  have g_x := Nat.le_trans Z0 z_x
  have g_y := Nat.le_trans Z0 z_y
  have K := K.trans K' (own_all1 (Or.inr z_b0))
  have E_b0 := E_b0.keep K'
  show Go p e below s _ _ T (mkF m 7 #[.val (.long a1), .second, .val (.long b1), .second, .val (.long a2), .second, .val (.long b2), .second, .val (.long t), .second, .unset, .unset] [(.ref b0)])
  refine Go.of (fun _ kq => XS.astore X.here hx rfl (hb hby at_7) rfl rfl (l' := #[.val (.long a1), .second, .val (.long b1), .second, .val (.long a2), .second, .val (.long b2), .second, .val (.long t), .second, .val (.ref b0), .unset]) rfl kq) ?_
  show Go p e below s _ _ T (mkF m 9 #[.val (.long a1), .second, .val (.long b1), .second, .val (.long a2), .second, .val (.long b2), .second, .val (.long t), .second, .val (.ref b0), .unset] [])
  refine Go.of (fun _ kq => XS.aload X.here hx rfl (hb hby at_9) rfl rfl kq) ?_
  show Go p e below s _ _ T (mkF m 11 #[.val (.long a1), .second, .val (.long b1), .second, .val (.long a2), .second, .val (.long b2), .second, .val (.long t), .second, .val (.ref b0), .unset] [(.ref b0)])
  refine Go.of (fun _ kq => XS.lloadN X.here hx rfl (hb hby at_11) rfl kq) ?_
  show Go p e below s _ _ T (mkF m 12 #[.val (.long a1), .second, .val (.long b1), .second, .val (.long a2), .second, .val (.long b2), .second, .val (.long t), .second, .val (.ref b0), .unset] [(.long a1), (.ref b0)])
  refine Go.of (fun _ kq => XS.lloadN X.here hx rfl (hb hby at_12) rfl kq) ?_
  show Go p e below s _ _ T (mkF m 13 #[.val (.long a1), .second, .val (.long b1), .second, .val (.long a2), .second, .val (.long b2), .second, .val (.long t), .second, .val (.ref b0), .unset] [(.long b1), (.long a1), (.ref b0)])
  refine Go.of (fun _ kq => XS.lconst X.here hx rfl (hb hby at_13) kq) ?_
  show Go p e below s _ _ T (mkF m 14 #[.val (.long a1), .second, .val (.long b1), .second, .val (.long a2), .second, .val (.long b2), .second, .val (.long t), .second, .val (.ref b0), .unset] [(.long (0 : Int64)), (.long b1), (.long a1), (.ref b0)])
  refine Go.of (fun _ kq => XS.lconst X.here hx rfl (hb hby at_14) kq) ?_
  show Go p e below s _ _ T (mkF m 15 #[.val (.long a1), .second, .val (.long b1), .second, .val (.long a2), .second, .val (.long b2), .second, .val (.long t), .second, .val (.ref b0), .unset] [(.long (0 : Int64)), (.long (0 : Int64)), (.long b1), (.long a1), (.ref b0)])
  refine Go.virtual (a := b0) X hx hZ hown (hw _ (List.mem_of_getElem? (i := 14) rfl)) (hw _ (List.mem_of_getElem? (i := 15) rfl)) (notFace_of_selects (args := #[]) (mvT hZ (hw _ (List.mem_of_getElem? (i := 17) rfl)))) (hw _ (List.mem_of_getElem? (i := 17) rfl)) (hw _ (List.mem_of_getElem? (i := 16) rfl)) (hw _ (List.mem_of_getElem? (i := 2) rfl)) (hw _ (List.mem_of_getElem? (i := 18) rfl)) (by decide) (rmAdd hw b0 a1 b1 (0 : Int64) (0 : Int64) x y [] (Or.inl rfl) _ n0 g_b0 g_x g_y ne_b0_x ne_b0_y ne_x_y E_b0 RR) eT E_b0 0 (by decide) (by decide) (by decide) (by decide) (by rw [hml]; rfl) (argsL := [(.long a1), (.long b1), (.long (0 : Int64)), (.long (0 : Int64))]) [] (lenOf pd2 rfl) rfl rfl (Nat.le_of_eq rfl) (hb hby at_15) ?_
  intro v T L' X hQ
  obtain ⟨h, eT⟩ : ∃ z, T.heap = z := ⟨_, rfl⟩
  rw [eT] at hQ
  obtain ⟨rfl, N', K', RR⟩ := hQ
  have N := Fr.app N N'
  have K := K.trans K' (own_all3 (Or.inr z_b0) (Or.inr z_x) (Or.inr z_y))
  have E_b0 := E_b0.keep K'
  show Go p e below s _ _ T (mkF m 18 #[.val (.long a1), .second, .val (.long b1), .second, .val (.long a2), .second, .val (.long b2), .second, .val (.long t), .second, .val (.ref b0), .unset] [])
  refine Go.of (fun _ kq => XS.aload X.here hx rfl (hb hby at_18) rfl rfl kq) ?_
  show Go p e below s _ _ T (mkF m 20 #[.val (.long a1), .second, .val (.long b1), .second, .val (.long a2), .second, .val (.long b2), .second, .val (.long t), .second, .val (.ref b0), .unset] [(.ref b0)])
  refine Go.of (fun _ kq => XS.lload X.here hx rfl (hb hby at_20) rfl kq) ?_
  show Go p e below s _ _ T (mkF m 22 #[.val (.long a1), .second, .val (.long b1), .second, .val (.long a2), .second, .val (.long b2), .second, .val (.long t), .second, .val (.ref b0), .unset] [(.long a2), (.ref b0)])
  refine Go.of (fun _ kq => XS.lload X.here hx rfl (hb hby at_22) rfl kq) ?_
  show Go p e below s _ _ T (mkF m 24 #[.val (.long a1), .second, .val (.long b1), .second, .val (.long a2), .second, .val (.long b2), .second, .val (.long t), .second, .val (.ref b0), .unset] [(.long b2), (.long a2), (.ref b0)])
  refine Go.of (fun _ kq => XS.lconst X.here hx rfl (hb hby at_24) kq) ?_
  show Go p e below s _ _ T (mkF m 25 #[.val (.long a1), .second, .val (.long b1), .second, .val (.long a2), .second, .val (.long b2), .second, .val (.long t), .second, .val (.ref b0), .unset] [(.long (0 : Int64)), (.long b2), (.long a2), (.ref b0)])
  refine Go.of (fun _ kq => XS.lconst X.here hx rfl (hb hby at_25) kq) ?_
  show Go p e below s _ _ T (mkF m 26 #[.val (.long a1), .second, .val (.long b1), .second, .val (.long a2), .second, .val (.long b2), .second, .val (.long t), .second, .val (.ref b0), .unset] [(.long (0 : Int64)), (.long (0 : Int64)), (.long b2), (.long a2), (.ref b0)])
  refine Go.virtual (a := b0) X hx hZ hown (hw _ (List.mem_of_getElem? (i := 14) rfl)) (hw _ (List.mem_of_getElem? (i := 15) rfl)) (notFace_of_selects (args := #[]) (mvT hZ (hw _ (List.mem_of_getElem? (i := 17) rfl)))) (hw _ (List.mem_of_getElem? (i := 17) rfl)) (hw _ (List.mem_of_getElem? (i := 16) rfl)) (hw _ (List.mem_of_getElem? (i := 2) rfl)) (hw _ (List.mem_of_getElem? (i := 18) rfl)) (by decide) (rmAdd hw b0 a2 b2 (0 : Int64) (0 : Int64) x y (own_add [] a1 b1) (own_len a1 b1) _ n0 g_b0 g_x g_y ne_b0_x ne_b0_y ne_x_y E_b0 RR) eT E_b0 0 (by decide) (by decide) (by decide) (by decide) (by rw [hml]; rfl) (argsL := [(.long a2), (.long b2), (.long (0 : Int64)), (.long (0 : Int64))]) [] (lenOf pd2 rfl) rfl rfl (Nat.le_of_eq rfl) (hb hby at_26) ?_
  intro v T L' X hQ
  obtain ⟨h, eT⟩ : ∃ z, T.heap = z := ⟨_, rfl⟩
  rw [eT] at hQ
  obtain ⟨rfl, N', K', RR⟩ := hQ
  have N := Fr.app N N'
  have K := K.trans K' (own_all3 (Or.inr z_b0) (Or.inr z_x) (Or.inr z_y))
  have E_b0 := E_b0.keep K'
  show Go p e below s _ _ T (mkF m 29 #[.val (.long a1), .second, .val (.long b1), .second, .val (.long a2), .second, .val (.long b2), .second, .val (.long t), .second, .val (.ref b0), .unset] [])
  refine Go.of (fun _ kq => XS.lloadN X.here hx rfl (hb hby at_29) rfl kq) ?_
  show Go p e below s _ _ T (mkF m 30 #[.val (.long a1), .second, .val (.long b1), .second, .val (.long a2), .second, .val (.long b2), .second, .val (.long t), .second, .val (.ref b0), .unset] [(.long a1)])
  refine Go.of (fun _ kq => XS.lloadN X.here hx rfl (hb hby at_30) rfl kq) ?_
  show Go p e below s _ _ T (mkF m 31 #[.val (.long a1), .second, .val (.long b1), .second, .val (.long a2), .second, .val (.long b2), .second, .val (.long t), .second, .val (.ref b0), .unset] [(.long b1), (.long a1)])
  refine Go.of (fun _ kq => XS.lload X.here hx rfl (hb hby at_31) rfl kq) ?_
  show Go p e below s _ _ T (mkF m 33 #[.val (.long a1), .second, .val (.long b1), .second, .val (.long a2), .second, .val (.long b2), .second, .val (.long t), .second, .val (.ref b0), .unset] [(.long t), (.long b1), (.long a1)])
  refine Go.static X hx hZ hown (hw _ (List.mem_of_getElem? (i := 21) rfl)) (hw _ (List.mem_of_getElem? (i := 22) rfl)) (hw _ (List.mem_of_getElem? (i := 23) rfl)) (hw _ (List.mem_of_getElem? (i := 24) rfl)) (by decide) (rmIn hw a1 b1 t _ n0) eT 0 (by decide) (by decide) (by decide) (by decide) (by rw [hml]; rfl) (argsL := [(.long a1), (.long b1), (.long t)]) [] (lenOf pd3 rfl) rfl rfl (Nat.le_of_eq rfl) (hb hby at_33) ?_
  intro v T L' X hQ
  obtain ⟨rfl, N', eT⟩ := hQ
  have N := Fr.app N N'
  show Go p e below s _ _ T (mkF m 36 #[.val (.long a1), .second, .val (.long b1), .second, .val (.long a2), .second, .val (.long b2), .second, .val (.long t), .second, .val (.ref b0), .unset] [(.int (own_in a1 b1 t))])
  by_cases hc36 : (own_in a1 b1 t) = (0 : Int32)
  · refine Go.of (fun _ kq => XS.ifNo X.here hx rfl (hb hby at_36) rfl ((if0 _ _).trans (teq hc36).2) kq) ?_
    show Go p e below s _ _ T (mkF m 39 #[.val (.long a1), .second, .val (.long b1), .second, .val (.long a2), .second, .val (.long b2), .second, .val (.long t), .second, .val (.ref b0), .unset] [])
    refine Go.of (fun _ kq => XS.lload X.here hx rfl (hb hby at_39) rfl kq) ?_
    show Go p e below s _ _ T (mkF m 41 #[.val (.long a1), .second, .val (.long b1), .second, .val (.long a2), .second, .val (.long b2), .second, .val (.long t), .second, .val (.ref b0), .unset] [(.long a2)])
    refine Go.of (fun _ kq => XS.lload X.here hx rfl (hb hby at_41) rfl kq) ?_
    show Go p e below s _ _ T (mkF m 43 #[.val (.long a1), .second, .val (.long b1), .second, .val (.long a2), .second, .val (.long b2), .second, .val (.long t), .second, .val (.ref b0), .unset] [(.long b2), (.long a2)])
    refine Go.of (fun _ kq => XS.lload X.here hx rfl (hb hby at_43) rfl kq) ?_
    show Go p e below s _ _ T (mkF m 45 #[.val (.long a1), .second, .val (.long b1), .second, .val (.long a2), .second, .val (.long b2), .second, .val (.long t), .second, .val (.ref b0), .unset] [(.long t), (.long b2), (.long a2)])
    refine Go.static X hx hZ hown (hw _ (List.mem_of_getElem? (i := 21) rfl)) (hw _ (List.mem_of_getElem? (i := 22) rfl)) (hw _ (List.mem_of_getElem? (i := 23) rfl)) (hw _ (List.mem_of_getElem? (i := 24) rfl)) (by decide) (rmIn hw a2 b2 t _ n0) eT 0 (by decide) (by decide) (by decide) (by decide) (by rw [hml]; rfl) (argsL := [(.long a2), (.long b2), (.long t)]) [] (lenOf pd3 rfl) rfl rfl (Nat.le_of_eq rfl) (hb hby at_45) ?_
    intro v T L' X hQ
    obtain ⟨rfl, N', eT⟩ := hQ
    have N := Fr.app N N'
    show Go p e below s _ _ T (mkF m 48 #[.val (.long a1), .second, .val (.long b1), .second, .val (.long a2), .second, .val (.long b2), .second, .val (.long t), .second, .val (.ref b0), .unset] [(.int (own_in a2 b2 t))])
    by_cases hc48 : (own_in a2 b2 t) = (0 : Int32)
    · refine Go.of (fun _ kq => XS.ifYes X.here hx rfl (pc0 := 48) (pc' := 55) rfl (hb hby at_48) rfl ((if0 _ _).trans (teq hc48).1) (by decide) (by decide) kq) ?_
      show Go p e below s _ _ T (mkF m 55 #[.val (.long a1), .second, .val (.long b1), .second, .val (.long a2), .second, .val (.long b2), .second, .val (.long t), .second, .val (.ref b0), .unset] [])
      refine Go.of (fun _ kq => XS.iconst X.here hx rfl (hb hby at_55) kq) ?_
      show Go p e below s _ _ T (mkF m 56 #[.val (.long a1), .second, .val (.long b1), .second, .val (.long a2), .second, .val (.long b2), .second, .val (.long t), .second, .val (.ref b0), .unset] [(.int (0 : Int32))])
      refine Go.of (fun _ kq => XS.istore X.here hx rfl (hb hby at_56) rfl (l' := #[.val (.long a1), .second, .val (.long b1), .second, .val (.long a2), .second, .val (.long b2), .second, .val (.long t), .second, .val (.ref b0), .val (.int (0 : Int32))]) rfl kq) ?_
      show Go p e below s _ _ T (mkF m 58 #[.val (.long a1), .second, .val (.long b1), .second, .val (.long a2), .second, .val (.long b2), .second, .val (.long t), .second, .val (.ref b0), .val (.int (0 : Int32))] [])
      refine Go.of (fun _ kq => XS.aload X.here hx rfl (hb hby at_58) rfl rfl kq) ?_
      show Go p e below s _ _ T (mkF m 60 #[.val (.long a1), .second, .val (.long b1), .second, .val (.long a2), .second, .val (.long b2), .second, .val (.long t), .second, .val (.ref b0), .val (.int (0 : Int32))] [(.ref b0)])
      refine Go.of (fun _ kq => XS.lload X.here hx rfl (hb hby at_60) rfl kq) ?_
      show Go p e below s _ _ T (mkF m 62 #[.val (.long a1), .second, .val (.long b1), .second, .val (.long a2), .second, .val (.long b2), .second, .val (.long t), .second, .val (.ref b0), .val (.int (0 : Int32))] [(.long t), (.ref b0)])
      refine Go.virtual (a := b0) X hx hZ hown (hw _ (List.mem_of_getElem? (i := 25) rfl)) (hw _ (List.mem_of_getElem? (i := 26) rfl)) (notFace_of_selects (args := #[]) (mvT hZ (hw _ (List.mem_of_getElem? (i := 28) rfl)))) (hw _ (List.mem_of_getElem? (i := 28) rfl)) (hw _ (List.mem_of_getElem? (i := 27) rfl)) (hw _ (List.mem_of_getElem? (i := 2) rfl)) (hw _ (List.mem_of_getElem? (i := 29) rfl)) (by decide) (rmHas hw b0 t x y (own_add (own_add [] a1 b1) a2 b2) _ n0 RR) eT E_b0 0 (by decide) (by decide) (by decide) (by decide) (by rw [hml]; rfl) (argsL := [(.long t)]) [] (lenOf pd4 rfl) rfl rfl (Nat.le_of_eq rfl) (hb hby at_62) ?_
      intro v T L' X hQ
      obtain ⟨rfl, N', eT⟩ := hQ
      have N := Fr.app N N'
      show Go p e below s _ _ T (mkF m 65 #[.val (.long a1), .second, .val (.long b1), .second, .val (.long a2), .second, .val (.long b2), .second, .val (.long t), .second, .val (.ref b0), .val (.int (0 : Int32))] [(.int (own_has t (own_add (own_add [] a1 b1) a2 b2)))])
      refine Go.of (fun _ kq => XS.iload X.here hx rfl (hb hby at_65) rfl kq) ?_
      show Go p e below s _ _ T (mkF m 67 #[.val (.long a1), .second, .val (.long b1), .second, .val (.long a2), .second, .val (.long b2), .second, .val (.long t), .second, .val (.ref b0), .val (.int (0 : Int32))] [(.int (0 : Int32)), (.int (own_has t (own_add (own_add [] a1 b1) a2 b2)))])
      refine Go.of (fun _ kq => XS.icmpNo X.here hx rfl (hb hby at_67) rfl (teq ((own_law a1 b1 a2 b2 t).mpr ⟨hc36, hc48⟩)).2 kq) ?_
      show Go p e below s _ _ T (mkF m 70 #[.val (.long a1), .second, .val (.long b1), .second, .val (.long a2), .second, .val (.long b2), .second, .val (.long t), .second, .val (.ref b0), .val (.int (0 : Int32))] [])
      refine Go.of (fun _ kq => XS.iconst X.here hx rfl (hb hby at_70) kq) ?_
      show Go p e below s _ _ T (mkF m 71 #[.val (.long a1), .second, .val (.long b1), .second, .val (.long a2), .second, .val (.long b2), .second, .val (.long t), .second, .val (.ref b0), .val (.int (0 : Int32))] [(.int (1 : Int32))])
      refine Go.of (fun _ kq => XS.goto X.here hx rfl (pc0 := 71) (pc' := 75) rfl (hb hby at_71) (by decide) (by decide) kq) ?_
      show Go p e below s _ _ T (mkF m 75 #[.val (.long a1), .second, .val (.long b1), .second, .val (.long a2), .second, .val (.long b2), .second, .val (.long t), .second, .val (.ref b0), .val (.int (0 : Int32))] [(.int (1 : Int32))])
      refine Go.retN X hx hret (by simp) hlk (hb hby at_75) (by decide) (by decide) ?_
      try rw [eT]
      exact ⟨rfl, N⟩
    · refine Go.of (fun _ kq => XS.ifNo X.here hx rfl (hb hby at_48) rfl ((if0 _ _).trans (feq hc48).1) kq) ?_
      show Go p e below s _ _ T (mkF m 51 #[.val (.long a1), .second, .val (.long b1), .second, .val (.long a2), .second, .val (.long b2), .second, .val (.long t), .second, .val (.ref b0), .unset] [])
      refine Go.of (fun _ kq => XS.iconst X.here hx rfl (hb hby at_51) kq) ?_
      show Go p e below s _ _ T (mkF m 52 #[.val (.long a1), .second, .val (.long b1), .second, .val (.long a2), .second, .val (.long b2), .second, .val (.long t), .second, .val (.ref b0), .unset] [(.int (1 : Int32))])
      refine Go.of (fun _ kq => XS.goto X.here hx rfl (pc0 := 52) (pc' := 56) rfl (hb hby at_52) (by decide) (by decide) kq) ?_
      show Go p e below s _ _ T (mkF m 56 #[.val (.long a1), .second, .val (.long b1), .second, .val (.long a2), .second, .val (.long b2), .second, .val (.long t), .second, .val (.ref b0), .unset] [(.int (1 : Int32))])
      refine Go.of (fun _ kq => XS.istore X.here hx rfl (hb hby at_56) rfl (l' := #[.val (.long a1), .second, .val (.long b1), .second, .val (.long a2), .second, .val (.long b2), .second, .val (.long t), .second, .val (.ref b0), .val (.int (1 : Int32))]) rfl kq) ?_
      show Go p e below s _ _ T (mkF m 58 #[.val (.long a1), .second, .val (.long b1), .second, .val (.long a2), .second, .val (.long b2), .second, .val (.long t), .second, .val (.ref b0), .val (.int (1 : Int32))] [])
      refine Go.of (fun _ kq => XS.aload X.here hx rfl (hb hby at_58) rfl rfl kq) ?_
      show Go p e below s _ _ T (mkF m 60 #[.val (.long a1), .second, .val (.long b1), .second, .val (.long a2), .second, .val (.long b2), .second, .val (.long t), .second, .val (.ref b0), .val (.int (1 : Int32))] [(.ref b0)])
      refine Go.of (fun _ kq => XS.lload X.here hx rfl (hb hby at_60) rfl kq) ?_
      show Go p e below s _ _ T (mkF m 62 #[.val (.long a1), .second, .val (.long b1), .second, .val (.long a2), .second, .val (.long b2), .second, .val (.long t), .second, .val (.ref b0), .val (.int (1 : Int32))] [(.long t), (.ref b0)])
      refine Go.virtual (a := b0) X hx hZ hown (hw _ (List.mem_of_getElem? (i := 25) rfl)) (hw _ (List.mem_of_getElem? (i := 26) rfl)) (notFace_of_selects (args := #[]) (mvT hZ (hw _ (List.mem_of_getElem? (i := 28) rfl)))) (hw _ (List.mem_of_getElem? (i := 28) rfl)) (hw _ (List.mem_of_getElem? (i := 27) rfl)) (hw _ (List.mem_of_getElem? (i := 2) rfl)) (hw _ (List.mem_of_getElem? (i := 29) rfl)) (by decide) (rmHas hw b0 t x y (own_add (own_add [] a1 b1) a2 b2) _ n0 RR) eT E_b0 0 (by decide) (by decide) (by decide) (by decide) (by rw [hml]; rfl) (argsL := [(.long t)]) [] (lenOf pd4 rfl) rfl rfl (Nat.le_of_eq rfl) (hb hby at_62) ?_
      intro v T L' X hQ
      obtain ⟨rfl, N', eT⟩ := hQ
      have N := Fr.app N N'
      show Go p e below s _ _ T (mkF m 65 #[.val (.long a1), .second, .val (.long b1), .second, .val (.long a2), .second, .val (.long b2), .second, .val (.long t), .second, .val (.ref b0), .val (.int (1 : Int32))] [(.int (own_has t (own_add (own_add [] a1 b1) a2 b2)))])
      refine Go.of (fun _ kq => XS.iload X.here hx rfl (hb hby at_65) rfl kq) ?_
      show Go p e below s _ _ T (mkF m 67 #[.val (.long a1), .second, .val (.long b1), .second, .val (.long a2), .second, .val (.long b2), .second, .val (.long t), .second, .val (.ref b0), .val (.int (1 : Int32))] [(.int (1 : Int32)), (.int (own_has t (own_add (own_add [] a1 b1) a2 b2)))])
      refine Go.of (fun _ kq => XS.icmpNo X.here hx rfl (hb hby at_67) rfl (teq ((own_has_01 t (own_add (own_add [] a1 b1) a2 b2)).elim (fun q => absurd ((own_law a1 b1 a2 b2 t).mp q).2 hc48) id)).2 kq) ?_
      show Go p e below s _ _ T (mkF m 70 #[.val (.long a1), .second, .val (.long b1), .second, .val (.long a2), .second, .val (.long b2), .second, .val (.long t), .second, .val (.ref b0), .val (.int (1 : Int32))] [])
      refine Go.of (fun _ kq => XS.iconst X.here hx rfl (hb hby at_70) kq) ?_
      show Go p e below s _ _ T (mkF m 71 #[.val (.long a1), .second, .val (.long b1), .second, .val (.long a2), .second, .val (.long b2), .second, .val (.long t), .second, .val (.ref b0), .val (.int (1 : Int32))] [(.int (1 : Int32))])
      refine Go.of (fun _ kq => XS.goto X.here hx rfl (pc0 := 71) (pc' := 75) rfl (hb hby at_71) (by decide) (by decide) kq) ?_
      show Go p e below s _ _ T (mkF m 75 #[.val (.long a1), .second, .val (.long b1), .second, .val (.long a2), .second, .val (.long b2), .second, .val (.long t), .second, .val (.ref b0), .val (.int (1 : Int32))] [(.int (1 : Int32))])
      refine Go.retN X hx hret (by simp) hlk (hb hby at_75) (by decide) (by decide) ?_
      try rw [eT]
      exact ⟨rfl, N⟩
  · refine Go.of (fun _ kq => XS.ifYes X.here hx rfl (pc0 := 36) (pc' := 51) rfl (hb hby at_36) rfl ((if0 _ _).trans (feq hc36).2) (by decide) (by decide) kq) ?_
    show Go p e below s _ _ T (mkF m 51 #[.val (.long a1), .second, .val (.long b1), .second, .val (.long a2), .second, .val (.long b2), .second, .val (.long t), .second, .val (.ref b0), .unset] [])
    refine Go.of (fun _ kq => XS.iconst X.here hx rfl (hb hby at_51) kq) ?_
    show Go p e below s _ _ T (mkF m 52 #[.val (.long a1), .second, .val (.long b1), .second, .val (.long a2), .second, .val (.long b2), .second, .val (.long t), .second, .val (.ref b0), .unset] [(.int (1 : Int32))])
    refine Go.of (fun _ kq => XS.goto X.here hx rfl (pc0 := 52) (pc' := 56) rfl (hb hby at_52) (by decide) (by decide) kq) ?_
    show Go p e below s _ _ T (mkF m 56 #[.val (.long a1), .second, .val (.long b1), .second, .val (.long a2), .second, .val (.long b2), .second, .val (.long t), .second, .val (.ref b0), .unset] [(.int (1 : Int32))])
    refine Go.of (fun _ kq => XS.istore X.here hx rfl (hb hby at_56) rfl (l' := #[.val (.long a1), .second, .val (.long b1), .second, .val (.long a2), .second, .val (.long b2), .second, .val (.long t), .second, .val (.ref b0), .val (.int (1 : Int32))]) rfl kq) ?_
    show Go p e below s _ _ T (mkF m 58 #[.val (.long a1), .second, .val (.long b1), .second, .val (.long a2), .second, .val (.long b2), .second, .val (.long t), .second, .val (.ref b0), .val (.int (1 : Int32))] [])
    refine Go.of (fun _ kq => XS.aload X.here hx rfl (hb hby at_58) rfl rfl kq) ?_
    show Go p e below s _ _ T (mkF m 60 #[.val (.long a1), .second, .val (.long b1), .second, .val (.long a2), .second, .val (.long b2), .second, .val (.long t), .second, .val (.ref b0), .val (.int (1 : Int32))] [(.ref b0)])
    refine Go.of (fun _ kq => XS.lload X.here hx rfl (hb hby at_60) rfl kq) ?_
    show Go p e below s _ _ T (mkF m 62 #[.val (.long a1), .second, .val (.long b1), .second, .val (.long a2), .second, .val (.long b2), .second, .val (.long t), .second, .val (.ref b0), .val (.int (1 : Int32))] [(.long t), (.ref b0)])
    refine Go.virtual (a := b0) X hx hZ hown (hw _ (List.mem_of_getElem? (i := 25) rfl)) (hw _ (List.mem_of_getElem? (i := 26) rfl)) (notFace_of_selects (args := #[]) (mvT hZ (hw _ (List.mem_of_getElem? (i := 28) rfl)))) (hw _ (List.mem_of_getElem? (i := 28) rfl)) (hw _ (List.mem_of_getElem? (i := 27) rfl)) (hw _ (List.mem_of_getElem? (i := 2) rfl)) (hw _ (List.mem_of_getElem? (i := 29) rfl)) (by decide) (rmHas hw b0 t x y (own_add (own_add [] a1 b1) a2 b2) _ n0 RR) eT E_b0 0 (by decide) (by decide) (by decide) (by decide) (by rw [hml]; rfl) (argsL := [(.long t)]) [] (lenOf pd4 rfl) rfl rfl (Nat.le_of_eq rfl) (hb hby at_62) ?_
    intro v T L' X hQ
    obtain ⟨rfl, N', eT⟩ := hQ
    have N := Fr.app N N'
    show Go p e below s _ _ T (mkF m 65 #[.val (.long a1), .second, .val (.long b1), .second, .val (.long a2), .second, .val (.long b2), .second, .val (.long t), .second, .val (.ref b0), .val (.int (1 : Int32))] [(.int (own_has t (own_add (own_add [] a1 b1) a2 b2)))])
    refine Go.of (fun _ kq => XS.iload X.here hx rfl (hb hby at_65) rfl kq) ?_
    show Go p e below s _ _ T (mkF m 67 #[.val (.long a1), .second, .val (.long b1), .second, .val (.long a2), .second, .val (.long b2), .second, .val (.long t), .second, .val (.ref b0), .val (.int (1 : Int32))] [(.int (1 : Int32)), (.int (own_has t (own_add (own_add [] a1 b1) a2 b2)))])
    refine Go.of (fun _ kq => XS.icmpNo X.here hx rfl (hb hby at_67) rfl (teq ((own_has_01 t (own_add (own_add [] a1 b1) a2 b2)).elim (fun q => absurd ((own_law a1 b1 a2 b2 t).mp q).1 hc36) id)).2 kq) ?_
    show Go p e below s _ _ T (mkF m 70 #[.val (.long a1), .second, .val (.long b1), .second, .val (.long a2), .second, .val (.long b2), .second, .val (.long t), .second, .val (.ref b0), .val (.int (1 : Int32))] [])
    refine Go.of (fun _ kq => XS.iconst X.here hx rfl (hb hby at_70) kq) ?_
    show Go p e below s _ _ T (mkF m 71 #[.val (.long a1), .second, .val (.long b1), .second, .val (.long a2), .second, .val (.long b2), .second, .val (.long t), .second, .val (.ref b0), .val (.int (1 : Int32))] [(.int (1 : Int32))])
    refine Go.of (fun _ kq => XS.goto X.here hx rfl (pc0 := 71) (pc' := 75) rfl (hb hby at_71) (by decide) (by decide) kq) ?_
    show Go p e below s _ _ T (mkF m 75 #[.val (.long a1), .second, .val (.long b1), .second, .val (.long a2), .second, .val (.long b2), .second, .val (.long t), .second, .val (.ref b0), .val (.int (1 : Int32))] [(.int (1 : Int32))])
    refine Go.retN X hx hret (by simp) hlk (hb hby at_75) (by decide) (by decide) ?_
    try rw [eT]
    exact ⟨rfl, N⟩
set_option maxRecDepth 65536 in
set_option maxHeartbeats 40000000 in
theorem comes_1 {Post : Tables → Env → Array Value → State → Outcome → State → Prop} (hpost : ∀ tb e args s v u, (limb_1_1.after args s (.returned v) u = true ∧ limb_1_2.after args s (.returned v) u = true ∧ True) → FrameEnd s (.returned v) u (Jvm.fieldLocs frame_1_writes args s ++ Jvm.arrayLocs frame_1_arrays args s ++ Jvm.staticLocs frame_1_statics s) 16 128 → Post tb e args s (.returned v) u) :
    ArmFor flags0 classFile x code maxLocals ret World_1 tables_1 room_1 Calls_1 rest_1 Pre_1 Post := by
  intro l hfl _ _ p e ha hc hk s m args below hf hA hF happ hP
  obtain ⟨hcalls, hrest, hpre⟩ := hP
  obtain ⟨-, -, -, hnamed, -, -, -, hat⟩ := (Spec.applies_iff hf).mp happ
  obtain ⟨hg, hn⟩ := and_e (Cond.before_iff.mp (show (Jvm.Cond.and given_1 narrow_1).before args s = true from hpre))
  obtain ⟨gc, g0⟩ := and_e hg
  obtain ⟨k0, g1⟩ := and_e g0
  obtain ⟨k1, g2⟩ := and_e g1
  obtain ⟨k2, g3⟩ := and_e g2
  obtain ⟨k3, g4⟩ := and_e g3
  obtain ⟨w0, w1, w2, w3, w4, rfl⟩ : ∃ w0 w1 w2 w3 w4 : Value, args = #[w0, w1, w2, w3, w4] := by
    have hs : args.size = 5 := by simpa [Cond.value, given_1] using gc
    obtain ⟨L⟩ := args
    match L, hs with
    | [w0, w1, w2, w3, w4], _ => exact ⟨w0, w1, w2, w3, w4, rfl⟩
  have hw := fun d (hd : d ∈ tables_1) => atoms_spec (ws := Jvm.Cond.code x code maxLocals ret :: tables_1) hat d (List.mem_cons_of_mem _ hd)
  obtain ⟨i0, ei0⟩ := isL_v k0
  obtain rfl : w0 = (.long i0) := Option.some.inj ei0
  obtain ⟨i1, ei1⟩ := isL_v k1
  obtain rfl : w1 = (.long i1) := Option.some.inj ei1
  obtain ⟨i2, ei2⟩ := isL_v k2
  obtain rfl : w2 = (.long i2) := Option.some.inj ei2
  obtain ⟨i3, ei3⟩ := isL_v k3
  obtain rfl : w3 = (.long i3) := Option.some.inj ei3
  obtain ⟨i4, ei4⟩ := isL_v g4
  obtain rfl : w4 = (.long i4) := Option.some.inj ei4
  obtain ⟨n, o, h1, h2, h3, _, L, rfl, ⟨rfl, N⟩, hq⟩ := rm0 (l := l) (Z := s) hw i0 i1 i2 i3 i4 s.heap s.heap.size (Nat.le_refl _) p e ha hc hk s m _ below hf ((Spec.applies_iff_loose hf).mp happ).1 ⟨rfl, State.Warmed39.refl s, rfl⟩ trivial
  refine ⟨n, _, h1, h2, h3, hpost _ _ _ _ _ _ ⟨Cond.after_iff.mpr rfl, Cond.after_iff.mpr (eq_i res_at (Term.int_eval (1)) rfl), trivial⟩ ⟨hq.1, hq.2.1, (hq.2.2.sift fun y hy => Or.inr (N y hy)).mono (by decide) (by decide)⟩⟩
theorem main_1_1 : Claimed_1_1 := comes_1 fun _ _ _ _ _ _ h hF => ⟨h.1, hF⟩
theorem main_1_2 : Claimed_1_2 := comes_1 fun _ _ _ _ _ _ h hF => ⟨h.2.1, hF⟩
end Jvm.Pilot.@@N@@
namespace Jvm.Pilot.@@N@@
open Jvm Jvm.ClassFile Sem Op Lib Jvm.Free Jvm.Stand Jvm.Pilot.@@N@@.Jvm.D
/-! MADE BY PROGRAM (witnessworld.py) out of the Statement's table words and the real class files: 12 classes; the members and pool entries that the words name. The judged class is class 1, her method 2. -/
namespace start1
open Jvm.ClassFile
def u (s : String) : CpInfo := .utf8 (stringToUtf16 s)
/-- a pool by its gaps: so many unusable entries, then the entry; so many at the end -/
def gap : Nat → List CpInfo → List CpInfo
  | 0, r => r
  | n + 1, r => .unusable :: gap n r
def poolList (es : List (Nat × CpInfo)) (last : Nat) : List CpInfo := es.foldr (fun e r => gap e.1 (e.2 :: r)) (gap last [])
def pool (es : List (Nat × CpInfo)) (last : Nat) : Array CpInfo := ⟨poolList es last⟩
def fileOf (pool : Array CpInfo) (this : Nat) (attrs : Array Attribute := #[]) (ms : Array MethodInfo := #[]) (fl : Nat := 33) (sup : Nat := 0) (ifs : Array Nat := #[]) (fds : Array FieldInfo := #[]) : ClassFile where
  minorVersion := 0
  majorVersion := 65
  constantPool := pool
  accessFlags := fl
  thisClass := this
  superClass := sup
  interfaces := ifs
  fields := fds
  methods := ms
  attributes := attrs
def plain (name : String) (sup : Option ClassId) : Class where
  name := name
  kind := .ordinary
  loader := none
  accessFlags := 33
  super := sup
  interfaces := #[]
  cf := none
  fields := #[]
  methods := #[]
  instanceTypes := #[]
  staticTypes := #[]
  resolved := #[]
  callSites := []
  init := .initialized
  statics := none
  mirror := none

def pool0 : Array CpInfo := pool [(5, u "<init>"), (0, u "()V"), (1, .class_ 10), (1, u "java/lang/Object")] 113

def k0c0 : Code := { maxStack := 0, maxLocals := 1, code := object_method_1_code, exceptionTable := #[], attributes := #[] }
def k0m0 : Method := { name := "<init>", desc := "()V", sig := { parameters := [], returnType := none }, accessFlags := 1, code := some k0c0 }
/-- java/lang/Object -/
def k0 : Class := { plain "java/lang/Object" none with
  accessFlags := 33
  interfaces := #[]
  cf := some (fileOf pool0 8 #[] #[{ accessFlags := 1, nameIndex := 5, descriptorIndex := 6, attributes := #[] }] 33 0 #[] #[])
  fields := #[]
  methods := #[k0m0]
  instanceTypes := #[]
  staticTypes := #[]
  resolved := Array.replicate 124 none
  statics := none }

def pool1 : Array CpInfo := pool [(2, .class_ 4), (0, .nameAndType 5 6), (0, u "java/lang/Object"), (0, u "<init>"), (0, u "()V"), (0, .class_ 8), (0, u "com/example/credence/credence/oauth1/SpentRanges"), (0, .methodref 7 3), (0, .methodref 7 11), (0, .nameAndType 12 13), (0, u "add"), (0, u "(JJJJ)V"), (0, .methodref 15 16), (0, .class_ 17), (0, .nameAndType 18 19), (0, u "com/example/credence/credence/oauth1/SpentRangesContainsPinLaw"), (0, u "in"), (0, u "(JJJ)Z"), (0, .methodref 7 21), (0, .nameAndType 22 23), (0, u "contains"), (0, u "(J)Z"), (3, u "law"), (0, u "(JJJJJ)Z")] 2

def k1m0 : Method := { name := "<init>", desc := "()V", sig := { parameters := [], returnType := none }, accessFlags := 2, code := none }
def k1c1 : Code := { maxStack := 4, maxLocals := 6, code := method_2_code, exceptionTable := #[], attributes := #[] }
def k1m1 : Method := { name := "in", desc := "(JJJ)Z", sig := { parameters := [.long, .long, .long], returnType := some .boolean }, accessFlags := 10, code := some k1c1 }
def k1c2 : Code := { maxStack := 9, maxLocals := 12, code := code, exceptionTable := #[], attributes := #[] }
def k1m2 : Method := { name := "law", desc := "(JJJJJ)Z", sig := { parameters := [.long, .long, .long, .long, .long], returnType := some .boolean }, accessFlags := 9, code := some k1c2 }
/-- com/example/credence/credence/oauth1/SpentRangesContainsPinLaw -/
def k1 : Class := { plain "com/example/credence/credence/oauth1/SpentRangesContainsPinLaw" (some 0) with
  accessFlags := 49
  interfaces := #[]
  cf := some (fileOf pool1 15 #[] #[{ accessFlags := 2, nameIndex := 5, descriptorIndex := 6, attributes := #[] }, { accessFlags := 10, nameIndex := 18, descriptorIndex := 19, attributes := #[] }, { accessFlags := 9, nameIndex := 27, descriptorIndex := 28, attributes := #[] }] 49 2 #[] #[])
  fields := #[]
  methods := #[k1m0, k1m1, k1m2]
  instanceTypes := #[]
  staticTypes := #[]
  resolved := Array.replicate 31 none
  statics := none }

def pool2 : Array CpInfo := pool [(1, .class_ 2), (0, u "com/example/credence/credence/oauth1/SpentRanges"), (2, .methodref 6 7), (0, .class_ 8), (0, .nameAndType 9 10), (0, u "java/lang/Object"), (0, u "<init>"), (0, u "()V"), (0, .fieldref 1 12), (0, .nameAndType 13 14), (0, u "firsts"), (0, u "[J"), (0, .fieldref 1 16), (0, .nameAndType 17 14), (0, u "lasts"), (0, .fieldref 1 19), (0, .nameAndType 20 21), (0, u "count"), (0, u "I"), (0, .methodref 23 24), (0, .class_ 25), (0, .nameAndType 26 27), (0, u "java/lang/Math"), (0, u "max"), (0, u "(JJ)J"), (33, u "add"), (0, u "(JJJJ)V"), (3, u "MOST"), (2, u "BYTES"), (1, u "NONE_FIRST"), (0, u "J"), (2, u "NONE_LAST"), (2, u "contains"), (0, u "(J)Z")] 9

def k2c0 : Code := { maxStack := 2, maxLocals := 1, code := prog_18_method_1_code, exceptionTable := #[], attributes := #[] }
def k2m0 : Method := { name := "<init>", desc := "()V", sig := { parameters := [], returnType := none }, accessFlags := 0, code := some k2c0 }
def k2c1 : Code := { maxStack := 4, maxLocals := 5, code := prog_18_method_2_code, exceptionTable := #[], attributes := #[] }
def k2m1 : Method := { name := "contains", desc := "(J)Z", sig := { parameters := [.long], returnType := some .boolean }, accessFlags := 0, code := some k2c1 }
def k2c2 : Code := { maxStack := 6, maxLocals := 15, code := prog_18_method_3_code, exceptionTable := #[], attributes := #[] }
def k2m2 : Method := { name := "add", desc := "(JJJJ)V", sig := { parameters := [.long, .long, .long, .long], returnType := none }, accessFlags := 0, code := some k2c2 }
/-- com/example/credence/credence/oauth1/SpentRanges -/
def k2 : Class := { plain "com/example/credence/credence/oauth1/SpentRanges" (some 0) with
  accessFlags := 48
  interfaces := #[]
  cf := some (fileOf pool2 1 #[] #[{ accessFlags := 0, nameIndex := 9, descriptorIndex := 10, attributes := #[] }, { accessFlags := 0, nameIndex := 78, descriptorIndex := 79, attributes := #[] }, { accessFlags := 0, nameIndex := 61, descriptorIndex := 62, attributes := #[] }] 48 6 #[] #[{ accessFlags := 26, nameIndex := 66, descriptorIndex := 21, attributes := #[] }, { accessFlags := 24, nameIndex := 69, descriptorIndex := 21, attributes := #[] }, { accessFlags := 26, nameIndex := 71, descriptorIndex := 72, attributes := #[] }, { accessFlags := 26, nameIndex := 75, descriptorIndex := 72, attributes := #[] }, { accessFlags := 18, nameIndex := 13, descriptorIndex := 14, attributes := #[] }, { accessFlags := 18, nameIndex := 17, descriptorIndex := 14, attributes := #[] }, { accessFlags := 2, nameIndex := 20, descriptorIndex := 21, attributes := #[] }])
  fields := #[{ name := "MOST", type := .int, accessFlags := 26, slot := 0, constantValue := 0 }, { name := "BYTES", type := .int, accessFlags := 24, slot := 1, constantValue := 0 }, { name := "NONE_FIRST", type := .long, accessFlags := 26, slot := 2, constantValue := 0 }, { name := "NONE_LAST", type := .long, accessFlags := 26, slot := 3, constantValue := 0 }, { name := "firsts", type := (.array .long), accessFlags := 18, slot := 0, constantValue := 0 }, { name := "lasts", type := (.array .long), accessFlags := 18, slot := 1, constantValue := 0 }, { name := "count", type := .int, accessFlags := 2, slot := 2, constantValue := 0 }]
  methods := #[k2m0, k2m1, k2m2]
  instanceTypes := #[(.array .long), (.array .long), .int]
  staticTypes := #[.int, .int, .long, .long]
  resolved := Array.replicate 89 none
  statics := none }

def pool3 : Array CpInfo := pool [(1, .class_ 2), (0, u "java/lang/Math"), (1, .class_ 6), (1, u "java/lang/Object"), (0, u "<init>"), (0, u "()V"), (89, .class_ 100), (1, u "java/lang/Math$RandomNumberGeneratorHolder"), (20, u "(JJ)J"), (50, u "negativeZeroFloatBits"), (0, u "J"), (2, u "negativeZeroDoubleBits"), (21, u "max"), (46, u "$assertionsDisabled"), (0, u "Z"), (91, u "twoToTheDoubleScaleDown"), (0, u "D"), (4, u "twoToTheDoubleScaleUp"), (9, u "E"), (3, u "PI"), (2, u "TAU"), (2, u "DEGREES_TO_RADIANS"), (0, u "RADIANS_TO_DEGREES")] 94

def k3m0 : Method := { name := "<init>", desc := "()V", sig := { parameters := [], returnType := none }, accessFlags := 2, code := none }
def k3c1 : Code := { maxStack := 4, maxLocals := 4, code := jdk_29_method_66_code, exceptionTable := #[], attributes := #[] }
def k3m1 : Method := { name := "max", desc := "(JJ)J", sig := { parameters := [.long, .long], returnType := some .long }, accessFlags := 9, code := some k3c1 }
/-- java/lang/Math -/
def k3 : Class := { plain "java/lang/Math" (some 0) with
  accessFlags := 49
  interfaces := #[]
  cf := some (fileOf pool3 1 #[.nestMembers #[98]] #[{ accessFlags := 2, nameIndex := 7, descriptorIndex := 8, attributes := #[] }, { accessFlags := 9, nameIndex := 198, descriptorIndex := 121, attributes := #[] }] 49 4 #[] #[{ accessFlags := 25, nameIndex := 354, descriptorIndex := 339, attributes := #[] }, { accessFlags := 25, nameIndex := 358, descriptorIndex := 339, attributes := #[] }, { accessFlags := 25, nameIndex := 361, descriptorIndex := 339, attributes := #[] }, { accessFlags := 26, nameIndex := 364, descriptorIndex := 339, attributes := #[] }, { accessFlags := 26, nameIndex := 365, descriptorIndex := 339, attributes := #[] }, { accessFlags := 26, nameIndex := 172, descriptorIndex := 173, attributes := #[] }, { accessFlags := 26, nameIndex := 176, descriptorIndex := 173, attributes := #[] }, { accessFlags := 8, nameIndex := 344, descriptorIndex := 339, attributes := #[] }, { accessFlags := 8, nameIndex := 338, descriptorIndex := 339, attributes := #[] }, { accessFlags := 4120, nameIndex := 245, descriptorIndex := 246, attributes := #[] }])
  fields := #[{ name := "E", type := .double, accessFlags := 25, slot := 0, constantValue := 0 }, { name := "PI", type := .double, accessFlags := 25, slot := 1, constantValue := 0 }, { name := "TAU", type := .double, accessFlags := 25, slot := 2, constantValue := 0 }, { name := "DEGREES_TO_RADIANS", type := .double, accessFlags := 26, slot := 3, constantValue := 0 }, { name := "RADIANS_TO_DEGREES", type := .double, accessFlags := 26, slot := 4, constantValue := 0 }, { name := "negativeZeroFloatBits", type := .long, accessFlags := 26, slot := 5, constantValue := 0 }, { name := "negativeZeroDoubleBits", type := .long, accessFlags := 26, slot := 6, constantValue := 0 }, { name := "twoToTheDoubleScaleUp", type := .double, accessFlags := 8, slot := 7, constantValue := 0 }, { name := "twoToTheDoubleScaleDown", type := .double, accessFlags := 8, slot := 8, constantValue := 0 }, { name := "$assertionsDisabled", type := .boolean, accessFlags := 4120, slot := 9, constantValue := 0 }]
  methods := #[k3m0, k3m1]
  instanceTypes := #[]
  staticTypes := #[.double, .double, .double, .double, .double, .long, .long, .double, .double, .boolean]
  resolved := Array.replicate 460 none
  statics := none }

def pool4 : Array CpInfo := pool [(1, u "java/lang/Cloneable"), (0, .class_ 1), (0, u "java/lang/Object"), (0, .class_ 3)] 3

/-- java/lang/Cloneable -/
def k4 : Class := { plain "java/lang/Cloneable" (some 0) with
  accessFlags := 1537
  interfaces := #[]
  cf := some (fileOf pool4 2 #[] #[] 1537 4 #[] #[])
  fields := #[]
  methods := #[]
  instanceTypes := #[]
  staticTypes := #[]
  resolved := Array.replicate 8 none
  statics := none }

def pool5 : Array CpInfo := pool [(1, u "java/io/Serializable"), (0, .class_ 1), (0, u "java/lang/Object"), (0, .class_ 3)] 3

/-- java/io/Serializable -/
def k5 : Class := { plain "java/io/Serializable" (some 0) with
  accessFlags := 1537
  interfaces := #[]
  cf := some (fileOf pool5 2 #[] #[] 1537 4 #[] #[])
  fields := #[]
  methods := #[]
  instanceTypes := #[]
  staticTypes := #[]
  resolved := Array.replicate 8 none
  statics := none }

/-- the primitive byte -/
def k6 : Class := { plain "byte" none with kind := .primitive 'B', accessFlags := 0x411 }
/-- [B -/
def k7 : Class := { plain "[B" (some 0) with kind := .array 6 .byte, interfaces := #[4, 5], accessFlags := 1041 }

/-- the primitive int -/
def k8 : Class := { plain "int" none with kind := .primitive 'I', accessFlags := 0x411 }
/-- [I -/
def k9 : Class := { plain "[I" (some 0) with kind := .array 8 .int, interfaces := #[4, 5], accessFlags := 1041 }

/-- the primitive long -/
def k10 : Class := { plain "long" none with kind := .primitive 'J', accessFlags := 0x411 }
/-- [J -/
def k11 : Class := { plain "[J" (some 0) with kind := .array 10 .long, interfaces := #[4, 5], accessFlags := 1041 }

def heap : Heap := #[]
def classes : Array Class := #[k0, k1, k2, k3, k4, k5, k6, k7, k8, k9, k10, k11]
def interned : List (Array UInt16 × Addr) := []
def slotsUsed : Nat := 0
def theMethod : MethodId := ⟨1, 2⟩
def args0 : Array Value := #[.long 1, .long 5, .long 3, .long 9, .long 4]
def aboutOver (below : List Frame) : State where
  vm := { classes := classes, interned := interned.toArray }
  heap := heap
  slotsUsed := slotsUsed
  threads := #[{ frames := .invoking theMethod args0 :: below }]
def below0 : List Frame := [.native { method := ⟨0, 0⟩, args := #[] }]
def about1 : State := aboutOver below0
def p0 : Program := .bare "" "" ""
def e0 : Env := launch0.env 0 0 0
theorem w_frames : about1.frames = Frame.invoking theMethod args0 :: below0 := rfl
set_option maxRecDepth 65536 in
theorem w_args : argsFit about1.vm theMethod args0 = true := by decide +kernel
set_option maxRecDepth 65536 in
theorem w_heap : heapFits about1 = true := by decide +kernel
set_option maxRecDepth 65536 in
theorem w_runnable : about1.curStatus? = some .runnable := by decide +kernel
set_option maxRecDepth 65536 in
theorem w_alone : about1.alone = true := by decide +kernel
set_option maxRecDepth 65536 in
theorem w_named : about1.methodNamed? x = some theMethod := by decide +kernel
set_option maxRecDepth 65536 in
theorem w_hears : about1.hears theMethod below0 = true := by decide +kernel
set_option maxRecDepth 65536 in
theorem w_ripe : about1.ripe theMethod args0 below0 = true := by decide +kernel
theorem w_running : about1.status = .running := rfl
set_option maxRecDepth 65536 in
theorem w_room : about1.hasRoom e0.platform room_1 = true :=
  launch0.hasRoom_least _ room_1 (by decide +kernel) (by decide +kernel) (by decide +kernel) (by decide +kernel) (by decide +kernel) (by decide +kernel)
theorem allAtoms_all (ts : List Jvm.Cond) (a : Array Jvm.Value) (st : Jvm.State) : (allAtoms ts).before a st = ts.all (fun c => c.before a st) := by
  induction ts with
  | nil => rfl
  | cons c t ih =>
    show (Jvm.Cond.and c (allAtoms t)).before a st = _
    rw [Jvm.Cond.before_and, ih, List.all_cons]
def words1 : List Jvm.Cond := Jvm.Cond.code x code maxLocals ret :: tables_1
/-- a 'code' word, met by the world's own term for the bytes: nothing is compared byte by byte -/
theorem code_word {y : MethodName} {bytes : ByteArray} {mx : Nat} {rt : Option FieldType} {a : Array Value} {s : State} {m : MethodId} {meth : Method} {c : Code} (h1 : s.methodNamed? y = some m) (h2 : s.vm.method? m = some meth) (h3 : meth.code = some c) (h4 : c.code = bytes)
    (h5 : (c.maxLocals == mx && c.exceptionTable.isEmpty && decide (c.maxStack ≤ mostOperands) && decide (meth.sig.returnType = rt) && !meth.locks && decide (parseMethodDescriptor y.desc = some meth.sig)) = true) : (Jvm.Cond.code y bytes mx rt).before a s = true := by
  simp only [Bool.and_eq_true, beq_iff_eq, Bool.not_eq_true', decide_eq_true_eq] at h5
  obtain ⟨⟨⟨⟨⟨g1, g2⟩, g3⟩, g4⟩, g5⟩, g6⟩ := h5
  simp [Cond.before, Cond.holds, Cond.value, h1, h2, h3, h4, g1, g2, g3, g4, g5, g6]
def isCode : Jvm.Cond → Bool
  | .code _ _ _ _ => true
  | _ => false
theorem all_split {L : List Jvm.Cond} {P : Jvm.Cond → Bool} (h1 : L.all (fun c => isCode c || P c) = true) (h2 : ∀ c ∈ L.filter isCode, P c = true) : L.all P = true := by
  refine List.all_eq_true.mpr fun c hc => ?_
  have h := List.all_eq_true.mp h1 c hc
  rcases Bool.eq_false_or_eq_true (isCode c) with hi | hi
  · exact h2 c (List.mem_filter.mpr ⟨hc, hi⟩)
  · simpa [hi] using h
set_option maxRecDepth 65536 in
theorem w_c0 : (Jvm.Cond.code x code maxLocals ret).before args0 about1 = true := code_word (m := ⟨1, 2⟩) (meth := k1m2) (c := k1c2) (by decide +kernel) rfl rfl rfl (by decide +kernel)
set_option maxRecDepth 65536 in
theorem w_c1 : (Jvm.Cond.code ({ cls := "com/example/credence/credence/oauth1/SpentRanges", name := "<init>", desc := "()V" } : Jvm.MethodName) prog_18_method_1_code (1 : Nat) (Option.none : Option Jvm.ClassFile.FieldType)).before args0 about1 = true := code_word (m := ⟨2, 0⟩) (meth := k2m0) (c := k2c0) (by decide +kernel) rfl rfl rfl (by decide +kernel)
set_option maxRecDepth 65536 in
theorem w_c2 : (Jvm.Cond.code ({ cls := "java/lang/Object", name := "<init>", desc := "()V" } : Jvm.MethodName) object_method_1_code (1 : Nat) (Option.none : Option Jvm.ClassFile.FieldType)).before args0 about1 = true := code_word (m := ⟨0, 0⟩) (meth := k0m0) (c := k0c0) (by decide +kernel) rfl rfl rfl (by decide +kernel)
set_option maxRecDepth 65536 in
theorem w_c3 : (Jvm.Cond.code ({ cls := "com/example/credence/credence/oauth1/SpentRanges", name := "add", desc := "(JJJJ)V" } : Jvm.MethodName) prog_18_method_3_code (15 : Nat) (Option.none : Option Jvm.ClassFile.FieldType)).before args0 about1 = true := code_word (m := ⟨2, 2⟩) (meth := k2m2) (c := k2c2) (by decide +kernel) rfl rfl rfl (by decide +kernel)
set_option maxRecDepth 65536 in
theorem w_c4 : (Jvm.Cond.code ({ cls := "com/example/credence/credence/oauth1/SpentRangesContainsPinLaw", name := "in", desc := "(JJJ)Z" } : Jvm.MethodName) method_2_code (6 : Nat) (Option.some Jvm.ClassFile.FieldType.boolean)).before args0 about1 = true := code_word (m := ⟨1, 1⟩) (meth := k1m1) (c := k1c1) (by decide +kernel) rfl rfl rfl (by decide +kernel)
set_option maxRecDepth 65536 in
theorem w_c5 : (Jvm.Cond.code ({ cls := "com/example/credence/credence/oauth1/SpentRanges", name := "contains", desc := "(J)Z" } : Jvm.MethodName) prog_18_method_2_code (5 : Nat) (Option.some Jvm.ClassFile.FieldType.boolean)).before args0 about1 = true := code_word (m := ⟨2, 1⟩) (meth := k2m1) (c := k2c1) (by decide +kernel) rfl rfl rfl (by decide +kernel)
set_option maxRecDepth 65536 in
theorem w_c6 : (Jvm.Cond.code ({ cls := "java/lang/Math", name := "max", desc := "(JJ)J" } : Jvm.MethodName) jdk_29_method_66_code (4 : Nat) (Option.some Jvm.ClassFile.FieldType.long)).before args0 about1 = true := code_word (m := ⟨3, 1⟩) (meth := k3m1) (c := k3c1) (by decide +kernel) rfl rfl rfl (by decide +kernel)
def codes1 : List Jvm.Cond := [Jvm.Cond.code x code maxLocals ret, Jvm.Cond.code ({ cls := "com/example/credence/credence/oauth1/SpentRanges", name := "<init>", desc := "()V" } : Jvm.MethodName) prog_18_method_1_code (1 : Nat) (Option.none : Option Jvm.ClassFile.FieldType), Jvm.Cond.code ({ cls := "java/lang/Object", name := "<init>", desc := "()V" } : Jvm.MethodName) object_method_1_code (1 : Nat) (Option.none : Option Jvm.ClassFile.FieldType), Jvm.Cond.code ({ cls := "com/example/credence/credence/oauth1/SpentRanges", name := "add", desc := "(JJJJ)V" } : Jvm.MethodName) prog_18_method_3_code (15 : Nat) (Option.none : Option Jvm.ClassFile.FieldType), Jvm.Cond.code ({ cls := "com/example/credence/credence/oauth1/SpentRangesContainsPinLaw", name := "in", desc := "(JJJ)Z" } : Jvm.MethodName) method_2_code (6 : Nat) (Option.some Jvm.ClassFile.FieldType.boolean), Jvm.Cond.code ({ cls := "com/example/credence/credence/oauth1/SpentRanges", name := "contains", desc := "(J)Z" } : Jvm.MethodName) prog_18_method_2_code (5 : Nat) (Option.some Jvm.ClassFile.FieldType.boolean), Jvm.Cond.code ({ cls := "java/lang/Math", name := "max", desc := "(JJ)J" } : Jvm.MethodName) jdk_29_method_66_code (4 : Nat) (Option.some Jvm.ClassFile.FieldType.long)]
set_option maxRecDepth 65536 in
theorem codes_eq : words1.filter isCode = codes1 := rfl
theorem w_codes : ∀ c ∈ words1.filter isCode, c.before args0 about1 = true := by
  rw [codes_eq]
  intro c hc
  simp only [codes1, List.mem_cons, List.not_mem_nil, or_false] at hc
  rcases hc with rfl | rfl | rfl | rfl | rfl | rfl | rfl
  · exact w_c0
  · exact w_c1
  · exact w_c2
  · exact w_c3
  · exact w_c4
  · exact w_c5
  · exact w_c6
set_option maxRecDepth 65536 in
theorem w_t1 : (words1.take 24).all (fun c => isCode c || c.before args0 about1) = true := by decide +kernel
set_option maxRecDepth 65536 in
theorem w_t2 : (words1.drop 24).all (fun c => isCode c || c.before args0 about1) = true := by decide +kernel
theorem w_tables : (allAtoms (Jvm.Cond.code x code maxLocals ret :: tables_1)).before args0 about1 = true := by
  rw [allAtoms_all]
  show words1.all (fun c => c.before args0 about1) = true
  refine all_split ?_ w_codes
  rw [← List.take_append_drop 24 words1, List.all_append, w_t1, w_t2]
  rfl
set_option maxRecDepth 65536 in
theorem w_case : (Jvm.Cond.and given_1 narrow_1).before args0 about1 = true := by decide +kernel
theorem w_applies : (headSpec (Jvm.Cond.code x code maxLocals ret :: tables_1) room_1).applies x e0.platform about1 = true :=
  (Spec.applies_iff w_frames).mpr ⟨w_running, w_runnable, w_alone, w_named, w_hears, w_ripe, w_room, w_tables⟩
theorem atStart : AtStart classFile x code maxLocals ret World_1 tables_1 room_1 Calls_1 rest_1 Pre_1 launch0 p0 e0 about1 theMethod args0 below0 :=
  ⟨lists_1, trivial, launch0.admits_env _ _ _, launch0.least_env, fairChoices_fair.cas, fairChoices_fair.clock, w_frames, w_args, w_heap, w_applies, trivial, trivial, w_case⟩
end start1
theorem witness_1 : WitnessClaimed_1 := ⟨start1.p0, start1.e0, start1.about1, start1.theMethod, start1.args0, start1.below0, start1.atStart⟩
end Jvm.Pilot.@@N@@
