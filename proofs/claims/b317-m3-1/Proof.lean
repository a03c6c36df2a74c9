import JvmDerived
import JvmDerived.Pilot.@@N@@Statement
import JvmDerived.Pilot.@@N@@Code
set_option linter.unusedVariables false
set_option linter.unusedSimpArgs false
@@BLOCK:NumsL.lean.txt@@
namespace Jvm.Pilot.@@N@@
open Jvm Jvm.ClassFile Sem Op Lib Jvm.Free Jvm.Stand Jvm.LawKit Jvm.RoadKit Bundle Jvm.Pilot.@@N@@.Jvm.D

section Kit
/-- The run goes on from the state T with the frame f on top and comes back to the caller, and Q holds of what it returned, of the heap and of the places written. -/
def Go (p : Program) (e : Env) (below : List Frame) (s : State) (R : Room) (Q : Option Value → Heap → List Loc → Prop) (T : State) (f : JFrame) : Prop :=
  ∃ s₂ o, Steps p.tables e below (T.setTop f) s₂ ∧ s₂.status = .running ∧ Ended s₂ below o ∧ ∃ v L, o = .returned v ∧ Q v s₂.heap L ∧ FrameEnd s o s₂ L R.cells R.slots
/-- a body's contract -/
def Met (l : Launch) (Z : State) (y : MethodName) (bytes : ByteArray) (maxL : Nat) (ret : Option FieldType) (ws : List Jvm.Cond) (rm : Room) (as : Array Value) (h0 : Heap) (Q : Option Value → Heap → List Loc → Prop) : Prop :=
  MetFree l y (head1 (Jvm.Cond.code y bytes maxL ret :: ws) rm) (fun a U => a = as ∧ Z.Warmed39 U.vm ∧ U.heap = h0) (fun _ _ _ _ _ => True) (fun _ U o U' => ∃ v L, o = .returned v ∧ Q v U'.heap L ∧ FrameEnd U o U' L rm.cells rm.slots)
theorem Met.mk {l : Launch} {Z : State} {y : MethodName} {bytes : ByteArray} {maxL : Nat} {ret : Option FieldType} {ws : List Jvm.Cond} {rm : Room} {as : Array Value} {h0 : Heap} {Q : Option Value → Heap → List Loc → Prop} (hp : plainFor y = true)
    (body : ∀ (p : Program) (e : Env) (s : State) (m : MethodId) (below : List Frame) (meth : Method) (c : Code) (T : State), p.tables.exec = Jvm.exec → c.code = bytes → c.maxLocals = maxL → s.vm.findClass y.cls = some m.cls → meth.name = y.name → meth.sig.returnType = ret → meth.locks = false → Z.Warmed39 s.vm →
      Stand p l e rm s m as below meth c T [] 0 0 → T.heap = h0 → Go p e below s rm Q T (entryFrame m as maxL)) : Met l Z y bytes maxL ret ws rm as h0 Q := by
  refine MetFree.of_bodySF hp hisR ?_
  intro p e s m args below meth c s₁ Bd hml0 hP hK
  obtain ⟨rfl, hZ, hh⟩ := hP
  exact body p e s m below meth c s₁ Bd.exec Bd.bytes hml0 (findClass_of_methodNamed Bd.named) (name_of_methodNamed Bd.named Bd.method).1 Bd.returns (BodyLoose.notSynchronized Bd) hZ (Stand.of_body Bd) (by rw [← hh, Bd.state]; rfl)
variable {p : Program} {l : Launch} {e : Env} {R : Room} {s : State} {m : MethodId} {args : Array Value} {below : List Frame} {meth : Method} {c : Code} {T T' : State} {locs : List Loc} {cells slots : Nat} {R' : Room} {Q : Option Value → Heap → List Loc → Prop} {f f' : JFrame} {Z : State} {a0 : Array Value} {h h' : Heap} {pc : Nat} {Ls : Array Slot} {rest : List Value}
theorem Go.of (h : ∀ t, Steps p.tables e below (T'.setTop f') t → Steps p.tables e below (T.setTop f) t) (g : Go p e below s R Q T' f') : Go p e below s R Q T f := by
  obtain ⟨s₂, o, h1, h2⟩ := g
  exact ⟨s₂, o, h _ h1, h2⟩
theorem Go.cast (q : f = f') (g : Go p e below s R Q T f') : Go p e below s R Q T f := q ▸ g
theorem Go.join {α : Type} (P : α → Prop) (fr : α → JFrame) (k : ∀ x, P x → Go p e below s R Q T (fr x)) (g : (∀ x, P x → Go p e below s R Q T (fr x)) → Go p e below s R Q T f) : Go p e below s R Q T f := g k
theorem Go.joinT {α : Type} (I : α → List Loc → Heap → Prop) (fr : α → JFrame) (k : ∀ x T' locs' h', Stand p l e R s m args below meth c T' locs' cells slots → T'.heap = h' → I x locs' h' → Go p e below s R' Q T' (fr x))
    (g : (∀ x T' locs' h', Stand p l e R s m args below meth c T' locs' cells slots → T'.heap = h' → I x locs' h' → Go p e below s R' Q T' (fr x)) → Go p e below s R' Q T f) : Go p e below s R' Q T f := g k
theorem Go.loop {α : Type} (μ : α → Nat) (I : α → List Loc → Heap → Prop) (fr : α → JFrame)
    (step : ∀ x T' locs' h', Stand p l e R s m args below meth c T' locs' cells slots → T'.heap = h' → I x locs' h' → (∀ y T'' locs'' h'', μ y < μ x → Stand p l e R s m args below meth c T'' locs'' cells slots → T''.heap = h'' → I y locs'' h'' → Go p e below s R' Q T'' (fr y)) → Go p e below s R' Q T' (fr x))
    (x : α) (X : Stand p l e R s m args below meth c T locs cells slots) (eT : T.heap = h) (hI : I x locs h) : Go p e below s R' Q T (fr x) := by
  obtain ⟨n, hn⟩ : ∃ n, μ x < n := ⟨_, Nat.lt_succ_self _⟩
  induction n generalizing x T locs h with
  | zero => exact absurd hn (Nat.not_lt_zero _)
  | succ n ih => exact step x T locs h X eT hI fun y T'' l'' h'' hy X'' e'' I'' => ih y X'' e'' I'' (by omega)
theorem Met.mono {y : MethodName} {bytes : ByteArray} {maxL : Nat} {ret : Option FieldType} {ws : List Jvm.Cond} {rm : Room} {as : Array Value} {h0 : Heap} {Q Q' : Option Value → Heap → List Loc → Prop} (M : Met l Z y bytes maxL ret ws rm as h0 Q) (q : ∀ v h L, Q v h L → Q' v h L) : Met l Z y bytes maxL ret ws rm as h0 Q' := by
  intro p e ha hc hk s m args below hf happ hP hK
  obtain ⟨n, o, h1, h2, h3, v, L, h4, h5, h6⟩ := M p e ha hc hk s m args below hf happ hP hK
  exact ⟨n, o, h1, h2, h3, v, L, h4, q _ _ _ h5, h6⟩
theorem Go.retW {g : JFrame} {v : Option Value} (X : Stand p l e R s m args below meth c T locs cells slots) (hv : meth.sig.returnType = none → v = none) (hlk : meth.locks = false) (hc : cells ≤ R'.cells) (hs : slots ≤ R'.slots) (q : Q v T.heap locs)
    (st : ∀ fs, (∀ (f : JFrame) (acts : List Action), f.method = m → f.locked = none → f.entered = [] → (doReturn e (T.setTop f) acts v).1 = T.setFrames fs) → Steps p.tables e below (T.setTop g) (T.setFrames fs)) : Go p e below s R' Q T g := by
  obtain ⟨fs, hr, hrun, hended, hW, hsame⟩ := X.leave (v := v) hv hlk
  exact ⟨_, _, st fs hr, hrun, hended, _, _, rfl, q, ⟨_, rfl⟩, hW, hsame.mono hc hs⟩
theorem Go.retI {z : Int32} (X : Stand p l e R s m args below meth c T locs cells slots) (hx : p.tables.exec = Jvm.exec) (hret : meth.sig.returnType = some .int) (hlk : meth.locks = false) (hd : decode c.code pc = .ok (.ireturn, 1)) (hc : cells ≤ R'.cells) (hs : slots ≤ R'.slots) (q : Q (some (.int z)) T.heap locs) :
    Go p e below s R' Q T (mkF m pc Ls (.int z :: rest)) :=
  Go.retW X (fun h => by rw [hret] at h; cases h) hlk hc hs q fun fs hr => retOut X hx hret rfl (Or.inl ⟨rfl, Or.inl rfl, z, rfl⟩) hd hr
theorem Go.retJ {z : Int64} (X : Stand p l e R s m args below meth c T locs cells slots) (hx : p.tables.exec = Jvm.exec) (hret : meth.sig.returnType = some .long) (hlk : meth.locks = false) (hd : decode c.code pc = .ok (.lreturn, 1)) (hc : cells ≤ R'.cells) (hs : slots ≤ R'.slots) (q : Q (some (.long z)) T.heap locs) :
    Go p e below s R' Q T (mkF m pc Ls (.long z :: rest)) :=
  Go.retW X (fun h => by rw [hret] at h; cases h) hlk hc hs q fun fs hr => retOut X hx hret rfl (Or.inr (Or.inl ⟨rfl, rfl, z, rfl⟩)) hd hr
theorem Go.retA {w : Value} {t : FieldType} (X : Stand p l e R s m args below meth c T locs cells slots) (hx : p.tables.exec = Jvm.exec) (hret : meth.sig.returnType = some t) (ht : t.isReference = true) (hw : w.isRef = true) (hn : narrow t w = w) (hlk : meth.locks = false) (hd : decode c.code pc = .ok (.areturn, 1)) (hc : cells ≤ R'.cells) (hs : slots ≤ R'.slots) (q : Q (some w) T.heap locs) :
    Go p e below s R' Q T (mkF m pc Ls (w :: rest)) :=
  Go.retW X (fun h => by rw [hret] at h; cases h) hlk hc hs q fun fs hr => retOut X hx hret hn (Or.inr (Or.inr (Or.inr (Or.inr ⟨rfl, ht, hw⟩)))) hd hr
theorem Go.retN {z : Int32} {t : FieldType} (X : Stand p l e R s m args below meth c T locs cells slots) (hx : p.tables.exec = Jvm.exec) (hret : meth.sig.returnType = some t) (ht : t = .boolean ∨ t = .byte ∨ t = .char ∨ t = .short) (hlk : meth.locks = false) (hd : decode c.code pc = .ok (.ireturn, 1)) (hc : cells ≤ R'.cells) (hs : slots ≤ R'.slots) (q : Q (some (.int (nar t z))) T.heap locs) :
    Go p e below s R' Q T (mkF m pc Ls (.int z :: rest)) :=
  Go.retW X (fun h => by rw [hret] at h; cases h) hlk hc hs q fun fs hr => RoadKit.retN X hx hret ht hd hr
theorem Go.retV (X : Stand p l e R s m args below meth c T locs cells slots) (hx : p.tables.exec = Jvm.exec) (hret : meth.sig.returnType = none) (hlk : meth.locks = false) (hd : decode c.code pc = .ok (.return_, 1)) (hc : cells ≤ R'.cells) (hs : slots ≤ R'.slots) (q : Q none T.heap locs) :
    Go p e below s R' Q T (mkF m pc Ls []) :=
  Go.retW X (fun _ => rfl) hlk hc hs q fun fs hr => X.returnOut hx hret hd hr
/-! fields -/
theorem Go.getF {own R0 O n d : String} {index : Nat} {a : Addr} {v : Value} (X : Stand p l e R s m args below meth c T locs cells slots) (hx : p.tables.exec = Jvm.exec) (hZ : Z.Warmed39 s.vm) (hown : s.vm.findClass own = some m.cls) (w : (Jvm.Cond.fieldLink own index R0 n d).before a0 Z = true) (via : Via Z R0 O n d) (eT : T.heap = h) (F : Fld Z h a O n d v)
    (hd : decode c.code pc = .ok (.getfield index, 3)) (k : ∀ T', Stand p l e R s m args below meth c T' locs cells slots → T'.heap = h → Go p e below s R' Q T' (mkF m (pc + 3) Ls (v :: rest))) : Go p e below s R' Q T (mkF m pc Ls (.ref a :: rest)) := by
  obtain ⟨T', X', e', st⟩ := RoadKit.getF X hx hZ hown (host := "") (Or.inl w) via eT F (g := mkF m pc Ls (.ref a :: rest)) rfl rfl hd
  exact Go.of st (k T' X' e')
theorem Go.getFN {own R0 O n d host : String} {index : Nat} {a : Addr} {v : Value} (X : Stand p l e R s m args below meth c T locs cells slots) (hx : p.tables.exec = Jvm.exec) (hZ : Z.Warmed39 s.vm) (hown : s.vm.findClass own = some m.cls) (w : (Jvm.Cond.fieldLinkNest own index R0 n d host).before a0 Z = true) (via : Via Z R0 O n d) (eT : T.heap = h) (F : Fld Z h a O n d v)
    (hd : decode c.code pc = .ok (.getfield index, 3)) (k : ∀ T', Stand p l e R s m args below meth c T' locs cells slots → T'.heap = h → Go p e below s R' Q T' (mkF m (pc + 3) Ls (v :: rest))) : Go p e below s R' Q T (mkF m pc Ls (.ref a :: rest)) := by
  obtain ⟨T', X', e', st⟩ := RoadKit.getF X hx hZ hown (Or.inr w) via eT F (g := mkF m pc Ls (.ref a :: rest)) rfl rfl hd
  exact Go.of st (k T' X' e')
theorem Go.putF {own R0 O n d C : String} {index kk : Nat} {ty : FieldType} {a : Addr} {v old : Value} (X : Stand p l e R s m args below meth c T locs cells slots) (hx : p.tables.exec = Jvm.exec) (hZ : Z.Warmed39 s.vm) (hown : s.vm.findClass own = some m.cls) (w : (Jvm.Cond.fieldLink own index R0 n d).before a0 Z = true) (via : Via Z R0 O n d) (eT : T.heap = h) (F : Fld Z h a O n d old)
    (E : Exa Z h a C) (L : (Jvm.Cond.lays C O n d).before a0 Z = true ∨ ((Jvm.Cond.laysFinal C O n d).before a0 Z = true ∧ own = O ∧ meth.name = "<init>")) (wi : (Jvm.Cond.instantiable C kk).before a0 Z = true) (hty : parseFieldDescriptor d = some ty) (hn : narrow ty v = v) (hf : fits ty v = true)
    (hd : decode c.code pc = .ok (.putfield index, 3)) (k : ∀ T' h', Stand p l e R s m args below meth c T' (locs ++ [⟨a, RoadKit.slotOf Z O n d⟩]) cells slots → T'.heap = h' → Wr h h' a (RoadKit.slotOf Z O n d) v → Go p e below s R' Q T' (mkF m (pc + 3) Ls rest)) : Go p e below s R' Q T (mkF m pc Ls (v :: .ref a :: rest)) := by
  obtain ⟨T', h', X', e', W, st⟩ := RoadKit.putF X hx hZ hown (host := "") (Or.inl w) via eT F E L wi hty hn hf (g := mkF m pc Ls (v :: .ref a :: rest)) rfl rfl hd
  exact Go.of st (k T' h' X' e' W)
theorem Go.putFN {own R0 O n d C : String} {index kk : Nat} {ty : FieldType} {a : Addr} {z : Int32} {old : Value} (X : Stand p l e R s m args below meth c T locs cells slots) (hx : p.tables.exec = Jvm.exec) (hZ : Z.Warmed39 s.vm) (hown : s.vm.findClass own = some m.cls) (w : (Jvm.Cond.fieldLink own index R0 n d).before a0 Z = true) (via : Via Z R0 O n d) (eT : T.heap = h) (F : Fld Z h a O n d old)
    (E : Exa Z h a C) (L : (Jvm.Cond.lays C O n d).before a0 Z = true ∨ ((Jvm.Cond.laysFinal C O n d).before a0 Z = true ∧ own = O ∧ meth.name = "<init>")) (wi : (Jvm.Cond.instantiable C kk).before a0 Z = true) (hty : parseFieldDescriptor d = some ty) (hn : narrow ty (.int z) = .int (nar ty z)) (hf : fits ty (.int (nar ty z)) = true)
    (hd : decode c.code pc = .ok (.putfield index, 3)) (k : ∀ T' h', Stand p l e R s m args below meth c T' (locs ++ [⟨a, RoadKit.slotOf Z O n d⟩]) cells slots → T'.heap = h' → Wr h h' a (RoadKit.slotOf Z O n d) (.int (nar ty z)) → Go p e below s R' Q T' (mkF m (pc + 3) Ls rest)) : Go p e below s R' Q T (mkF m pc Ls (.int z :: .ref a :: rest)) := by
  obtain ⟨T', h', X', e', W, st⟩ := RoadKit.putFN X hx hZ hown w via eT F E L wi hty hn hf (g := mkF m pc Ls (.int z :: .ref a :: rest)) rfl rfl hd
  exact Go.of st (k T' h' X' e' W)
/-! objects and arrays made -/
theorem Go.newO {own C : String} {index n : Nat} (X : Stand p l e R s m args below meth c T locs cells slots) (hx : p.tables.exec = Jvm.exec) (hZ : Z.Warmed39 s.vm) (hown : s.vm.findClass own = some m.cls) (w : (Jvm.Cond.classLink own index C).before a0 Z = true) (wi : (Jvm.Cond.instantiable C n).before a0 Z = true) (wz : (Jvm.Cond.initialized C).before a0 Z = true) (eT : T.heap = h)
    (hd : decode c.code pc = .ok (.new index, 3)) (hc : cells + 1 ≤ R.cells) (hl : slots + n ≤ R.slots)
    (k : ∀ T' h' a, Stand p l e R s m args below meth c T' locs (cells + 1) (slots + n) → T'.heap = h' → Ext h h' → a = h.size → Exa Z h' a C → (∀ {O nm d : String} {ty : FieldType}, Laid Z a0 C O nm d → parseFieldDescriptor d = some ty → Fld Z h' a O nm d (defaultValue ty)) → Go p e below s R' Q T' (mkF m (pc + 3) Ls (.ref a :: rest))) : Go p e below s R' Q T (mkF m pc Ls rest) := by
  obtain ⟨T', h', X', e', E, A, D, -, st⟩ := RoadKit.newO X hx hZ hown w wi wz eT (g := mkF m pc Ls rest) rfl hd hc hl
  exact Go.of st (k T' h' _ X' e' E rfl A D)
/-- an array: its kind, its length, what each place holds -/
def AV (Z : State) (h : Heap) (a : Addr) (ty : FieldType) (n : Nat) (f : Nat → Value) : Prop := ∃ cl : Cell, Arr Z h a cl ty ∧ cl.slots.size = n ∧ ∀ j, j < n → cl.slots[j]? = some (f j)
def upd (f : Nat → Value) (j : Nat) (v : Value) : Nat → Value := fun i => if i = j then v else f i
def Inb (j : Int32) (n : Nat) : Prop := ¬ j < 0 ∧ j.toNatClampNeg < n
theorem upd_same (f : Nat → Value) (j : Nat) (v : Value) : upd f j v j = v := by simp [upd]
theorem upd_ne (f : Nat → Value) {i j : Nat} (v : Value) (hn : i ≠ j) : upd f j v i = f i := by simp [upd, hn]
theorem AV.lt {a : Addr} {ty : FieldType} {n : Nat} {f : Nat → Value} (V : AV Z h a ty n f) : a < h.size := by obtain ⟨cl, A, -⟩ := V; exact A.lt
theorem AV.ext {a : Addr} {ty : FieldType} {n : Nat} {f : Nat → Value} (V : AV Z h a ty n f) (E : Ext h h') : AV Z h' a ty n f := by obtain ⟨cl, A, r⟩ := V; exact ⟨cl, A.ext E, r⟩
theorem AV.other {a b : Addr} {ty : FieldType} {n : Nat} {f : Nat → Value} {sl : Nat} {v : Value} (V : AV Z h b ty n f) (W : Wr h h' a sl v) (q : b ≠ a) : AV Z h' b ty n f := by obtain ⟨cl, A, r⟩ := V; exact ⟨cl, A.other W q, r⟩
theorem AV.keep {a : Addr} {ty : FieldType} {n : Nat} {f : Nat → Value} {ws : List Addr} (V : AV Z h a ty n f) (K : Keep h h' ws) (q : a ∉ ws) : AV Z h' a ty n f := by obtain ⟨cl, A, r⟩ := V; exact ⟨cl, ⟨K.2.1 a cl A.1 q, A.2⟩, r⟩
theorem AV.set {a : Addr} {ty : FieldType} {n : Nat} {f : Nat → Value} {j : Nat} {v : Value} (V : AV Z h a ty n f) (W : Wr h h' a j v) (hj : j < n) : AV Z h' a ty n (upd f j v) := by
  obtain ⟨cl, A, S, H⟩ := V
  refine ⟨cl.setSlot j v, A.same W, by rw [sz_set]; exact S, fun i hi => ?_⟩
  by_cases q : i = j
  · subst q; simp [upd, Cell.setSlot, S, hj]
  · rw [upd_ne f v q, ← H i hi]; exact Array.getElem?_setIfInBounds_ne (Ne.symm q)
def updJ (f : Nat → Int64) (n : Nat) (q : Int64) : Nat → Int64 := fun j => if j = n then q else f j
def updI (f : Nat → Int32) (n : Nat) (q : Int32) : Nat → Int32 := fun j => if j = n then q else f j
theorem AV.setJ {a : Addr} {ty : FieldType} {n : Nat} {f : Nat → Int64} {j : Nat} {q : Int64} (V : AV Z h a ty n (fun i => .long (f i))) (W : Wr h h' a j (.long q)) (hj : j < n) : AV Z h' a ty n (fun i => .long (updJ f j q i)) := by
  have r := V.set W hj
  have e : upd (fun i => .long (f i)) j (.long q) = fun i => .long (updJ f j q i) := by funext i; unfold upd updJ; split <;> rfl
  rw [← e]; exact r
theorem AV.setI {a : Addr} {ty : FieldType} {n : Nat} {f : Nat → Int32} {j : Nat} {q : Int32} (V : AV Z h a ty n (fun i => .int (f i))) (W : Wr h h' a j (.int q)) (hj : j < n) : AV Z h' a ty n (fun i => .int (updI f j q i)) := by
  have r := V.set W hj
  have e : upd (fun i => .int (f i)) j (.int q) = fun i => .int (updI f j q i) := by funext i; unfold upd updI; split <;> rfl
  rw [← e]; exact r
def updD (f : Nat → UInt64) (n : Nat) (q : UInt64) : Nat → UInt64 := fun j => if j = n then q else f j
theorem AV.setD {a : Addr} {ty : FieldType} {n : Nat} {f : Nat → UInt64} {j : Nat} {q : UInt64} (V : AV Z h a ty n (fun i => .double (f i))) (W : Wr h h' a j (.double q)) (hj : j < n) : AV Z h' a ty n (fun i => .double (updD f j q i)) := by
  have r := V.set W hj
  have e : upd (fun i => .double (f i)) j (.double q) = fun i => .double (updD f j q i) := by funext i; unfold upd updD; split <;> rfl
  rw [← e]; exact r
theorem AV.congr {a : Addr} {ty : FieldType} {n : Nat} {f g : Nat → Value} (V : AV Z h a ty n f) (q : ∀ j, j < n → f j = g j) : AV Z h a ty n g := by
  obtain ⟨cl, A, S, H⟩ := V; exact ⟨cl, A, S, fun j hj => by rw [← q j hj]; exact H j hj⟩
theorem AV.new {a : Addr} {ty : FieldType} {cA : ClassId} {z : Int32} (A : Arr Z h a (newA cA ty z) ty) : AV Z h a ty z.toNatClampNeg (fun _ => defaultValue ty) :=
  ⟨_, A, sz_new _ _ _, fun j hj => by simp [newA, hj]⟩
theorem Inb.not {j : Int32} {n : Nat} (i : Inb j n) {k : Nat} (hk : k = n) : ¬ (j < 0 ∨ k ≤ j.toNatClampNeg) := fun q => q.elim i.1 (fun r => absurd i.2 (by omega))
theorem Go.newP {aty : ArrayType} {n : Int32} (X : Stand p l e R s m args below meth c T locs cells slots) (hx : p.tables.exec = Jvm.exec) (hZ : Z.Warmed39 s.vm) (w : (Jvm.Cond.arrayClass (newarray.typeOf aty)).before a0 Z = true) (eT : T.heap = h) (hd : decode c.code pc = .ok (.newarray aty, 2)) (hn : ¬ n < 0) (cap : Nat) (hcap : n.toNatClampNeg ≤ cap) (hb : cap * 8 ≤ 536870912) (hc : cells + 1 ≤ R.cells) (hl : slots + cap ≤ R.slots)
    (k : ∀ T' h' a, Stand p l e R s m args below meth c T' locs (cells + 1) (slots + cap) → T'.heap = h' → Ext h h' → a = h.size → AV Z h' a (newarray.typeOf aty) n.toNatClampNeg (fun _ => defaultValue (newarray.typeOf aty)) → Go p e below s R' Q T' (mkF m (pc + 2) Ls (.ref a :: rest))) : Go p e below s R' Q T (mkF m pc Ls (.int n :: rest)) := by
  obtain ⟨T', h', cA, X', e', E, A, st⟩ := RoadKit.newP X hx hZ w eT (g := mkF m pc Ls (.int n :: rest)) rfl hd rfl hn hcap hb hc hl
  exact Go.of st (k T' h' _ X' e' E rfl (AV.new A))
theorem Go.stI {a : Addr} {n : Nat} {g : Nat → Value} {j x : Int32} (X : Stand p l e R s m args below meth c T locs cells slots) (hx : p.tables.exec = Jvm.exec) (hZ : Z.Warmed39 s.vm) (eT : T.heap = h) (V : AV Z h a .int n g) (hj : Inb j n) (hd : decode c.code pc = .ok (.iastore, 1))
    (k : ∀ T' h', Stand p l e R s m args below meth c T' (locs ++ [⟨a, j.toNatClampNeg⟩]) cells slots → T'.heap = h' → Wr h h' a j.toNatClampNeg (.int x) → Go p e below s R' Q T' (mkF m (pc + 1) Ls rest)) : Go p e below s R' Q T (mkF m pc Ls (.int x :: .int j :: .ref a :: rest)) := by
  obtain ⟨cl, A, S, H⟩ := V
  obtain ⟨T', h', X', e', W, st⟩ := RoadKit.stI X hx hZ eT A (x := x) (hj.not S) (g := mkF m pc Ls (.int x :: .int j :: .ref a :: rest)) rfl rfl hd
  exact Go.of st (k T' h' X' e' W)
theorem Go.stJ {a : Addr} {n : Nat} {g : Nat → Value} {j : Int32} {x : Int64} (X : Stand p l e R s m args below meth c T locs cells slots) (hx : p.tables.exec = Jvm.exec) (hZ : Z.Warmed39 s.vm) (eT : T.heap = h) (V : AV Z h a .long n g) (hj : Inb j n) (hd : decode c.code pc = .ok (.lastore, 1))
    (k : ∀ T' h', Stand p l e R s m args below meth c T' (locs ++ [⟨a, j.toNatClampNeg⟩]) cells slots → T'.heap = h' → Wr h h' a j.toNatClampNeg (.long x) → Go p e below s R' Q T' (mkF m (pc + 1) Ls rest)) : Go p e below s R' Q T (mkF m pc Ls (.long x :: .int j :: .ref a :: rest)) := by
  obtain ⟨cl, A, S, H⟩ := V
  obtain ⟨T', h', X', e', W, st⟩ := RoadKit.stJ X hx hZ eT A (x := x) (hj.not S) (g := mkF m pc Ls (.long x :: .int j :: .ref a :: rest)) rfl rfl hd
  exact Go.of st (k T' h' X' e' W)
theorem Go.stC {a : Addr} {n : Nat} {g : Nat → Value} {j x : Int32} (X : Stand p l e R s m args below meth c T locs cells slots) (hx : p.tables.exec = Jvm.exec) (hZ : Z.Warmed39 s.vm) (eT : T.heap = h) (V : AV Z h a .char n g) (hj : Inb j n) (hd : decode c.code pc = .ok (.castore, 1))
    (k : ∀ T' h', Stand p l e R s m args below meth c T' (locs ++ [⟨a, j.toNatClampNeg⟩]) cells slots → T'.heap = h' → Wr h h' a j.toNatClampNeg (.int (nar .char x)) → Go p e below s R' Q T' (mkF m (pc + 1) Ls rest)) : Go p e below s R' Q T (mkF m pc Ls (.int x :: .int j :: .ref a :: rest)) := by
  obtain ⟨cl, A, S, H⟩ := V
  obtain ⟨T', h', X', e', W, st⟩ := RoadKit.stC X hx hZ eT A (x := x) (hj.not S) (g := mkF m pc Ls (.int x :: .int j :: .ref a :: rest)) rfl rfl hd
  exact Go.of st (k T' h' X' e' W)
theorem Go.stB {a : Addr} {n : Nat} {g : Nat → Value} {j x : Int32} (X : Stand p l e R s m args below meth c T locs cells slots) (hx : p.tables.exec = Jvm.exec) (hZ : Z.Warmed39 s.vm) (eT : T.heap = h) (V : AV Z h a .byte n g) (hj : Inb j n) (hd : decode c.code pc = .ok (.bastore, 1))
    (k : ∀ T' h', Stand p l e R s m args below meth c T' (locs ++ [⟨a, j.toNatClampNeg⟩]) cells slots → T'.heap = h' → Wr h h' a j.toNatClampNeg (.int (nar .byte x)) → Go p e below s R' Q T' (mkF m (pc + 1) Ls rest)) : Go p e below s R' Q T (mkF m pc Ls (.int x :: .int j :: .ref a :: rest)) := by
  obtain ⟨cl, A, S, H⟩ := V
  obtain ⟨T', h', X', e', W, st⟩ := RoadKit.stB X hx hZ eT A (x := x) (hj.not S) (g := mkF m pc Ls (.int x :: .int j :: .ref a :: rest)) rfl rfl hd
  exact Go.of st (k T' h' X' e' W)
theorem Go.stD {a : Addr} {n : Nat} {g : Nat → Value} {j : Int32} {x : UInt64} (X : Stand p l e R s m args below meth c T locs cells slots) (hx : p.tables.exec = Jvm.exec) (hZ : Z.Warmed39 s.vm) (eT : T.heap = h) (V : AV Z h a .double n g) (hj : Inb j n) (hd : decode c.code pc = .ok (.dastore, 1))
    (k : ∀ T' h', Stand p l e R s m args below meth c T' (locs ++ [⟨a, j.toNatClampNeg⟩]) cells slots → T'.heap = h' → Wr h h' a j.toNatClampNeg (.double x) → Go p e below s R' Q T' (mkF m (pc + 1) Ls rest)) : Go p e below s R' Q T (mkF m pc Ls (.double x :: .int j :: .ref a :: rest)) := by
  obtain ⟨cl, A, S, H⟩ := V
  obtain ⟨T', h', X', e', W, st⟩ := RoadKit.stD X hx hZ eT A (x := x) (hj.not S) (g := mkF m pc Ls (.double x :: .int j :: .ref a :: rest)) rfl rfl hd
  exact Go.of st (k T' h' X' e' W)
theorem Go.ldD {a : Addr} {n : Nat} {g : Nat → Value} {j : Int32} (v : Value) (X : Stand p l e R s m args below meth c T locs cells slots) (hx : p.tables.exec = Jvm.exec) (hZ : Z.Warmed39 s.vm) (eT : T.heap = h) (V : AV Z h a .double n g) (hj : Inb j n) (hv : g j.toNatClampNeg = v) (hd : decode c.code pc = .ok (.daload, 1))
    (k : Go p e below s R' Q T (mkF m (pc + 1) Ls (v :: rest))) : Go p e below s R' Q T (mkF m pc Ls (.int j :: .ref a :: rest)) := by
  obtain ⟨cl, A, S, H⟩ := V
  exact Go.of (X.daload hx (by rw [eT]; exact A.1) (State.isArrayOf_alike hZ.alike A.2.1) A.2.2 (hj.not S) ((H _ hj.2).trans (by rw [hv])) (g := mkF m pc Ls (.int j :: .ref a :: rest)) rfl rfl hd) k
theorem Go.ldI {a : Addr} {n : Nat} {g : Nat → Value} {j : Int32} (v : Value) (X : Stand p l e R s m args below meth c T locs cells slots) (hx : p.tables.exec = Jvm.exec) (hZ : Z.Warmed39 s.vm) (eT : T.heap = h) (V : AV Z h a .int n g) (hj : Inb j n) (hv : g j.toNatClampNeg = v) (hd : decode c.code pc = .ok (.iaload, 1))
    (k : Go p e below s R' Q T (mkF m (pc + 1) Ls (v :: rest))) : Go p e below s R' Q T (mkF m pc Ls (.int j :: .ref a :: rest)) := by
  obtain ⟨cl, A, S, H⟩ := V
  exact Go.of (X.iaload hx (by rw [eT]; exact A.1) (State.isArrayOf_alike hZ.alike A.2.1) A.2.2 (hj.not S) ((H _ hj.2).trans (by rw [hv])) (g := mkF m pc Ls (.int j :: .ref a :: rest)) rfl rfl hd) k
theorem Go.ldJ {a : Addr} {n : Nat} {g : Nat → Value} {j : Int32} (v : Value) (X : Stand p l e R s m args below meth c T locs cells slots) (hx : p.tables.exec = Jvm.exec) (hZ : Z.Warmed39 s.vm) (eT : T.heap = h) (V : AV Z h a .long n g) (hj : Inb j n) (hv : g j.toNatClampNeg = v) (hd : decode c.code pc = .ok (.laload, 1))
    (k : Go p e below s R' Q T (mkF m (pc + 1) Ls (v :: rest))) : Go p e below s R' Q T (mkF m pc Ls (.int j :: .ref a :: rest)) := by
  obtain ⟨cl, A, S, H⟩ := V
  exact Go.of (X.laload hx (by rw [eT]; exact A.1) (State.isArrayOf_alike hZ.alike A.2.1) A.2.2 (hj.not S) ((H _ hj.2).trans (by rw [hv])) (g := mkF m pc Ls (.int j :: .ref a :: rest)) rfl rfl hd) k
theorem Go.ldC {a : Addr} {n : Nat} {g : Nat → Value} {j : Int32} (v : Value) (X : Stand p l e R s m args below meth c T locs cells slots) (hx : p.tables.exec = Jvm.exec) (hZ : Z.Warmed39 s.vm) (eT : T.heap = h) (V : AV Z h a .char n g) (hj : Inb j n) (hv : g j.toNatClampNeg = v) (hd : decode c.code pc = .ok (.caload, 1))
    (k : Go p e below s R' Q T (mkF m (pc + 1) Ls (v :: rest))) : Go p e below s R' Q T (mkF m pc Ls (.int j :: .ref a :: rest)) := by
  obtain ⟨cl, A, S, H⟩ := V
  exact Go.of (X.caload hx (by rw [eT]; exact A.1) (State.isArrayOf_alike hZ.alike A.2.1) A.2.2 (hj.not S) ((H _ hj.2).trans (by rw [hv])) (g := mkF m pc Ls (.int j :: .ref a :: rest)) rfl rfl hd) k
theorem Go.ldB {a : Addr} {n : Nat} {g : Nat → Value} {j : Int32} (v : Value) (X : Stand p l e R s m args below meth c T locs cells slots) (hx : p.tables.exec = Jvm.exec) (hZ : Z.Warmed39 s.vm) (eT : T.heap = h) (V : AV Z h a .byte n g) (hj : Inb j n) (hv : g j.toNatClampNeg = v) (hd : decode c.code pc = .ok (.baload, 1))
    (k : Go p e below s R' Q T (mkF m (pc + 1) Ls (v :: rest))) : Go p e below s R' Q T (mkF m pc Ls (.int j :: .ref a :: rest)) := by
  obtain ⟨cl, A, S, H⟩ := V
  exact Go.of (X.baloadBytes hx (by rw [eT]; exact A.1) (State.isArrayOf_alike hZ.alike A.2.1) A.2.2 (hj.not S) ((H _ hj.2).trans (by rw [hv])) (g := mkF m pc Ls (.int j :: .ref a :: rest)) rfl rfl hd) k
theorem Go.alen {a : Addr} {n : Nat} {ty : FieldType} {g : Nat → Value} (z : Int32) (X : Stand p l e R s m args below meth c T locs cells slots) (hx : p.tables.exec = Jvm.exec) (hZ : Z.Warmed39 s.vm) (eT : T.heap = h) (V : AV Z h a ty n g) (hz : n.toInt32 = z) (hd : decode c.code pc = .ok (.arraylength, 1))
    (k : Go p e below s R' Q T (mkF m (pc + 1) Ls (.int z :: rest))) : Go p e below s R' Q T (mkF m pc Ls (.ref a :: rest)) := by
  obtain ⟨cl, A, S, H⟩ := V
  refine Go.of (X.arraylength hx (by rw [eT]; exact A.1) (State.isArrayOf_alike hZ.alike A.2.1) (g := mkF m pc Ls (.ref a :: rest)) rfl rfl hd) ?_
  rw [S, hz]; exact k
/-! calls -/
theorem Go.initO {own : String} {idx : Nat} {a : Addr} (X : Stand p l e R s m args below meth c T locs cells slots) (hx : p.tables.exec = Jvm.exec) (hZ : Z.Warmed39 s.vm) (hown : s.vm.findClass own = some m.cls) (w1 : (Jvm.Cond.methodLink own idx Lib.objectInit).before a0 Z = true) (w2 : (Jvm.Cond.instanceMethod Lib.objectInit).before a0 Z = true) (w3 : (Jvm.Cond.code Lib.objectInit ⟨#[0xb1]⟩ 1 none).before a0 Z = true) (eT : T.heap = h)
    (hsz : Ls.size = c.maxLocals) (hd : decode c.code pc = .ok (.invokespecial idx, 3)) (hf : 1 ≤ R.frames) (W : Nat) (hW : (rest.map fun v => v.category).sum ≤ W) (hl : W + 12 ≤ R.locals) (k : ∀ T', Stand p l e R s m args below meth c T' locs cells slots → T'.heap = h → Go p e below s R' Q T' (mkF m (pc + 3) Ls rest)) : Go p e below s R' Q T (mkF m pc Ls (.ref a :: rest)) := by
  obtain ⟨T', X', e', st⟩ := RoadKit.initO X hx hZ hown w1 w2 w3 eT (g := mkF m pc Ls (.ref a :: rest)) rfl hsz rfl hd hf (W := W) (by show 2 * 0 + _ ≤ _; omega) hl
  exact Go.of st (k T' X' e')
theorem Go.static {own : String} {index : Nat} {y : MethodName} {bytes : ByteArray} {maxL : Nat} {ret : Option FieldType} {rm : Room} {as : Array Value} {Qc : Option Value → Heap → List Loc → Prop} (X : Stand p l e R s m args below meth c T locs cells slots) (hx : p.tables.exec = Jvm.exec) (hZ : Z.Warmed39 s.vm) (hown : s.vm.findClass own = some m.cls)
    (w1 : (Jvm.Cond.methodLink own index y).before a0 Z = true) (w2 : (Jvm.Cond.static y).before a0 Z = true) (w3 : (Jvm.Cond.initialized y.cls).before a0 Z = true) (w4 : (Jvm.Cond.code y bytes maxL ret).before a0 Z = true) (hy : y.cls ≠ "java/lang/invoke/MethodHandle" ∧ y.cls ≠ "java/lang/invoke/VarHandle")
    (M : Met l Z y bytes maxL ret [] rm as h Qc) (eT : T.heap = h) (W : Nat) (hf : rm.frames + 1 ≤ R.frames) (hl : W + (maxL + 11) + rm.locals ≤ R.locals) (hc : cells + rm.cells ≤ R.cells) (hs : slots + rm.slots ≤ R.slots) (hsz : Ls.size = c.maxLocals) {st argsL : List Value} (rest : List Value) (hlen : ∀ sig, parseMethodDescriptor y.desc = some sig → argsL.length = sig.parameters.length)
    (has : argsL.toArray = as) (hst : st = argsL.reverse ++ rest) (hW : (rest.map fun v => v.category).sum ≤ W) (hd : decode c.code pc = .ok (.invokestatic index, 3))
    (k : ∀ v T' L', Stand p l e R s m args below meth c T' (locs ++ L') (cells + rm.cells) (slots + rm.slots) → Qc v T'.heap L' → Go p e below s R' Q T' (mkF m (pc + 3) Ls (v.toList ++ rest))) : Go p e below s R' Q T (mkF m pc Ls st) := by
  obtain ⟨v, _, ⟨T1, L1, k1, n1⟩, -, X1, ⟨Lc, hQ, l1, y1, z1⟩, stp⟩ := Jvm.LawKit.callS X hx (y := y) hown (mvT hZ w1) (mvT hZ w2) (mvT hZ w3) (mvT hZ w4) hy (backOf (W := W) M hZ w4 w3 hf hl) (g := mkF m pc Ls st) rfl hsz (argsL := argsL) (rest := rest) hlen hst (by show 2 * 0 + _ ≤ _; omega) hd (fun _ _ => ⟨has, eT, hc, hs⟩)
  dsimp only [Pt.U, Pt.locs, Pt.cells, Pt.slots] at X1 l1 y1 z1 stp hQ
  subst l1 y1 z1
  exact Go.of stp (k v T1 Lc X1 hQ)
theorem Go.special {own : String} {index : Nat} {y : MethodName} {bytes : ByteArray} {maxL : Nat} {rm : Room} {as : Array Value} {a : Addr} {Qc : Option Value → Heap → List Loc → Prop} (X : Stand p l e R s m args below meth c T locs cells slots) (hx : p.tables.exec = Jvm.exec) (hZ : Z.Warmed39 s.vm) (hown : s.vm.findClass own = some m.cls) (hy1 : y.name = "<init>")
    (w1 : (Jvm.Cond.methodLink own index y).before a0 Z = true) (w2 : (Jvm.Cond.instanceMethod y).before a0 Z = true) (w3 : (Jvm.Cond.initialized y.cls).before a0 Z = true) (w4 : (Jvm.Cond.code y bytes maxL none).before a0 Z = true) (hy : y.cls ≠ "java/lang/invoke/MethodHandle" ∧ y.cls ≠ "java/lang/invoke/VarHandle")
    (M : Met l Z y bytes maxL none [] rm as h Qc) (eT : T.heap = h) (W : Nat) (hf : rm.frames + 1 ≤ R.frames) (hl : W + (maxL + 11) + rm.locals ≤ R.locals) (hc : cells + rm.cells ≤ R.cells) (hs : slots + rm.slots ≤ R.slots) (hsz : Ls.size = c.maxLocals) {st argsL : List Value} (rest : List Value) (hlen : ∀ sig, parseMethodDescriptor y.desc = some sig → argsL.length = sig.parameters.length)
    (has : (.ref a :: argsL : List Value).toArray = as) (hst : st = argsL.reverse ++ .ref a :: rest) (hW : (rest.map fun v => v.category).sum ≤ W) (hd : decode c.code pc = .ok (.invokespecial index, 3))
    (k : ∀ v T' L', Stand p l e R s m args below meth c T' (locs ++ L') (cells + rm.cells) (slots + rm.slots) → Qc v T'.heap L' → Go p e below s R' Q T' (mkF m (pc + 3) Ls (v.toList ++ rest))) : Go p e below s R' Q T (mkF m pc Ls st) := by
  obtain ⟨v, _, ⟨T1, L1, k1, n1⟩, -, X1, ⟨Lc, hQ, l1, y1, z1⟩, stp⟩ := X.specialBack hx (y := y) hy1 hown (mvT hZ w1) (mvT hZ w2) (mvT hZ w4) hy (backOf (W := W) M hZ w4 w3 hf hl) (g := mkF m pc Ls st) rfl hsz (Steps.refl _) (a := a) (argsL := argsL) (rest := rest) hlen hst (by show 2 * 0 + _ ≤ _; omega) hd (fun _ _ => ⟨has, eT, hc, hs⟩)
  dsimp only [Pt.U, Pt.locs, Pt.cells, Pt.slots] at X1 l1 y1 z1 stp hQ
  subst l1 y1 z1
  exact Go.of (fun _ q => stp.trans q) (k v T1 Lc X1 hQ)
theorem Go.virtual {own C : String} {index : Nat} {y z : MethodName} {bytes : ByteArray} {maxL : Nat} {ret : Option FieldType} {rm : Room} {as : Array Value} {a : Addr} {Qc : Option Value → Heap → List Loc → Prop} (X : Stand p l e R s m args below meth c T locs cells slots) (hx : p.tables.exec = Jvm.exec) (hZ : Z.Warmed39 s.vm) (hown : s.vm.findClass own = some m.cls)
    (w1 : (Jvm.Cond.methodLink own index y).before a0 Z = true) (w2 : (Jvm.Cond.declares y).before a0 Z = true) (nf : NotFace s y) (ws : (Jvm.Cond.selects C y z).before a0 Z = true) (wi : (Jvm.Cond.instanceMethod z).before a0 Z = true) (w3 : (Jvm.Cond.initialized z.cls).before a0 Z = true) (w4 : (Jvm.Cond.code z bytes maxL ret).before a0 Z = true) (hy : y.cls ≠ "java/lang/invoke/MethodHandle" ∧ y.cls ≠ "java/lang/invoke/VarHandle")
    (M : Met l Z z bytes maxL ret [] rm as h Qc) (eT : T.heap = h) (E : Exa Z h a C) (W : Nat) (hf : rm.frames + 1 ≤ R.frames) (hl : W + (maxL + 11) + rm.locals ≤ R.locals) (hc : cells + rm.cells ≤ R.cells) (hs : slots + rm.slots ≤ R.slots) (hsz : Ls.size = c.maxLocals) {st argsL : List Value} (rest : List Value) (hlen : ∀ sig, parseMethodDescriptor y.desc = some sig → argsL.length = sig.parameters.length)
    (has : (.ref a :: argsL : List Value).toArray = as) (hst : st = argsL.reverse ++ .ref a :: rest) (hW : (rest.map fun v => v.category).sum ≤ W) (hd : decode c.code pc = .ok (.invokevirtual index, 3))
    (k : ∀ v T' L', Stand p l e R s m args below meth c T' (locs ++ L') (cells + rm.cells) (slots + rm.slots) → Qc v T'.heap L' → Go p e below s R' Q T' (mkF m (pc + 3) Ls (v.toList ++ rest))) : Go p e below s R' Q T (mkF m pc Ls st) := by
  obtain ⟨cq, kq, qa, qb, qc⟩ := isOf hZ eT E
  obtain ⟨v, _, ⟨T1, L1, k1, n1⟩, -, X1, ⟨Lc, hQ, l1, y1, z1⟩, stp⟩ := X.virtualBack hx (y := y) (z := z) hown (mvT hZ w1) (mvT hZ w2) nf (mvT hZ ws) (mvT hZ wi) hy (backOf (W := W) M hZ w4 w3 hf hl) qa qc (g := mkF m pc Ls st) rfl hsz (Steps.refl _) (argsL := argsL) (rest := rest) hlen hst (by show 2 * 0 + _ ≤ _; omega) hd (fun _ _ => ⟨has, eT, hc, hs⟩)
  dsimp only [Pt.U, Pt.locs, Pt.cells, Pt.slots] at X1 l1 y1 z1 stp hQ
  subst l1 y1 z1
  exact Go.of (fun _ q => stp.trans q) (k v T1 Lc X1 hQ)
theorem Go.priv {own C : String} {index : Nat} {y : MethodName} {bytes : ByteArray} {maxL : Nat} {ret : Option FieldType} {rm : Room} {as : Array Value} {a : Addr} {Qc : Option Value → Heap → List Loc → Prop} (X : Stand p l e R s m args below meth c T locs cells slots) (hx : p.tables.exec = Jvm.exec) (hZ : Z.Warmed39 s.vm) (hown : s.vm.findClass own = some m.cls)
    (w1 : (Jvm.Cond.methodLink own index y).before a0 Z = true) (wi : (Jvm.Cond.instanceMethod y).before a0 Z = true) {kk : Nat} (wk : (Jvm.Cond.instantiable y.cls kk).before a0 Z = true) (wp : (Jvm.Cond.privateMethod y).before a0 Z = true) (w3 : (Jvm.Cond.initialized y.cls).before a0 Z = true) (w4 : (Jvm.Cond.code y bytes maxL ret).before a0 Z = true) (hy : y.cls ≠ "java/lang/invoke/MethodHandle" ∧ y.cls ≠ "java/lang/invoke/VarHandle")
    (M : Met l Z y bytes maxL ret [] rm as h Qc) (eT : T.heap = h) (E : Exa Z h a C) (W : Nat) (hf : rm.frames + 1 ≤ R.frames) (hl : W + (maxL + 11) + rm.locals ≤ R.locals) (hc : cells + rm.cells ≤ R.cells) (hs : slots + rm.slots ≤ R.slots) (hsz : Ls.size = c.maxLocals) {st argsL : List Value} (rest : List Value) (hlen : ∀ sig, parseMethodDescriptor y.desc = some sig → argsL.length = sig.parameters.length)
    (has : (.ref a :: argsL : List Value).toArray = as) (hst : st = argsL.reverse ++ .ref a :: rest) (hW : (rest.map fun v => v.category).sum ≤ W) (hd : decode c.code pc = .ok (.invokevirtual index, 3))
    (k : ∀ v T' L', Stand p l e R s m args below meth c T' (locs ++ L') (cells + rm.cells) (slots + rm.slots) → Qc v T'.heap L' → Go p e below s R' Q T' (mkF m (pc + 3) Ls (v.toList ++ rest))) : Go p e below s R' Q T (mkF m pc Ls st) := by
  obtain ⟨cq, qa, qb⟩ := E.cell
  have hp : s.PrivateAt y := Cond.privateMethod_at (mvP hZ wp (args := #[]))
  obtain ⟨ci, ki, i1, i2, -, i4, -⟩ := Cond.instantiable_spec (show (Jvm.Cond.instantiable y.cls kk).before args s = true from mvT hZ wk)
  have hsel : (Jvm.Cond.selects y.cls y y).before args s = true := selects_self_of_private i1 i2 (by revert i4; cases ki.isInterface <;> simp) hp (mvT hZ wi) hy
  obtain ⟨v, _, ⟨T1, L1, k1, n1⟩, -, X1, ⟨Lc, hQ, l1, y1, z1⟩, stp⟩ := X.privateBack hx (y := y) hown (mvT hZ w1) (mvT hZ wi) hsel hp (mvT hZ w4) hy (backOf (W := W) M hZ w4 w3 hf hl) (g := mkF m pc Ls st) rfl hsz (Steps.refl _) (a := a) (by rw [eT]; exact qa) qb (argsL := argsL) (rest := rest) hlen hst (by show 2 * 0 + _ ≤ _; omega) hd (fun _ _ => ⟨has, eT, hc, hs⟩)
  dsimp only [Pt.U, Pt.locs, Pt.cells, Pt.slots] at X1 l1 y1 z1 stp hQ
  subst l1 y1 z1
  exact Go.of (fun _ q => stp.trans q) (k v T1 Lc X1 hQ)
/-! conditions -/
theorem cZlt {x y : Int64} (q : x < y) : ifCond.holds .lt (lcmpW x y) = true ∧ ifCond.holds .ge (lcmpW x y) = false := ⟨(if0 _ _).trans (tlt ((lw_lt x y).mpr q)).1, (if0 _ _).trans (tlt ((lw_lt x y).mpr q)).2.1⟩
theorem cFlt {x y : Int64} (q : ¬ x < y) : ifCond.holds .lt (lcmpW x y) = false ∧ ifCond.holds .ge (lcmpW x y) = true := ⟨(if0 _ _).trans (flt (fun r => q ((lw_lt x y).mp r))).1, (if0 _ _).trans (flt (fun r => q ((lw_lt x y).mp r))).2.1⟩
theorem cZgt {x y : Int64} (q : y < x) : ifCond.holds .gt (lcmpW x y) = true ∧ ifCond.holds .le (lcmpW x y) = false := ⟨(if0 _ _).trans (tlt ((lw_gt x y).mpr q)).2.2.1, (if0 _ _).trans (tlt ((lw_gt x y).mpr q)).2.2.2⟩
theorem cFgt {x y : Int64} (q : ¬ y < x) : ifCond.holds .gt (lcmpW x y) = false ∧ ifCond.holds .le (lcmpW x y) = true := ⟨(if0 _ _).trans (flt (fun r => q ((lw_gt x y).mp r))).2.2.1, (if0 _ _).trans (flt (fun r => q ((lw_gt x y).mp r))).2.2.2⟩
theorem cZeq {x y : Int64} (q : x = y) : ifCond.holds .eq (lcmpW x y) = true ∧ ifCond.holds .ne (lcmpW x y) = false := ⟨(if0 _ _).trans (teq ((lw_eq x y).mpr q)).1, (if0 _ _).trans (teq ((lw_eq x y).mpr q)).2⟩
theorem cFeq {x y : Int64} (q : ¬ x = y) : ifCond.holds .eq (lcmpW x y) = false ∧ ifCond.holds .ne (lcmpW x y) = true := ⟨(if0 _ _).trans (feq (fun r => q ((lw_eq x y).mp r))).1, (if0 _ _).trans (feq (fun r => q ((lw_eq x y).mp r))).2⟩
end Kit
theorem own_ni0 {a : Addr}  : a ∉ ([] : List Addr) := by simp [*]
theorem own_all0 {P : Addr → Prop} {b0 : Addr}  : ∀ x ∈ ([] : List Addr), P x := by intro x hx; cases hx
theorem own_ni1 {a b0 : Addr} (q0 : a ≠ b0) : a ∉ ([b0] : List Addr) := by simp [*]
theorem own_all1 {P : Addr → Prop} {b0 : Addr} (q0 : P b0) : ∀ x ∈ ([b0] : List Addr), P x := by intro x hx; simp only [List.mem_cons, List.not_mem_nil, or_false] at hx; subst hx; assumption
theorem own_ni2 {a b0 b1 : Addr} (q0 : a ≠ b0) (q1 : a ≠ b1) : a ∉ ([b0, b1] : List Addr) := by simp [*]
theorem own_all2 {P : Addr → Prop} {b0 b1 : Addr} (q0 : P b0) (q1 : P b1) : ∀ x ∈ ([b0, b1] : List Addr), P x := by intro x hx; simp only [List.mem_cons, List.not_mem_nil, or_false] at hx; rcases hx with rfl | rfl <;> assumption
theorem own_ni3 {a b0 b1 b2 : Addr} (q0 : a ≠ b0) (q1 : a ≠ b1) (q2 : a ≠ b2) : a ∉ ([b0, b1, b2] : List Addr) := by simp [*]
theorem own_all3 {P : Addr → Prop} {b0 b1 b2 : Addr} (q0 : P b0) (q1 : P b1) (q2 : P b2) : ∀ x ∈ ([b0, b1, b2] : List Addr), P x := by intro x hx; simp only [List.mem_cons, List.not_mem_nil, or_false] at hx; rcases hx with rfl | rfl | rfl <;> assumption
theorem own_ni4 {a b0 b1 b2 b3 : Addr} (q0 : a ≠ b0) (q1 : a ≠ b1) (q2 : a ≠ b2) (q3 : a ≠ b3) : a ∉ ([b0, b1, b2, b3] : List Addr) := by simp [*]
theorem own_all4 {P : Addr → Prop} {b0 b1 b2 b3 : Addr} (q0 : P b0) (q1 : P b1) (q2 : P b2) (q3 : P b3) : ∀ x ∈ ([b0, b1, b2, b3] : List Addr), P x := by intro x hx; simp only [List.mem_cons, List.not_mem_nil, or_false] at hx; rcases hx with rfl | rfl | rfl | rfl <;> assumption
theorem own_ni5 {a b0 b1 b2 b3 b4 : Addr} (q0 : a ≠ b0) (q1 : a ≠ b1) (q2 : a ≠ b2) (q3 : a ≠ b3) (q4 : a ≠ b4) : a ∉ ([b0, b1, b2, b3, b4] : List Addr) := by simp [*]
theorem own_all5 {P : Addr → Prop} {b0 b1 b2 b3 b4 : Addr} (q0 : P b0) (q1 : P b1) (q2 : P b2) (q3 : P b3) (q4 : P b4) : ∀ x ∈ ([b0, b1, b2, b3, b4] : List Addr), P x := by intro x hx; simp only [List.mem_cons, List.not_mem_nil, or_false] at hx; rcases hx with rfl | rfl | rfl | rfl | rfl <;> assumption
theorem own_ni6 {a b0 b1 b2 b3 b4 b5 : Addr} (q0 : a ≠ b0) (q1 : a ≠ b1) (q2 : a ≠ b2) (q3 : a ≠ b3) (q4 : a ≠ b4) (q5 : a ≠ b5) : a ∉ ([b0, b1, b2, b3, b4, b5] : List Addr) := by simp [*]
theorem own_all6 {P : Addr → Prop} {b0 b1 b2 b3 b4 b5 : Addr} (q0 : P b0) (q1 : P b1) (q2 : P b2) (q3 : P b3) (q4 : P b4) (q5 : P b5) : ∀ x ∈ ([b0, b1, b2, b3, b4, b5] : List Addr), P x := by intro x hx; simp only [List.mem_cons, List.not_mem_nil, or_false] at hx; rcases hx with rfl | rfl | rfl | rfl | rfl | rfl <;> assumption
theorem own_ni7 {a b0 b1 b2 b3 b4 b5 b6 : Addr} (q0 : a ≠ b0) (q1 : a ≠ b1) (q2 : a ≠ b2) (q3 : a ≠ b3) (q4 : a ≠ b4) (q5 : a ≠ b5) (q6 : a ≠ b6) : a ∉ ([b0, b1, b2, b3, b4, b5, b6] : List Addr) := by simp [*]
theorem own_all7 {P : Addr → Prop} {b0 b1 b2 b3 b4 b5 b6 : Addr} (q0 : P b0) (q1 : P b1) (q2 : P b2) (q3 : P b3) (q4 : P b4) (q5 : P b5) (q6 : P b6) : ∀ x ∈ ([b0, b1, b2, b3, b4, b5, b6] : List Addr), P x := by intro x hx; simp only [List.mem_cons, List.not_mem_nil, or_false] at hx; rcases hx with rfl | rfl | rfl | rfl | rfl | rfl | rfl <;> assumption

open Jvm.Kit
theorem own_toInt {i : Nat} (h : i < 2 ^ 31) : (Int32.ofNat i).toInt = i := Int32.toInt_ofNat_small (by omega)
theorem own_succ (i : Nat) : Int32.ofNat i + (1 : Int32) = Int32.ofNat (i + 1) := Int32.ofNat_succ i
theorem own_ltn {i n : Nat} (hi : i < 2 ^ 31) (hn : n < 2 ^ 31) (h : Int32.ofNat i < Int32.ofNat n) : i < n := by
  rw [Int32.lt_iff_toInt_lt, own_toInt hi, own_toInt hn] at h; omega
theorem own_inb {i n : Nat} (hi : i < n) (hn : n < 2 ^ 31) : Inb (Int32.ofNat i) n := by
  have k0 : (0 : Int32).toInt = 0 := by decide
  simp only [Inb, Int32.lt_iff_toInt_lt, Int32.toNatClampNeg, own_toInt (show i < 2 ^ 31 by omega), k0]
  omega
theorem own_mask12 (x : Int32) : Inb (x &&& (4095 : Int32)) 4096 := by
  have m0 : (x &&& 4095).toInt = x.toInt % 2 ^ 12 := i32_mask _ _ (by decide) (by decide)
  have k0 : (0 : Int32).toInt = 0 := by decide
  simp only [Inb, Int32.lt_iff_toInt_lt, Int32.toNatClampNeg]
  omega
theorem own_mask6 (x : Int32) : Inb (x &&& (63 : Int32)) 4096 := by
  have m0 : (x &&& 63).toInt = x.toInt % 2 ^ 6 := i32_mask _ _ (by decide) (by decide)
  have k0 : (0 : Int32).toInt = 0 := by decide
  simp only [Inb, Int32.lt_iff_toInt_lt, Int32.toNatClampNeg]
  omega
theorem own_inj {x y : Int32} {n : Nat} (hx : Inb x n) (hy : Inb y n) : x.toNatClampNeg = y.toNatClampNeg ↔ x = y := by
  constructor
  · intro q
    have k0 : (0 : Int32).toInt = 0 := by decide
    have h1 := hx.1; have h2 := hy.1
    simp only [Int32.lt_iff_toInt_lt, Int32.toNatClampNeg] at h1 h2 q
    exact Int32.toInt_inj.mp (by omega)
  · intro q; rw [q]
def own_H (H : Nat → Int32) (k z : Int32) : Nat → Int32 := fun j => if j = k.toNatClampNeg then H j + z else H j
def own_kc (c k z : Int32) : Int32 := if k < 64 then c + z else c
def own_kg (g k z : Int32) : Int32 := if k < 64 then g else g + z
def own_H0 : Nat → Int32 := fun _ => 0
theorem own_subneg (x : Int32) : x - 1 = x + (-1) := by rw [Int32.sub_eq_add_neg]

def own_ind (p : Int32) : Int32 := if p = 0 then 0 else 1
def own_exp (k a b tw : Int32) : Int32 := own_ind (if k = a then 1 else 0) + own_ind (if k = b then 1 else 0) - own_ind (if tw = 0 then 0 else if k = b then 1 else 0)
theorem own_h4 {a b k : Int32} (ia : Inb a 4096) (ib : Inb b 4096) (ik : Inb k 4096) : (own_H (own_H (own_H (own_H own_H0 a 1) a 1) b 1) a (-1)) k.toNatClampNeg = own_exp k a b 0 := by
  simp only [own_H, own_H0, own_exp, own_inj ik ia, own_inj ik ib]
  by_cases h1 : k = a <;> by_cases h2 : k = b <;> simp only [h1, h2] <;> (try subst h1) <;> (try subst h2) <;> simp [own_ind, *] <;> decide
theorem own_h5 {a b k : Int32} (ia : Inb a 4096) (ib : Inb b 4096) (ik : Inb k 4096) : (own_H (own_H (own_H (own_H (own_H own_H0 a 1) a 1) b 1) a (-1)) b (-1)) k.toNatClampNeg = own_exp k a b 1 := by
  simp only [own_H, own_H0, own_exp, own_inj ik ia, own_inj ik ib]
  by_cases h1 : k = a <;> by_cases h2 : k = b <;> simp only [h1, h2] <;> (try subst h1) <;> (try subst h2) <;> simp [own_ind, *] <;> decide
theorem own_c4 (a b : Int32) : own_kc (own_kc (own_kc (own_kc 0 a 1) a 1) b 1) a (-1) = own_ind (if a < 64 then 1 else 0) + own_ind (if b < 64 then 1 else 0) - own_ind (0) := by
  simp only [own_kc, own_kg, own_ind]
  by_cases h1 : a < 64 <;> by_cases h2 : b < 64 <;> simp only [h1, h2] <;> decide
theorem own_c5 (a b : Int32) : own_kc (own_kc (own_kc (own_kc (own_kc 0 a 1) a 1) b 1) a (-1)) b (-1) = own_ind (if a < 64 then 1 else 0) + own_ind (if b < 64 then 1 else 0) - own_ind (if b < 64 then 1 else 0) := by
  simp only [own_kc, own_kg, own_ind]
  by_cases h1 : a < 64 <;> by_cases h2 : b < 64 <;> simp only [h1, h2] <;> decide
theorem own_g4 (a b : Int32) : own_kg (own_kg (own_kg (own_kg 0 a 1) a 1) b 1) a (-1) = own_ind (if a < 64 then 0 else 1) + own_ind (if b < 64 then 0 else 1) - own_ind (0) := by
  simp only [own_kc, own_kg, own_ind]
  by_cases h1 : a < 64 <;> by_cases h2 : b < 64 <;> simp only [h1, h2] <;> decide
theorem own_g5 (a b : Int32) : own_kg (own_kg (own_kg (own_kg (own_kg 0 a 1) a 1) b 1) a (-1)) b (-1) = own_ind (if a < 64 then 0 else 1) + own_ind (if b < 64 then 0 else 1) - own_ind (if b < 64 then 0 else 1) := by
  simp only [own_kc, own_kg, own_ind]
  by_cases h1 : a < 64 <;> by_cases h2 : b < 64 <;> simp only [h1, h2] <;> decide
theorem pd0 : parseMethodDescriptor "(Z)I" = some ⟨[.boolean], some .int⟩ := by decide +kernel
theorem pd1 : parseMethodDescriptor "(II)I" = some ⟨[.int, .int], some .int⟩ := by decide +kernel
theorem pd2 : parseMethodDescriptor "(JIJ)V" = some ⟨[.long, .int, .long], none⟩ := by decide +kernel
theorem pd3 : parseMethodDescriptor "([JJ)V" = some ⟨[(.array .long), .long], none⟩ := by decide +kernel
theorem pd4 : parseMethodDescriptor "(IJJ)V" = some ⟨[.int, .long, .long], none⟩ := by decide +kernel
theorem pd5 : parseMethodDescriptor "(I)V" = some ⟨[.int], none⟩ := by decide +kernel
theorem pd6 : parseMethodDescriptor "(I)I" = some ⟨[.int], some .int⟩ := by decide +kernel
theorem pd7 : parseMethodDescriptor "(IIIZ)I" = some ⟨[.int, .int, .int, .boolean], some .int⟩ := by decide +kernel
theorem pd8 : parseMethodDescriptor "()I" = some ⟨[], some .int⟩ := by decide +kernel
theorem d8_0 : decode method_2_code 0 = .ok (.iload_n 0, 1) := by decide +kernel
theorem d8_1 : decode method_2_code 1 = .ok (.ifCond .eq 7, 3) := by decide +kernel
theorem d8_4 : decode method_2_code 4 = .ok (.iconst 1, 1) := by decide +kernel
theorem d8_5 : decode method_2_code 5 = .ok (.goto 4, 3) := by decide +kernel
theorem d8_8 : decode method_2_code 8 = .ok (.iconst 0, 1) := by decide +kernel
theorem d8_9 : decode method_2_code 9 = .ok (.ireturn, 1) := by decide +kernel
theorem pn8 : plainFor (⟨"com/example/credence/credence/oauth1/OwnersLetGoPinLaw", "ind", "(Z)I"⟩ : MethodName) = true := plainFor_of_name (by first | (simp [plainName, overriddenIn]; done) | decide +kernel)
theorem ef_rmInd (m : MethodId) (x0 : Int32) : entryFrame m #[(.int x0)] 1 = mkF m 0 #[.val (.int x0)] [] := by first | (simp [entryFrame, mkF, argsToLocals, Value.category]; done) | rfl
set_option maxRecDepth 65536 in
set_option maxHeartbeats 40000000 in
theorem rmInd {l : Launch} {Z : State} {a0 : Array Value} (hw : ∀ d ∈ tables_1, d.before a0 Z = true) (p1 : Int32) (h0 : Heap) (n0 : Nat)  :
    Met l Z (⟨"com/example/credence/credence/oauth1/OwnersLetGoPinLaw", "ind", "(Z)I"⟩ : MethodName) method_2_code 1 (some .int) [] ({ frames := 0, cells := 0, slots := 0, locals := 0 } : Room) #[(.int p1)] h0 (fun v h L => v = some (.int (own_ind p1)) ∧ Fr n0 L ∧ h = h0) := by
  refine Met.mk pn8 ?_
  intro p e s m below meth c T hx hby hml hown hnm hret hlk hZ X eT
  refine Go.cast (ef_rmInd m p1) ?_
  have N := Fr.nil n0
  show Go p e below s _ _ T (mkF m 0 #[.val (.int p1)] [])
  refine Go.of (fun _ kq => XS.iloadN X.here hx rfl (hb hby d8_0) rfl kq) ?_
  show Go p e below s _ _ T (mkF m 1 #[.val (.int p1)] [(.int p1)])
  by_cases hc1 : p1 = (0 : Int32)
  · refine Go.of (fun _ kq => XS.ifYes X.here hx rfl (pc0 := 1) (pc' := 8) rfl (hb hby d8_1) rfl ((if0 _ _).trans (teq hc1).1) (by decide) (by decide) kq) ?_
    show Go p e below s _ _ T (mkF m 8 #[.val (.int p1)] [])
    refine Go.of (fun _ kq => XS.iconst X.here hx rfl (hb hby d8_8) kq) ?_
    show Go p e below s _ _ T (mkF m 9 #[.val (.int p1)] [(.int (0 : Int32))])
    refine Go.retI X hx hret hlk (hb hby d8_9) (by decide) (by decide) ?_
    try rw [eT]
    exact ⟨by rw [show own_ind p1 = (0 : Int32) by simp [own_ind, hc1]], N, rfl⟩
  · refine Go.of (fun _ kq => XS.ifNo X.here hx rfl (hb hby d8_1) rfl ((if0 _ _).trans (feq hc1).1) kq) ?_
    show Go p e below s _ _ T (mkF m 4 #[.val (.int p1)] [])
    refine Go.of (fun _ kq => XS.iconst X.here hx rfl (hb hby d8_4) kq) ?_
    show Go p e below s _ _ T (mkF m 5 #[.val (.int p1)] [(.int (1 : Int32))])
    refine Go.of (fun _ kq => XS.goto X.here hx rfl (pc0 := 5) (pc' := 9) rfl (hb hby d8_5) (by decide) (by decide) kq) ?_
    show Go p e below s _ _ T (mkF m 9 #[.val (.int p1)] [(.int (1 : Int32))])
    refine Go.retI X hx hret hlk (hb hby d8_9) (by decide) (by decide) ?_
    try rw [eT]
    exact ⟨by rw [show own_ind p1 = (1 : Int32) by simp [own_ind, hc1]], N, rfl⟩
theorem d10_0 : decode method_3_code 0 = .ok (.iload_n 0, 1) := by decide +kernel
theorem d10_1 : decode method_3_code 1 = .ok (.iload_n 1, 1) := by decide +kernel
theorem d10_2 : decode method_3_code 2 = .ok (.if_icmp .ne 7, 3) := by decide +kernel
theorem d10_5 : decode method_3_code 5 = .ok (.iconst 1, 1) := by decide +kernel
theorem d10_6 : decode method_3_code 6 = .ok (.goto 4, 3) := by decide +kernel
theorem d10_9 : decode method_3_code 9 = .ok (.iconst 0, 1) := by decide +kernel
theorem d10_10 : decode method_3_code 10 = .ok (.invokestatic 7, 3) := by decide +kernel
theorem d10_13 : decode method_3_code 13 = .ok (.iload_n 0, 1) := by decide +kernel
theorem d10_14 : decode method_3_code 14 = .ok (.iload_n 2, 1) := by decide +kernel
theorem d10_15 : decode method_3_code 15 = .ok (.if_icmp .ne 7, 3) := by decide +kernel
theorem d10_18 : decode method_3_code 18 = .ok (.iconst 1, 1) := by decide +kernel
theorem d10_19 : decode method_3_code 19 = .ok (.goto 4, 3) := by decide +kernel
theorem d10_22 : decode method_3_code 22 = .ok (.iconst 0, 1) := by decide +kernel
theorem d10_23 : decode method_3_code 23 = .ok (.invokestatic 7, 3) := by decide +kernel
theorem d10_26 : decode method_3_code 26 = .ok (.iadd, 1) := by decide +kernel
theorem d10_27 : decode method_3_code 27 = .ok (.iload_n 3, 1) := by decide +kernel
theorem d10_28 : decode method_3_code 28 = .ok (.ifCond .eq 12, 3) := by decide +kernel
theorem d10_31 : decode method_3_code 31 = .ok (.iload_n 0, 1) := by decide +kernel
theorem d10_32 : decode method_3_code 32 = .ok (.iload_n 2, 1) := by decide +kernel
theorem d10_33 : decode method_3_code 33 = .ok (.if_icmp .ne 7, 3) := by decide +kernel
theorem d10_36 : decode method_3_code 36 = .ok (.iconst 1, 1) := by decide +kernel
theorem d10_37 : decode method_3_code 37 = .ok (.goto 4, 3) := by decide +kernel
theorem d10_40 : decode method_3_code 40 = .ok (.iconst 0, 1) := by decide +kernel
theorem d10_41 : decode method_3_code 41 = .ok (.invokestatic 7, 3) := by decide +kernel
theorem d10_44 : decode method_3_code 44 = .ok (.isub, 1) := by decide +kernel
theorem d10_45 : decode method_3_code 45 = .ok (.ireturn, 1) := by decide +kernel
theorem pn10 : plainFor (⟨"com/example/credence/credence/oauth1/OwnersLetGoPinLaw", "expectedHeld", "(IIIZ)I"⟩ : MethodName) = true := plainFor_of_name (by first | (simp [plainName, overriddenIn]; done) | decide +kernel)
theorem ef_rmExp (m : MethodId) (x0 : Int32) (x1 : Int32) (x2 : Int32) (x3 : Int32) : entryFrame m #[(.int x0), (.int x1), (.int x2), (.int x3)] 4 = mkF m 0 #[.val (.int x0), .val (.int x1), .val (.int x2), .val (.int x3)] [] := by first | (simp [entryFrame, mkF, argsToLocals, Value.category]; done) | rfl
set_option maxRecDepth 65536 in
set_option maxHeartbeats 40000000 in
theorem rmExp {l : Launch} {Z : State} {a0 : Array Value} (hw : ∀ d ∈ tables_1, d.before a0 Z = true) (k a b tw : Int32) (h0 : Heap) (n0 : Nat)  :
    Met l Z (⟨"com/example/credence/credence/oauth1/OwnersLetGoPinLaw", "expectedHeld", "(IIIZ)I"⟩ : MethodName) method_3_code 4 (some .int) [] ({ frames := 1, cells := 0, slots := 0, locals := 13 } : Room) #[(.int k), (.int a), (.int b), (.int tw)] h0 (fun v h L => v = some (.int (own_exp k a b tw)) ∧ Fr n0 L ∧ h = h0) := by
  refine Met.mk pn10 ?_
  intro p e s m below meth c T hx hby hml hown hnm hret hlk hZ X eT
  refine Go.cast (ef_rmExp m k a b tw) ?_
  have N := Fr.nil n0
  show Go p e below s _ _ T (mkF m 0 #[.val (.int k), .val (.int a), .val (.int b), .val (.int tw)] [])
  refine Go.of (fun _ kq => XS.iloadN X.here hx rfl (hb hby d10_0) rfl kq) ?_
  show Go p e below s _ _ T (mkF m 1 #[.val (.int k), .val (.int a), .val (.int b), .val (.int tw)] [(.int k)])
  refine Go.of (fun _ kq => XS.iloadN X.here hx rfl (hb hby d10_1) rfl kq) ?_
  show Go p e below s _ _ T (mkF m 2 #[.val (.int k), .val (.int a), .val (.int b), .val (.int tw)] [(.int a), (.int k)])
  by_cases hc2 : k = a
  · refine Go.of (fun _ kq => XS.icmpNo X.here hx rfl (hb hby d10_2) rfl (teq hc2).2 kq) ?_
    show Go p e below s _ _ T (mkF m 5 #[.val (.int k), .val (.int a), .val (.int b), .val (.int tw)] [])
    refine Go.of (fun _ kq => XS.iconst X.here hx rfl (hb hby d10_5) kq) ?_
    show Go p e below s _ _ T (mkF m 6 #[.val (.int k), .val (.int a), .val (.int b), .val (.int tw)] [(.int (1 : Int32))])
    refine Go.of (fun _ kq => XS.goto X.here hx rfl (pc0 := 6) (pc' := 10) rfl (hb hby d10_6) (by decide) (by decide) kq) ?_
    show Go p e below s _ _ T (mkF m 10 #[.val (.int k), .val (.int a), .val (.int b), .val (.int tw)] [(.int (1 : Int32))])
    refine Go.static X hx hZ hown (hw _ (List.mem_of_getElem? (i := 78) rfl)) (hw _ (List.mem_of_getElem? (i := 79) rfl)) (hw _ (List.mem_of_getElem? (i := 80) rfl)) (hw _ (List.mem_of_getElem? (i := 81) rfl)) (by decide) (rmInd hw (1 : Int32) _ n0) eT 0 (by decide) (by decide) (by decide) (by decide) (by rw [hml]; rfl) (argsL := [(.int (1 : Int32))]) [] (lenOf pd0 rfl) rfl rfl (Nat.le_of_eq rfl) (hb hby d10_10) ?_
    intro v T L' X hQ
    obtain ⟨rfl, N', eT⟩ := hQ
    have N := Fr.app N N'
    show Go p e below s _ _ T (mkF m 13 #[.val (.int k), .val (.int a), .val (.int b), .val (.int tw)] [(.int (own_ind (1 : Int32)))])
    refine Go.of (fun _ kq => XS.iloadN X.here hx rfl (hb hby d10_13) rfl kq) ?_
    show Go p e below s _ _ T (mkF m 14 #[.val (.int k), .val (.int a), .val (.int b), .val (.int tw)] [(.int k), (.int (own_ind (1 : Int32)))])
    refine Go.of (fun _ kq => XS.iloadN X.here hx rfl (hb hby d10_14) rfl kq) ?_
    show Go p e below s _ _ T (mkF m 15 #[.val (.int k), .val (.int a), .val (.int b), .val (.int tw)] [(.int b), (.int k), (.int (own_ind (1 : Int32)))])
    by_cases hc15 : k = b
    · refine Go.of (fun _ kq => XS.icmpNo X.here hx rfl (hb hby d10_15) rfl (teq hc15).2 kq) ?_
      show Go p e below s _ _ T (mkF m 18 #[.val (.int k), .val (.int a), .val (.int b), .val (.int tw)] [(.int (own_ind (1 : Int32)))])
      refine Go.of (fun _ kq => XS.iconst X.here hx rfl (hb hby d10_18) kq) ?_
      show Go p e below s _ _ T (mkF m 19 #[.val (.int k), .val (.int a), .val (.int b), .val (.int tw)] [(.int (1 : Int32)), (.int (own_ind (1 : Int32)))])
      refine Go.of (fun _ kq => XS.goto X.here hx rfl (pc0 := 19) (pc' := 23) rfl (hb hby d10_19) (by decide) (by decide) kq) ?_
      show Go p e below s _ _ T (mkF m 23 #[.val (.int k), .val (.int a), .val (.int b), .val (.int tw)] [(.int (1 : Int32)), (.int (own_ind (1 : Int32)))])
      refine Go.static X hx hZ hown (hw _ (List.mem_of_getElem? (i := 78) rfl)) (hw _ (List.mem_of_getElem? (i := 79) rfl)) (hw _ (List.mem_of_getElem? (i := 80) rfl)) (hw _ (List.mem_of_getElem? (i := 81) rfl)) (by decide) (rmInd hw (1 : Int32) _ n0) eT 1 (by decide) (by decide) (by decide) (by decide) (by rw [hml]; rfl) (argsL := [(.int (1 : Int32))]) [(.int (own_ind (1 : Int32)))] (lenOf pd0 rfl) rfl rfl (Nat.le_of_eq rfl) (hb hby d10_23) ?_
      intro v T L' X hQ
      obtain ⟨rfl, N', eT⟩ := hQ
      have N := Fr.app N N'
      show Go p e below s _ _ T (mkF m 26 #[.val (.int k), .val (.int a), .val (.int b), .val (.int tw)] [(.int (own_ind (1 : Int32))), (.int (own_ind (1 : Int32)))])
      refine Go.of (fun _ kq => XS.iadd X.here hx rfl (hb hby d10_26) rfl kq) ?_
      show Go p e below s _ _ T (mkF m 27 #[.val (.int k), .val (.int a), .val (.int b), .val (.int tw)] [(.int ((own_ind (1 : Int32)) + (own_ind (1 : Int32))))])
      refine Go.of (fun _ kq => XS.iloadN X.here hx rfl (hb hby d10_27) rfl kq) ?_
      show Go p e below s _ _ T (mkF m 28 #[.val (.int k), .val (.int a), .val (.int b), .val (.int tw)] [(.int tw), (.int ((own_ind (1 : Int32)) + (own_ind (1 : Int32))))])
      by_cases hc28 : tw = (0 : Int32)
      · refine Go.of (fun _ kq => XS.ifYes X.here hx rfl (pc0 := 28) (pc' := 40) rfl (hb hby d10_28) rfl ((if0 _ _).trans (teq hc28).1) (by decide) (by decide) kq) ?_
        show Go p e below s _ _ T (mkF m 40 #[.val (.int k), .val (.int a), .val (.int b), .val (.int tw)] [(.int ((own_ind (1 : Int32)) + (own_ind (1 : Int32))))])
        refine Go.of (fun _ kq => XS.iconst X.here hx rfl (hb hby d10_40) kq) ?_
        show Go p e below s _ _ T (mkF m 41 #[.val (.int k), .val (.int a), .val (.int b), .val (.int tw)] [(.int (0 : Int32)), (.int ((own_ind (1 : Int32)) + (own_ind (1 : Int32))))])
        refine Go.static X hx hZ hown (hw _ (List.mem_of_getElem? (i := 78) rfl)) (hw _ (List.mem_of_getElem? (i := 79) rfl)) (hw _ (List.mem_of_getElem? (i := 80) rfl)) (hw _ (List.mem_of_getElem? (i := 81) rfl)) (by decide) (rmInd hw (0 : Int32) _ n0) eT 1 (by decide) (by decide) (by decide) (by decide) (by rw [hml]; rfl) (argsL := [(.int (0 : Int32))]) [(.int ((own_ind (1 : Int32)) + (own_ind (1 : Int32))))] (lenOf pd0 rfl) rfl rfl (Nat.le_of_eq rfl) (hb hby d10_41) ?_
        intro v T L' X hQ
        obtain ⟨rfl, N', eT⟩ := hQ
        have N := Fr.app N N'
        show Go p e below s _ _ T (mkF m 44 #[.val (.int k), .val (.int a), .val (.int b), .val (.int tw)] [(.int (own_ind (0 : Int32))), (.int ((own_ind (1 : Int32)) + (own_ind (1 : Int32))))])
        refine Go.of (fun _ kq => XS.isub X.here hx rfl (hb hby d10_44) rfl kq) ?_
        show Go p e below s _ _ T (mkF m 45 #[.val (.int k), .val (.int a), .val (.int b), .val (.int tw)] [(.int (((own_ind (1 : Int32)) + (own_ind (1 : Int32))) - (own_ind (0 : Int32))))])
        refine Go.retI X hx hret hlk (hb hby d10_45) (by decide) (by decide) ?_
        try rw [eT]
        exact ⟨by simp only [own_exp, if_pos hc2, if_pos hc15, if_pos hc28], N, rfl⟩
      · refine Go.of (fun _ kq => XS.ifNo X.here hx rfl (hb hby d10_28) rfl ((if0 _ _).trans (feq hc28).1) kq) ?_
        show Go p e below s _ _ T (mkF m 31 #[.val (.int k), .val (.int a), .val (.int b), .val (.int tw)] [(.int ((own_ind (1 : Int32)) + (own_ind (1 : Int32))))])
        refine Go.of (fun _ kq => XS.iloadN X.here hx rfl (hb hby d10_31) rfl kq) ?_
        show Go p e below s _ _ T (mkF m 32 #[.val (.int k), .val (.int a), .val (.int b), .val (.int tw)] [(.int k), (.int ((own_ind (1 : Int32)) + (own_ind (1 : Int32))))])
        refine Go.of (fun _ kq => XS.iloadN X.here hx rfl (hb hby d10_32) rfl kq) ?_
        show Go p e below s _ _ T (mkF m 33 #[.val (.int k), .val (.int a), .val (.int b), .val (.int tw)] [(.int b), (.int k), (.int ((own_ind (1 : Int32)) + (own_ind (1 : Int32))))])
        refine Go.of (fun _ kq => XS.icmpNo X.here hx rfl (hb hby d10_33) rfl (teq (hc15)).2 kq) ?_
        show Go p e below s _ _ T (mkF m 36 #[.val (.int k), .val (.int a), .val (.int b), .val (.int tw)] [(.int ((own_ind (1 : Int32)) + (own_ind (1 : Int32))))])
        refine Go.of (fun _ kq => XS.iconst X.here hx rfl (hb hby d10_36) kq) ?_
        show Go p e below s _ _ T (mkF m 37 #[.val (.int k), .val (.int a), .val (.int b), .val (.int tw)] [(.int (1 : Int32)), (.int ((own_ind (1 : Int32)) + (own_ind (1 : Int32))))])
        refine Go.of (fun _ kq => XS.goto X.here hx rfl (pc0 := 37) (pc' := 41) rfl (hb hby d10_37) (by decide) (by decide) kq) ?_
        show Go p e below s _ _ T (mkF m 41 #[.val (.int k), .val (.int a), .val (.int b), .val (.int tw)] [(.int (1 : Int32)), (.int ((own_ind (1 : Int32)) + (own_ind (1 : Int32))))])
        refine Go.static X hx hZ hown (hw _ (List.mem_of_getElem? (i := 78) rfl)) (hw _ (List.mem_of_getElem? (i := 79) rfl)) (hw _ (List.mem_of_getElem? (i := 80) rfl)) (hw _ (List.mem_of_getElem? (i := 81) rfl)) (by decide) (rmInd hw (1 : Int32) _ n0) eT 1 (by decide) (by decide) (by decide) (by decide) (by rw [hml]; rfl) (argsL := [(.int (1 : Int32))]) [(.int ((own_ind (1 : Int32)) + (own_ind (1 : Int32))))] (lenOf pd0 rfl) rfl rfl (Nat.le_of_eq rfl) (hb hby d10_41) ?_
        intro v T L' X hQ
        obtain ⟨rfl, N', eT⟩ := hQ
        have N := Fr.app N N'
        show Go p e below s _ _ T (mkF m 44 #[.val (.int k), .val (.int a), .val (.int b), .val (.int tw)] [(.int (own_ind (1 : Int32))), (.int ((own_ind (1 : Int32)) + (own_ind (1 : Int32))))])
        refine Go.of (fun _ kq => XS.isub X.here hx rfl (hb hby d10_44) rfl kq) ?_
        show Go p e below s _ _ T (mkF m 45 #[.val (.int k), .val (.int a), .val (.int b), .val (.int tw)] [(.int (((own_ind (1 : Int32)) + (own_ind (1 : Int32))) - (own_ind (1 : Int32))))])
        refine Go.retI X hx hret hlk (hb hby d10_45) (by decide) (by decide) ?_
        try rw [eT]
        exact ⟨by simp only [own_exp, if_pos hc2, if_pos hc15, if_neg hc28], N, rfl⟩
    · refine Go.of (fun _ kq => XS.icmpYes X.here hx rfl (pc0 := 15) (pc' := 22) rfl (hb hby d10_15) rfl (feq hc15).2 (by decide) (by decide) kq) ?_
      show Go p e below s _ _ T (mkF m 22 #[.val (.int k), .val (.int a), .val (.int b), .val (.int tw)] [(.int (own_ind (1 : Int32)))])
      refine Go.of (fun _ kq => XS.iconst X.here hx rfl (hb hby d10_22) kq) ?_
      show Go p e below s _ _ T (mkF m 23 #[.val (.int k), .val (.int a), .val (.int b), .val (.int tw)] [(.int (0 : Int32)), (.int (own_ind (1 : Int32)))])
      refine Go.static X hx hZ hown (hw _ (List.mem_of_getElem? (i := 78) rfl)) (hw _ (List.mem_of_getElem? (i := 79) rfl)) (hw _ (List.mem_of_getElem? (i := 80) rfl)) (hw _ (List.mem_of_getElem? (i := 81) rfl)) (by decide) (rmInd hw (0 : Int32) _ n0) eT 1 (by decide) (by decide) (by decide) (by decide) (by rw [hml]; rfl) (argsL := [(.int (0 : Int32))]) [(.int (own_ind (1 : Int32)))] (lenOf pd0 rfl) rfl rfl (Nat.le_of_eq rfl) (hb hby d10_23) ?_
      intro v T L' X hQ
      obtain ⟨rfl, N', eT⟩ := hQ
      have N := Fr.app N N'
      show Go p e below s _ _ T (mkF m 26 #[.val (.int k), .val (.int a), .val (.int b), .val (.int tw)] [(.int (own_ind (0 : Int32))), (.int (own_ind (1 : Int32)))])
      refine Go.of (fun _ kq => XS.iadd X.here hx rfl (hb hby d10_26) rfl kq) ?_
      show Go p e below s _ _ T (mkF m 27 #[.val (.int k), .val (.int a), .val (.int b), .val (.int tw)] [(.int ((own_ind (1 : Int32)) + (own_ind (0 : Int32))))])
      refine Go.of (fun _ kq => XS.iloadN X.here hx rfl (hb hby d10_27) rfl kq) ?_
      show Go p e below s _ _ T (mkF m 28 #[.val (.int k), .val (.int a), .val (.int b), .val (.int tw)] [(.int tw), (.int ((own_ind (1 : Int32)) + (own_ind (0 : Int32))))])
      by_cases hc28 : tw = (0 : Int32)
      · refine Go.of (fun _ kq => XS.ifYes X.here hx rfl (pc0 := 28) (pc' := 40) rfl (hb hby d10_28) rfl ((if0 _ _).trans (teq hc28).1) (by decide) (by decide) kq) ?_
        show Go p e below s _ _ T (mkF m 40 #[.val (.int k), .val (.int a), .val (.int b), .val (.int tw)] [(.int ((own_ind (1 : Int32)) + (own_ind (0 : Int32))))])
        refine Go.of (fun _ kq => XS.iconst X.here hx rfl (hb hby d10_40) kq) ?_
        show Go p e below s _ _ T (mkF m 41 #[.val (.int k), .val (.int a), .val (.int b), .val (.int tw)] [(.int (0 : Int32)), (.int ((own_ind (1 : Int32)) + (own_ind (0 : Int32))))])
        refine Go.static X hx hZ hown (hw _ (List.mem_of_getElem? (i := 78) rfl)) (hw _ (List.mem_of_getElem? (i := 79) rfl)) (hw _ (List.mem_of_getElem? (i := 80) rfl)) (hw _ (List.mem_of_getElem? (i := 81) rfl)) (by decide) (rmInd hw (0 : Int32) _ n0) eT 1 (by decide) (by decide) (by decide) (by decide) (by rw [hml]; rfl) (argsL := [(.int (0 : Int32))]) [(.int ((own_ind (1 : Int32)) + (own_ind (0 : Int32))))] (lenOf pd0 rfl) rfl rfl (Nat.le_of_eq rfl) (hb hby d10_41) ?_
        intro v T L' X hQ
        obtain ⟨rfl, N', eT⟩ := hQ
        have N := Fr.app N N'
        show Go p e below s _ _ T (mkF m 44 #[.val (.int k), .val (.int a), .val (.int b), .val (.int tw)] [(.int (own_ind (0 : Int32))), (.int ((own_ind (1 : Int32)) + (own_ind (0 : Int32))))])
        refine Go.of (fun _ kq => XS.isub X.here hx rfl (hb hby d10_44) rfl kq) ?_
        show Go p e below s _ _ T (mkF m 45 #[.val (.int k), .val (.int a), .val (.int b), .val (.int tw)] [(.int (((own_ind (1 : Int32)) + (own_ind (0 : Int32))) - (own_ind (0 : Int32))))])
        refine Go.retI X hx hret hlk (hb hby d10_45) (by decide) (by decide) ?_
        try rw [eT]
        exact ⟨by simp only [own_exp, if_pos hc2, if_neg hc15, if_pos hc28], N, rfl⟩
      · refine Go.of (fun _ kq => XS.ifNo X.here hx rfl (hb hby d10_28) rfl ((if0 _ _).trans (feq hc28).1) kq) ?_
        show Go p e below s _ _ T (mkF m 31 #[.val (.int k), .val (.int a), .val (.int b), .val (.int tw)] [(.int ((own_ind (1 : Int32)) + (own_ind (0 : Int32))))])
        refine Go.of (fun _ kq => XS.iloadN X.here hx rfl (hb hby d10_31) rfl kq) ?_
        show Go p e below s _ _ T (mkF m 32 #[.val (.int k), .val (.int a), .val (.int b), .val (.int tw)] [(.int k), (.int ((own_ind (1 : Int32)) + (own_ind (0 : Int32))))])
        refine Go.of (fun _ kq => XS.iloadN X.here hx rfl (hb hby d10_32) rfl kq) ?_
        show Go p e below s _ _ T (mkF m 33 #[.val (.int k), .val (.int a), .val (.int b), .val (.int tw)] [(.int b), (.int k), (.int ((own_ind (1 : Int32)) + (own_ind (0 : Int32))))])
        refine Go.of (fun _ kq => XS.icmpYes X.here hx rfl (pc0 := 33) (pc' := 40) rfl (hb hby d10_33) rfl (feq (hc15)).2 (by decide) (by decide) kq) ?_
        show Go p e below s _ _ T (mkF m 40 #[.val (.int k), .val (.int a), .val (.int b), .val (.int tw)] [(.int ((own_ind (1 : Int32)) + (own_ind (0 : Int32))))])
        refine Go.of (fun _ kq => XS.iconst X.here hx rfl (hb hby d10_40) kq) ?_
        show Go p e below s _ _ T (mkF m 41 #[.val (.int k), .val (.int a), .val (.int b), .val (.int tw)] [(.int (0 : Int32)), (.int ((own_ind (1 : Int32)) + (own_ind (0 : Int32))))])
        refine Go.static X hx hZ hown (hw _ (List.mem_of_getElem? (i := 78) rfl)) (hw _ (List.mem_of_getElem? (i := 79) rfl)) (hw _ (List.mem_of_getElem? (i := 80) rfl)) (hw _ (List.mem_of_getElem? (i := 81) rfl)) (by decide) (rmInd hw (0 : Int32) _ n0) eT 1 (by decide) (by decide) (by decide) (by decide) (by rw [hml]; rfl) (argsL := [(.int (0 : Int32))]) [(.int ((own_ind (1 : Int32)) + (own_ind (0 : Int32))))] (lenOf pd0 rfl) rfl rfl (Nat.le_of_eq rfl) (hb hby d10_41) ?_
        intro v T L' X hQ
        obtain ⟨rfl, N', eT⟩ := hQ
        have N := Fr.app N N'
        show Go p e below s _ _ T (mkF m 44 #[.val (.int k), .val (.int a), .val (.int b), .val (.int tw)] [(.int (own_ind (0 : Int32))), (.int ((own_ind (1 : Int32)) + (own_ind (0 : Int32))))])
        refine Go.of (fun _ kq => XS.isub X.here hx rfl (hb hby d10_44) rfl kq) ?_
        show Go p e below s _ _ T (mkF m 45 #[.val (.int k), .val (.int a), .val (.int b), .val (.int tw)] [(.int (((own_ind (1 : Int32)) + (own_ind (0 : Int32))) - (own_ind (0 : Int32))))])
        refine Go.retI X hx hret hlk (hb hby d10_45) (by decide) (by decide) ?_
        try rw [eT]
        exact ⟨by simp only [own_exp, if_pos hc2, if_neg hc15, if_neg hc28], N, rfl⟩
  · refine Go.of (fun _ kq => XS.icmpYes X.here hx rfl (pc0 := 2) (pc' := 9) rfl (hb hby d10_2) rfl (feq hc2).2 (by decide) (by decide) kq) ?_
    show Go p e below s _ _ T (mkF m 9 #[.val (.int k), .val (.int a), .val (.int b), .val (.int tw)] [])
    refine Go.of (fun _ kq => XS.iconst X.here hx rfl (hb hby d10_9) kq) ?_
    show Go p e below s _ _ T (mkF m 10 #[.val (.int k), .val (.int a), .val (.int b), .val (.int tw)] [(.int (0 : Int32))])
    refine Go.static X hx hZ hown (hw _ (List.mem_of_getElem? (i := 78) rfl)) (hw _ (List.mem_of_getElem? (i := 79) rfl)) (hw _ (List.mem_of_getElem? (i := 80) rfl)) (hw _ (List.mem_of_getElem? (i := 81) rfl)) (by decide) (rmInd hw (0 : Int32) _ n0) eT 0 (by decide) (by decide) (by decide) (by decide) (by rw [hml]; rfl) (argsL := [(.int (0 : Int32))]) [] (lenOf pd0 rfl) rfl rfl (Nat.le_of_eq rfl) (hb hby d10_10) ?_
    intro v T L' X hQ
    obtain ⟨rfl, N', eT⟩ := hQ
    have N := Fr.app N N'
    show Go p e below s _ _ T (mkF m 13 #[.val (.int k), .val (.int a), .val (.int b), .val (.int tw)] [(.int (own_ind (0 : Int32)))])
    refine Go.of (fun _ kq => XS.iloadN X.here hx rfl (hb hby d10_13) rfl kq) ?_
    show Go p e below s _ _ T (mkF m 14 #[.val (.int k), .val (.int a), .val (.int b), .val (.int tw)] [(.int k), (.int (own_ind (0 : Int32)))])
    refine Go.of (fun _ kq => XS.iloadN X.here hx rfl (hb hby d10_14) rfl kq) ?_
    show Go p e below s _ _ T (mkF m 15 #[.val (.int k), .val (.int a), .val (.int b), .val (.int tw)] [(.int b), (.int k), (.int (own_ind (0 : Int32)))])
    by_cases hc15 : k = b
    · refine Go.of (fun _ kq => XS.icmpNo X.here hx rfl (hb hby d10_15) rfl (teq hc15).2 kq) ?_
      show Go p e below s _ _ T (mkF m 18 #[.val (.int k), .val (.int a), .val (.int b), .val (.int tw)] [(.int (own_ind (0 : Int32)))])
      refine Go.of (fun _ kq => XS.iconst X.here hx rfl (hb hby d10_18) kq) ?_
      show Go p e below s _ _ T (mkF m 19 #[.val (.int k), .val (.int a), .val (.int b), .val (.int tw)] [(.int (1 : Int32)), (.int (own_ind (0 : Int32)))])
      refine Go.of (fun _ kq => XS.goto X.here hx rfl (pc0 := 19) (pc' := 23) rfl (hb hby d10_19) (by decide) (by decide) kq) ?_
      show Go p e below s _ _ T (mkF m 23 #[.val (.int k), .val (.int a), .val (.int b), .val (.int tw)] [(.int (1 : Int32)), (.int (own_ind (0 : Int32)))])
      refine Go.static X hx hZ hown (hw _ (List.mem_of_getElem? (i := 78) rfl)) (hw _ (List.mem_of_getElem? (i := 79) rfl)) (hw _ (List.mem_of_getElem? (i := 80) rfl)) (hw _ (List.mem_of_getElem? (i := 81) rfl)) (by decide) (rmInd hw (1 : Int32) _ n0) eT 1 (by decide) (by decide) (by decide) (by decide) (by rw [hml]; rfl) (argsL := [(.int (1 : Int32))]) [(.int (own_ind (0 : Int32)))] (lenOf pd0 rfl) rfl rfl (Nat.le_of_eq rfl) (hb hby d10_23) ?_
      intro v T L' X hQ
      obtain ⟨rfl, N', eT⟩ := hQ
      have N := Fr.app N N'
      show Go p e below s _ _ T (mkF m 26 #[.val (.int k), .val (.int a), .val (.int b), .val (.int tw)] [(.int (own_ind (1 : Int32))), (.int (own_ind (0 : Int32)))])
      refine Go.of (fun _ kq => XS.iadd X.here hx rfl (hb hby d10_26) rfl kq) ?_
      show Go p e below s _ _ T (mkF m 27 #[.val (.int k), .val (.int a), .val (.int b), .val (.int tw)] [(.int ((own_ind (0 : Int32)) + (own_ind (1 : Int32))))])
      refine Go.of (fun _ kq => XS.iloadN X.here hx rfl (hb hby d10_27) rfl kq) ?_
      show Go p e below s _ _ T (mkF m 28 #[.val (.int k), .val (.int a), .val (.int b), .val (.int tw)] [(.int tw), (.int ((own_ind (0 : Int32)) + (own_ind (1 : Int32))))])
      by_cases hc28 : tw = (0 : Int32)
      · refine Go.of (fun _ kq => XS.ifYes X.here hx rfl (pc0 := 28) (pc' := 40) rfl (hb hby d10_28) rfl ((if0 _ _).trans (teq hc28).1) (by decide) (by decide) kq) ?_
        show Go p e below s _ _ T (mkF m 40 #[.val (.int k), .val (.int a), .val (.int b), .val (.int tw)] [(.int ((own_ind (0 : Int32)) + (own_ind (1 : Int32))))])
        refine Go.of (fun _ kq => XS.iconst X.here hx rfl (hb hby d10_40) kq) ?_
        show Go p e below s _ _ T (mkF m 41 #[.val (.int k), .val (.int a), .val (.int b), .val (.int tw)] [(.int (0 : Int32)), (.int ((own_ind (0 : Int32)) + (own_ind (1 : Int32))))])
        refine Go.static X hx hZ hown (hw _ (List.mem_of_getElem? (i := 78) rfl)) (hw _ (List.mem_of_getElem? (i := 79) rfl)) (hw _ (List.mem_of_getElem? (i := 80) rfl)) (hw _ (List.mem_of_getElem? (i := 81) rfl)) (by decide) (rmInd hw (0 : Int32) _ n0) eT 1 (by decide) (by decide) (by decide) (by decide) (by rw [hml]; rfl) (argsL := [(.int (0 : Int32))]) [(.int ((own_ind (0 : Int32)) + (own_ind (1 : Int32))))] (lenOf pd0 rfl) rfl rfl (Nat.le_of_eq rfl) (hb hby d10_41) ?_
        intro v T L' X hQ
        obtain ⟨rfl, N', eT⟩ := hQ
        have N := Fr.app N N'
        show Go p e below s _ _ T (mkF m 44 #[.val (.int k), .val (.int a), .val (.int b), .val (.int tw)] [(.int (own_ind (0 : Int32))), (.int ((own_ind (0 : Int32)) + (own_ind (1 : Int32))))])
        refine Go.of (fun _ kq => XS.isub X.here hx rfl (hb hby d10_44) rfl kq) ?_
        show Go p e below s _ _ T (mkF m 45 #[.val (.int k), .val (.int a), .val (.int b), .val (.int tw)] [(.int (((own_ind (0 : Int32)) + (own_ind (1 : Int32))) - (own_ind (0 : Int32))))])
        refine Go.retI X hx hret hlk (hb hby d10_45) (by decide) (by decide) ?_
        try rw [eT]
        exact ⟨by simp only [own_exp, if_neg hc2, if_pos hc15, if_pos hc28], N, rfl⟩
      · refine Go.of (fun _ kq => XS.ifNo X.here hx rfl (hb hby d10_28) rfl ((if0 _ _).trans (feq hc28).1) kq) ?_
        show Go p e below s _ _ T (mkF m 31 #[.val (.int k), .val (.int a), .val (.int b), .val (.int tw)] [(.int ((own_ind (0 : Int32)) + (own_ind (1 : Int32))))])
        refine Go.of (fun _ kq => XS.iloadN X.here hx rfl (hb hby d10_31) rfl kq) ?_
        show Go p e below s _ _ T (mkF m 32 #[.val (.int k), .val (.int a), .val (.int b), .val (.int tw)] [(.int k), (.int ((own_ind (0 : Int32)) + (own_ind (1 : Int32))))])
        refine Go.of (fun _ kq => XS.iloadN X.here hx rfl (hb hby d10_32) rfl kq) ?_
        show Go p e below s _ _ T (mkF m 33 #[.val (.int k), .val (.int a), .val (.int b), .val (.int tw)] [(.int b), (.int k), (.int ((own_ind (0 : Int32)) + (own_ind (1 : Int32))))])
        refine Go.of (fun _ kq => XS.icmpNo X.here hx rfl (hb hby d10_33) rfl (teq (hc15)).2 kq) ?_
        show Go p e below s _ _ T (mkF m 36 #[.val (.int k), .val (.int a), .val (.int b), .val (.int tw)] [(.int ((own_ind (0 : Int32)) + (own_ind (1 : Int32))))])
        refine Go.of (fun _ kq => XS.iconst X.here hx rfl (hb hby d10_36) kq) ?_
        show Go p e below s _ _ T (mkF m 37 #[.val (.int k), .val (.int a), .val (.int b), .val (.int tw)] [(.int (1 : Int32)), (.int ((own_ind (0 : Int32)) + (own_ind (1 : Int32))))])
        refine Go.of (fun _ kq => XS.goto X.here hx rfl (pc0 := 37) (pc' := 41) rfl (hb hby d10_37) (by decide) (by decide) kq) ?_
        show Go p e below s _ _ T (mkF m 41 #[.val (.int k), .val (.int a), .val (.int b), .val (.int tw)] [(.int (1 : Int32)), (.int ((own_ind (0 : Int32)) + (own_ind (1 : Int32))))])
        refine Go.static X hx hZ hown (hw _ (List.mem_of_getElem? (i := 78) rfl)) (hw _ (List.mem_of_getElem? (i := 79) rfl)) (hw _ (List.mem_of_getElem? (i := 80) rfl)) (hw _ (List.mem_of_getElem? (i := 81) rfl)) (by decide) (rmInd hw (1 : Int32) _ n0) eT 1 (by decide) (by decide) (by decide) (by decide) (by rw [hml]; rfl) (argsL := [(.int (1 : Int32))]) [(.int ((own_ind (0 : Int32)) + (own_ind (1 : Int32))))] (lenOf pd0 rfl) rfl rfl (Nat.le_of_eq rfl) (hb hby d10_41) ?_
        intro v T L' X hQ
        obtain ⟨rfl, N', eT⟩ := hQ
        have N := Fr.app N N'
        show Go p e below s _ _ T (mkF m 44 #[.val (.int k), .val (.int a), .val (.int b), .val (.int tw)] [(.int (own_ind (1 : Int32))), (.int ((own_ind (0 : Int32)) + (own_ind (1 : Int32))))])
        refine Go.of (fun _ kq => XS.isub X.here hx rfl (hb hby d10_44) rfl kq) ?_
        show Go p e below s _ _ T (mkF m 45 #[.val (.int k), .val (.int a), .val (.int b), .val (.int tw)] [(.int (((own_ind (0 : Int32)) + (own_ind (1 : Int32))) - (own_ind (1 : Int32))))])
        refine Go.retI X hx hret hlk (hb hby d10_45) (by decide) (by decide) ?_
        try rw [eT]
        exact ⟨by simp only [own_exp, if_neg hc2, if_pos hc15, if_neg hc28], N, rfl⟩
    · refine Go.of (fun _ kq => XS.icmpYes X.here hx rfl (pc0 := 15) (pc' := 22) rfl (hb hby d10_15) rfl (feq hc15).2 (by decide) (by decide) kq) ?_
      show Go p e below s _ _ T (mkF m 22 #[.val (.int k), .val (.int a), .val (.int b), .val (.int tw)] [(.int (own_ind (0 : Int32)))])
      refine Go.of (fun _ kq => XS.iconst X.here hx rfl (hb hby d10_22) kq) ?_
      show Go p e below s _ _ T (mkF m 23 #[.val (.int k), .val (.int a), .val (.int b), .val (.int tw)] [(.int (0 : Int32)), (.int (own_ind (0 : Int32)))])
      refine Go.static X hx hZ hown (hw _ (List.mem_of_getElem? (i := 78) rfl)) (hw _ (List.mem_of_getElem? (i := 79) rfl)) (hw _ (List.mem_of_getElem? (i := 80) rfl)) (hw _ (List.mem_of_getElem? (i := 81) rfl)) (by decide) (rmInd hw (0 : Int32) _ n0) eT 1 (by decide) (by decide) (by decide) (by decide) (by rw [hml]; rfl) (argsL := [(.int (0 : Int32))]) [(.int (own_ind (0 : Int32)))] (lenOf pd0 rfl) rfl rfl (Nat.le_of_eq rfl) (hb hby d10_23) ?_
      intro v T L' X hQ
      obtain ⟨rfl, N', eT⟩ := hQ
      have N := Fr.app N N'
      show Go p e below s _ _ T (mkF m 26 #[.val (.int k), .val (.int a), .val (.int b), .val (.int tw)] [(.int (own_ind (0 : Int32))), (.int (own_ind (0 : Int32)))])
      refine Go.of (fun _ kq => XS.iadd X.here hx rfl (hb hby d10_26) rfl kq) ?_
      show Go p e below s _ _ T (mkF m 27 #[.val (.int k), .val (.int a), .val (.int b), .val (.int tw)] [(.int ((own_ind (0 : Int32)) + (own_ind (0 : Int32))))])
      refine Go.of (fun _ kq => XS.iloadN X.here hx rfl (hb hby d10_27) rfl kq) ?_
      show Go p e below s _ _ T (mkF m 28 #[.val (.int k), .val (.int a), .val (.int b), .val (.int tw)] [(.int tw), (.int ((own_ind (0 : Int32)) + (own_ind (0 : Int32))))])
      by_cases hc28 : tw = (0 : Int32)
      · refine Go.of (fun _ kq => XS.ifYes X.here hx rfl (pc0 := 28) (pc' := 40) rfl (hb hby d10_28) rfl ((if0 _ _).trans (teq hc28).1) (by decide) (by decide) kq) ?_
        show Go p e below s _ _ T (mkF m 40 #[.val (.int k), .val (.int a), .val (.int b), .val (.int tw)] [(.int ((own_ind (0 : Int32)) + (own_ind (0 : Int32))))])
        refine Go.of (fun _ kq => XS.iconst X.here hx rfl (hb hby d10_40) kq) ?_
        show Go p e below s _ _ T (mkF m 41 #[.val (.int k), .val (.int a), .val (.int b), .val (.int tw)] [(.int (0 : Int32)), (.int ((own_ind (0 : Int32)) + (own_ind (0 : Int32))))])
        refine Go.static X hx hZ hown (hw _ (List.mem_of_getElem? (i := 78) rfl)) (hw _ (List.mem_of_getElem? (i := 79) rfl)) (hw _ (List.mem_of_getElem? (i := 80) rfl)) (hw _ (List.mem_of_getElem? (i := 81) rfl)) (by decide) (rmInd hw (0 : Int32) _ n0) eT 1 (by decide) (by decide) (by decide) (by decide) (by rw [hml]; rfl) (argsL := [(.int (0 : Int32))]) [(.int ((own_ind (0 : Int32)) + (own_ind (0 : Int32))))] (lenOf pd0 rfl) rfl rfl (Nat.le_of_eq rfl) (hb hby d10_41) ?_
        intro v T L' X hQ
        obtain ⟨rfl, N', eT⟩ := hQ
        have N := Fr.app N N'
        show Go p e below s _ _ T (mkF m 44 #[.val (.int k), .val (.int a), .val (.int b), .val (.int tw)] [(.int (own_ind (0 : Int32))), (.int ((own_ind (0 : Int32)) + (own_ind (0 : Int32))))])
        refine Go.of (fun _ kq => XS.isub X.here hx rfl (hb hby d10_44) rfl kq) ?_
        show Go p e below s _ _ T (mkF m 45 #[.val (.int k), .val (.int a), .val (.int b), .val (.int tw)] [(.int (((own_ind (0 : Int32)) + (own_ind (0 : Int32))) - (own_ind (0 : Int32))))])
        refine Go.retI X hx hret hlk (hb hby d10_45) (by decide) (by decide) ?_
        try rw [eT]
        exact ⟨by simp only [own_exp, if_neg hc2, if_neg hc15, if_pos hc28], N, rfl⟩
      · refine Go.of (fun _ kq => XS.ifNo X.here hx rfl (hb hby d10_28) rfl ((if0 _ _).trans (feq hc28).1) kq) ?_
        show Go p e below s _ _ T (mkF m 31 #[.val (.int k), .val (.int a), .val (.int b), .val (.int tw)] [(.int ((own_ind (0 : Int32)) + (own_ind (0 : Int32))))])
        refine Go.of (fun _ kq => XS.iloadN X.here hx rfl (hb hby d10_31) rfl kq) ?_
        show Go p e below s _ _ T (mkF m 32 #[.val (.int k), .val (.int a), .val (.int b), .val (.int tw)] [(.int k), (.int ((own_ind (0 : Int32)) + (own_ind (0 : Int32))))])
        refine Go.of (fun _ kq => XS.iloadN X.here hx rfl (hb hby d10_32) rfl kq) ?_
        show Go p e below s _ _ T (mkF m 33 #[.val (.int k), .val (.int a), .val (.int b), .val (.int tw)] [(.int b), (.int k), (.int ((own_ind (0 : Int32)) + (own_ind (0 : Int32))))])
        refine Go.of (fun _ kq => XS.icmpYes X.here hx rfl (pc0 := 33) (pc' := 40) rfl (hb hby d10_33) rfl (feq (hc15)).2 (by decide) (by decide) kq) ?_
        show Go p e below s _ _ T (mkF m 40 #[.val (.int k), .val (.int a), .val (.int b), .val (.int tw)] [(.int ((own_ind (0 : Int32)) + (own_ind (0 : Int32))))])
        refine Go.of (fun _ kq => XS.iconst X.here hx rfl (hb hby d10_40) kq) ?_
        show Go p e below s _ _ T (mkF m 41 #[.val (.int k), .val (.int a), .val (.int b), .val (.int tw)] [(.int (0 : Int32)), (.int ((own_ind (0 : Int32)) + (own_ind (0 : Int32))))])
        refine Go.static X hx hZ hown (hw _ (List.mem_of_getElem? (i := 78) rfl)) (hw _ (List.mem_of_getElem? (i := 79) rfl)) (hw _ (List.mem_of_getElem? (i := 80) rfl)) (hw _ (List.mem_of_getElem? (i := 81) rfl)) (by decide) (rmInd hw (0 : Int32) _ n0) eT 1 (by decide) (by decide) (by decide) (by decide) (by rw [hml]; rfl) (argsL := [(.int (0 : Int32))]) [(.int ((own_ind (0 : Int32)) + (own_ind (0 : Int32))))] (lenOf pd0 rfl) rfl rfl (Nat.le_of_eq rfl) (hb hby d10_41) ?_
        intro v T L' X hQ
        obtain ⟨rfl, N', eT⟩ := hQ
        have N := Fr.app N N'
        show Go p e below s _ _ T (mkF m 44 #[.val (.int k), .val (.int a), .val (.int b), .val (.int tw)] [(.int (own_ind (0 : Int32))), (.int ((own_ind (0 : Int32)) + (own_ind (0 : Int32))))])
        refine Go.of (fun _ kq => XS.isub X.here hx rfl (hb hby d10_44) rfl kq) ?_
        show Go p e below s _ _ T (mkF m 45 #[.val (.int k), .val (.int a), .val (.int b), .val (.int tw)] [(.int (((own_ind (0 : Int32)) + (own_ind (0 : Int32))) - (own_ind (0 : Int32))))])
        refine Go.retI X hx hret hlk (hb hby d10_45) (by decide) (by decide) ?_
        try rw [eT]
        exact ⟨by simp only [own_exp, if_neg hc2, if_neg hc15, if_neg hc28], N, rfl⟩
theorem d3_0 : decode jdk_29_method_65_code 0 = .ok (.iload_n 0, 1) := by decide +kernel
theorem d3_1 : decode jdk_29_method_65_code 1 = .ok (.iload_n 1, 1) := by decide +kernel
theorem d3_2 : decode jdk_29_method_65_code 2 = .ok (.if_icmp .lt 7, 3) := by decide +kernel
theorem d3_5 : decode jdk_29_method_65_code 5 = .ok (.iload_n 0, 1) := by decide +kernel
theorem d3_6 : decode jdk_29_method_65_code 6 = .ok (.goto 4, 3) := by decide +kernel
theorem d3_9 : decode jdk_29_method_65_code 9 = .ok (.iload_n 1, 1) := by decide +kernel
theorem d3_10 : decode jdk_29_method_65_code 10 = .ok (.ireturn, 1) := by decide +kernel
theorem pn3 : plainFor (⟨"java/lang/Math", "max", "(II)I"⟩ : MethodName) = true := Jvm.Free.JP.mathPlain rfl (by decide +kernel)
theorem ef_rmMax (m : MethodId) (x0 : Int32) (x1 : Int32) : entryFrame m #[(.int x0), (.int x1)] 2 = mkF m 0 #[.val (.int x0), .val (.int x1)] [] := by first | (simp [entryFrame, mkF, argsToLocals, Value.category]; done) | rfl
set_option maxRecDepth 65536 in
set_option maxHeartbeats 40000000 in
theorem rmMax {l : Launch} {Z : State} {a0 : Array Value} (hw : ∀ d ∈ tables_1, d.before a0 Z = true) (p1 p2 : Int32) (h0 : Heap) (n0 : Nat)  :
    Met l Z (⟨"java/lang/Math", "max", "(II)I"⟩ : MethodName) jdk_29_method_65_code 2 (some .int) [] ({ frames := 0, cells := 0, slots := 0, locals := 0 } : Room) #[(.int p1), (.int p2)] h0 (fun v h L => ∃ r : Int32, v = some (.int r) ∧ Fr n0 L ∧ h = h0) := by
  refine Met.mk pn3 ?_
  intro p e s m below meth c T hx hby hml hown hnm hret hlk hZ X eT
  refine Go.cast (ef_rmMax m p1 p2) ?_
  have N := Fr.nil n0
  show Go p e below s _ _ T (mkF m 0 #[.val (.int p1), .val (.int p2)] [])
  refine Go.of (fun _ kq => XS.iloadN X.here hx rfl (hb hby d3_0) rfl kq) ?_
  show Go p e below s _ _ T (mkF m 1 #[.val (.int p1), .val (.int p2)] [(.int p1)])
  refine Go.of (fun _ kq => XS.iloadN X.here hx rfl (hb hby d3_1) rfl kq) ?_
  show Go p e below s _ _ T (mkF m 2 #[.val (.int p1), .val (.int p2)] [(.int p2), (.int p1)])
  by_cases hc2 : p1 < p2
  · refine Go.of (fun _ kq => XS.icmpYes X.here hx rfl (pc0 := 2) (pc' := 9) rfl (hb hby d3_2) rfl (tlt hc2).1 (by decide) (by decide) kq) ?_
    show Go p e below s _ _ T (mkF m 9 #[.val (.int p1), .val (.int p2)] [])
    refine Go.of (fun _ kq => XS.iloadN X.here hx rfl (hb hby d3_9) rfl kq) ?_
    show Go p e below s _ _ T (mkF m 10 #[.val (.int p1), .val (.int p2)] [(.int p2)])
    refine Go.retI X hx hret hlk (hb hby d3_10) (by decide) (by decide) ?_
    try rw [eT]
    exact ⟨_, rfl, N, rfl⟩
  · refine Go.of (fun _ kq => XS.icmpNo X.here hx rfl (hb hby d3_2) rfl (flt hc2).1 kq) ?_
    show Go p e below s _ _ T (mkF m 5 #[.val (.int p1), .val (.int p2)] [])
    refine Go.of (fun _ kq => XS.iloadN X.here hx rfl (hb hby d3_5) rfl kq) ?_
    show Go p e below s _ _ T (mkF m 6 #[.val (.int p1), .val (.int p2)] [(.int p1)])
    refine Go.of (fun _ kq => XS.goto X.here hx rfl (pc0 := 6) (pc' := 10) rfl (hb hby d3_6) (by decide) (by decide) kq) ?_
    show Go p e below s _ _ T (mkF m 10 #[.val (.int p1), .val (.int p2)] [(.int p1)])
    refine Go.retI X hx hret hlk (hb hby d3_10) (by decide) (by decide) ?_
    try rw [eT]
    exact ⟨_, rfl, N, rfl⟩
theorem d5_0 : decode jdk_65_method_101_code 0 = .ok (.iconst 0, 1) := by decide +kernel
theorem d5_1 : decode jdk_65_method_101_code 1 = .ok (.istore_n 3, 1) := by decide +kernel
theorem d5_2 : decode jdk_65_method_101_code 2 = .ok (.aload_n 0, 1) := by decide +kernel
theorem d5_3 : decode jdk_65_method_101_code 3 = .ok (.arraylength, 1) := by decide +kernel
theorem d5_4 : decode jdk_65_method_101_code 4 = .ok (.istore 4, 2) := by decide +kernel
theorem d5_6 : decode jdk_65_method_101_code 6 = .ok (.iload_n 3, 1) := by decide +kernel
theorem d5_7 : decode jdk_65_method_101_code 7 = .ok (.iload 4, 2) := by decide +kernel
theorem d5_9 : decode jdk_65_method_101_code 9 = .ok (.if_icmp .ge 13, 3) := by decide +kernel
theorem d5_12 : decode jdk_65_method_101_code 12 = .ok (.aload_n 0, 1) := by decide +kernel
theorem d5_13 : decode jdk_65_method_101_code 13 = .ok (.iload_n 3, 1) := by decide +kernel
theorem d5_14 : decode jdk_65_method_101_code 14 = .ok (.lload_n 1, 1) := by decide +kernel
theorem d5_15 : decode jdk_65_method_101_code 15 = .ok (.lastore, 1) := by decide +kernel
theorem d5_16 : decode jdk_65_method_101_code 16 = .ok (.iinc 3 1, 3) := by decide +kernel
theorem d5_19 : decode jdk_65_method_101_code 19 = .ok (.goto (-13), 3) := by decide +kernel
theorem d5_22 : decode jdk_65_method_101_code 22 = .ok (.return_, 1) := by decide +kernel
theorem pn5 : plainFor (⟨"java/util/Arrays", "fill", "([JJ)V"⟩ : MethodName) = true := plainFor_of_name (by first | (simp [plainName, overriddenIn]; done) | decide +kernel)
theorem ef_rmFill (m : MethodId) (x0 : Addr) (x1 : Int64) : entryFrame m #[(.ref x0), (.long x1)] 5 = mkF m 0 #[.val (.ref x0), .val (.long x1), .second, .unset, .unset] [] := by first | (simp [entryFrame, mkF, argsToLocals, Value.category]; done) | rfl
set_option maxRecDepth 65536 in
set_option maxHeartbeats 40000000 in
theorem rmFill {l : Launch} {Z : State} {a0 : Array Value} (hw : ∀ d ∈ tables_1, d.before a0 Z = true) (a : Addr) (q : Int64) (f0 : Nat → Value) (h0 : Heap) (n0 : Nat) (g_a : n0 ≤ a) (V_a : AV Z h0 a .long 4096 f0) :
    Met l Z (⟨"java/util/Arrays", "fill", "([JJ)V"⟩ : MethodName) jdk_65_method_101_code 5 none [] ({ frames := 0, cells := 0, slots := 0, locals := 0 } : Room) #[(.ref a), (.long q)] h0 (fun v h L => v = none ∧ Fr n0 L ∧ Keep h0 h [a]) := by
  refine Met.mk pn5 ?_
  intro p e s m below meth c T hx hby hml hown hnm hret hlk hZ X eT
  refine Go.cast (ef_rmFill m a q) ?_
  have N := Fr.nil n0
  have K := Keep.refl h0 [a]
  show Go p e below s _ _ T (mkF m 0 #[.val (.ref a), .val (.long q), .second, .unset, .unset] [])
  refine Go.of (fun _ kq => XS.iconst X.here hx rfl (hb hby d5_0) kq) ?_
  show Go p e below s _ _ T (mkF m 1 #[.val (.ref a), .val (.long q), .second, .unset, .unset] [(.int (0 : Int32))])
  refine Go.of (fun _ kq => XS.istoreN X.here hx rfl (hb hby d5_1) rfl (l' := #[.val (.ref a), .val (.long q), .second, .val (.int (0 : Int32)), .unset]) rfl kq) ?_
  show Go p e below s _ _ T (mkF m 2 #[.val (.ref a), .val (.long q), .second, .val (.int (0 : Int32)), .unset] [])
  refine Go.of (fun _ kq => XS.aloadN X.here hx rfl (hb hby d5_2) rfl rfl kq) ?_
  show Go p e below s _ _ T (mkF m 3 #[.val (.ref a), .val (.long q), .second, .val (.int (0 : Int32)), .unset] [(.ref a)])
  refine Go.alen (4096 : Int32) X hx hZ eT V_a (by decide) (hb hby d5_3) ?_
  show Go p e below s _ _ T (mkF m 4 #[.val (.ref a), .val (.long q), .second, .val (.int (0 : Int32)), .unset] [(.int (4096 : Int32))])
  refine Go.of (fun _ kq => XS.istore X.here hx rfl (hb hby d5_4) rfl (l' := #[.val (.ref a), .val (.long q), .second, .val (.int (0 : Int32)), .val (.int (4096 : Int32))]) rfl kq) ?_
  show Go p e below s _ _ T (mkF m 6 #[.val (.ref a), .val (.long q), .second, .val (.int (0 : Int32)), .val (.int (4096 : Int32))] [])
  refine Go.loop (α := Nat) (fun i => 4096 - i) (fun i locs h => Fr n0 locs ∧ Keep h0 h [a] ∧ (∃ f : Nat → Value, AV Z h a .long 4096 f) ∧ i ≤ 4096) (fun i => (mkF m 6 #[.val (.ref a), .val (.long q), .second, .val (.int (Int32.ofNat i)), .val (.int (4096 : Int32))] [])) ?_ 0 X eT ?_
  · intro i T locs h X eT hI ih
    obtain ⟨N, K, ⟨f, V_a⟩, hi⟩ := hI
    show Go p e below s _ _ T (mkF m 6 #[.val (.ref a), .val (.long q), .second, .val (.int (Int32.ofNat i)), .val (.int (4096 : Int32))] [])
    refine Go.of (fun _ kq => XS.iloadN X.here hx rfl (hb hby d5_6) rfl kq) ?_
    show Go p e below s _ _ T (mkF m 7 #[.val (.ref a), .val (.long q), .second, .val (.int (Int32.ofNat i)), .val (.int (4096 : Int32))] [(.int (Int32.ofNat i))])
    refine Go.of (fun _ kq => XS.iload X.here hx rfl (hb hby d5_7) rfl kq) ?_
    show Go p e below s _ _ T (mkF m 9 #[.val (.ref a), .val (.long q), .second, .val (.int (Int32.ofNat i)), .val (.int (4096 : Int32))] [(.int (4096 : Int32)), (.int (Int32.ofNat i))])
    by_cases hc9 : (Int32.ofNat i) < (4096 : Int32)
    · refine Go.of (fun _ kq => XS.icmpNo X.here hx rfl (hb hby d5_9) rfl (tlt hc9).2.1 kq) ?_
      show Go p e below s _ _ T (mkF m 12 #[.val (.ref a), .val (.long q), .second, .val (.int (Int32.ofNat i)), .val (.int (4096 : Int32))] [])
      have hlt : i < 4096 := own_ltn (by omega) (by omega) hc9
      refine Go.of (fun _ kq => XS.aloadN X.here hx rfl (hb hby d5_12) rfl rfl kq) ?_
      show Go p e below s _ _ T (mkF m 13 #[.val (.ref a), .val (.long q), .second, .val (.int (Int32.ofNat i)), .val (.int (4096 : Int32))] [(.ref a)])
      refine Go.of (fun _ kq => XS.iloadN X.here hx rfl (hb hby d5_13) rfl kq) ?_
      show Go p e below s _ _ T (mkF m 14 #[.val (.ref a), .val (.long q), .second, .val (.int (Int32.ofNat i)), .val (.int (4096 : Int32))] [(.int (Int32.ofNat i)), (.ref a)])
      refine Go.of (fun _ kq => XS.lloadN X.here hx rfl (hb hby d5_14) rfl kq) ?_
      show Go p e below s _ _ T (mkF m 15 #[.val (.ref a), .val (.long q), .second, .val (.int (Int32.ofNat i)), .val (.int (4096 : Int32))] [(.long q), (.int (Int32.ofNat i)), (.ref a)])
      have hin : Inb (Int32.ofNat i) 4096 := own_inb hlt (by omega)
      refine Go.stJ X hx hZ eT V_a hin (hb hby d5_15) ?_
      intro T h X eT wr
      have N := Fr.snoc X N g_a
      have K := K.wr wr (Or.inl (List.mem_of_getElem? (i := 0) rfl))
      have V_a := V_a.set wr hin.2
      show Go p e below s _ _ T (mkF m 16 #[.val (.ref a), .val (.long q), .second, .val (.int (Int32.ofNat i)), .val (.int (4096 : Int32))] [])
      refine Go.of (fun _ kq => XS.iinc X.here hx rfl (hb hby d5_16) rfl (l' := #[.val (.ref a), .val (.long q), .second, .val (.int ((Int32.ofNat i) + (1 : Int32))), .val (.int (4096 : Int32))]) rfl kq) ?_
      show Go p e below s _ _ T (mkF m 19 #[.val (.ref a), .val (.long q), .second, .val (.int ((Int32.ofNat i) + (1 : Int32))), .val (.int (4096 : Int32))] [])
      refine Go.of (fun _ kq => XS.goto X.here hx rfl (pc0 := 19) (pc' := 6) rfl (hb hby d5_19) (by decide) (by decide) kq) ?_
      show Go p e below s _ _ T (mkF m 6 #[.val (.ref a), .val (.long q), .second, .val (.int ((Int32.ofNat i) + (1 : Int32))), .val (.int (4096 : Int32))] [])
      rw [own_succ]
      exact ih (i + 1) T _ _ (by omega) X eT ⟨N, K, ⟨_, V_a⟩, (by omega)⟩
    · refine Go.of (fun _ kq => XS.icmpYes X.here hx rfl (pc0 := 9) (pc' := 22) rfl (hb hby d5_9) rfl (flt hc9).2.1 (by decide) (by decide) kq) ?_
      show Go p e below s _ _ T (mkF m 22 #[.val (.ref a), .val (.long q), .second, .val (.int (Int32.ofNat i)), .val (.int (4096 : Int32))] [])
      refine Go.retV X hx hret hlk (hb hby d5_22) (by decide) (by decide) ?_
      try rw [eT]
      exact ⟨rfl, N, K⟩
  · exact ⟨N, K, ⟨_, V_a⟩, (by omega)⟩
theorem d4_0 : decode prog_11_method_1_code 0 = .ok (.aload_n 0, 1) := by decide +kernel
theorem d4_1 : decode prog_11_method_1_code 1 = .ok (.invokespecial 1, 3) := by decide +kernel
theorem d4_4 : decode prog_11_method_1_code 4 = .ok (.aload_n 0, 1) := by decide +kernel
theorem d4_5 : decode prog_11_method_1_code 5 = .ok (.sipush 128, 3) := by decide +kernel
theorem d4_8 : decode prog_11_method_1_code 8 = .ok (.newarray .int, 2) := by decide +kernel
theorem d4_10 : decode prog_11_method_1_code 10 = .ok (.putfield 9, 3) := by decide +kernel
theorem d4_13 : decode prog_11_method_1_code 13 = .ok (.aload_n 0, 1) := by decide +kernel
theorem d4_14 : decode prog_11_method_1_code 14 = .ok (.sipush 128, 3) := by decide +kernel
theorem d4_17 : decode prog_11_method_1_code 17 = .ok (.newarray .int, 2) := by decide +kernel
theorem d4_19 : decode prog_11_method_1_code 19 = .ok (.putfield 13, 3) := by decide +kernel
theorem d4_22 : decode prog_11_method_1_code 22 = .ok (.aload_n 0, 1) := by decide +kernel
theorem d4_23 : decode prog_11_method_1_code 23 = .ok (.sipush 128, 3) := by decide +kernel
theorem d4_26 : decode prog_11_method_1_code 26 = .ok (.newarray .int, 2) := by decide +kernel
theorem d4_28 : decode prog_11_method_1_code 28 = .ok (.putfield 16, 3) := by decide +kernel
theorem d4_31 : decode prog_11_method_1_code 31 = .ok (.aload_n 0, 1) := by decide +kernel
theorem d4_32 : decode prog_11_method_1_code 32 = .ok (.sipush 128, 3) := by decide +kernel
theorem d4_35 : decode prog_11_method_1_code 35 = .ok (.newarray .long, 2) := by decide +kernel
theorem d4_37 : decode prog_11_method_1_code 37 = .ok (.putfield 19, 3) := by decide +kernel
theorem d4_40 : decode prog_11_method_1_code 40 = .ok (.aload_n 0, 1) := by decide +kernel
theorem d4_41 : decode prog_11_method_1_code 41 = .ok (.sipush 128, 3) := by decide +kernel
theorem d4_44 : decode prog_11_method_1_code 44 = .ok (.newarray .long, 2) := by decide +kernel
theorem d4_46 : decode prog_11_method_1_code 46 = .ok (.putfield 23, 3) := by decide +kernel
theorem d4_49 : decode prog_11_method_1_code 49 = .ok (.aload_n 0, 1) := by decide +kernel
theorem d4_50 : decode prog_11_method_1_code 50 = .ok (.lload_n 1, 1) := by decide +kernel
theorem d4_51 : decode prog_11_method_1_code 51 = .ok (.putfield 26, 3) := by decide +kernel
theorem d4_54 : decode prog_11_method_1_code 54 = .ok (.aload_n 0, 1) := by decide +kernel
theorem d4_55 : decode prog_11_method_1_code 55 = .ok (.iload_n 3, 1) := by decide +kernel
theorem d4_56 : decode prog_11_method_1_code 56 = .ok (.putfield 30, 3) := by decide +kernel
theorem d4_59 : decode prog_11_method_1_code 59 = .ok (.aload_n 0, 1) := by decide +kernel
theorem d4_60 : decode prog_11_method_1_code 60 = .ok (.lload 4, 2) := by decide +kernel
theorem d4_62 : decode prog_11_method_1_code 62 = .ok (.putfield 34, 3) := by decide +kernel
theorem d4_65 : decode prog_11_method_1_code 65 = .ok (.return_, 1) := by decide +kernel
theorem pn4 : plainFor (⟨"com/example/credence/credence/oauth1/HeavyHitters", "<init>", "(JIJ)V"⟩ : MethodName) = true := plainFor_of_name (by first | (simp [plainName, overriddenIn]; done) | decide +kernel)
theorem ef_rmHH (m : MethodId) (x0 : Addr) (x1 : Int64) (x2 : Int32) (x3 : Int64) : entryFrame m #[(.ref x0), (.long x1), (.int x2), (.long x3)] 6 = mkF m 0 #[.val (.ref x0), .val (.long x1), .second, .val (.int x2), .val (.long x3), .second] [] := by first | (simp [entryFrame, mkF, argsToLocals, Value.category]; done) | rfl
set_option maxRecDepth 65536 in
set_option maxHeartbeats 40000000 in
theorem rmHH {l : Launch} {Z : State} {a0 : Array Value} (hw : ∀ d ∈ tables_1, d.before a0 Z = true) (a : Addr) (q1 : Int64) (p1 : Int32) (q2 : Int64) (h0 : Heap) (n0 : Nat) (Z0 : n0 ≤ h0.size) (g_a : n0 ≤ a) (E_a : Exa Z h0 a "com/example/credence/credence/oauth1/HeavyHitters") (F_clients_a : Fld Z h0 a "com/example/credence/credence/oauth1/HeavyHitters" "clients" "[I" .null) (F_counts_a : Fld Z h0 a "com/example/credence/credence/oauth1/HeavyHitters" "counts" "[I" .null) (F_grouped_a : Fld Z h0 a "com/example/credence/credence/oauth1/HeavyHitters" "grouped" "[I" .null) (F_groupedFirsts_a : Fld Z h0 a "com/example/credence/credence/oauth1/HeavyHitters" "groupedFirsts" "[J" .null) (F_groupedLasts_a : Fld Z h0 a "com/example/credence/credence/oauth1/HeavyHitters" "groupedLasts" "[J" .null) (F_halfLife_a : Fld Z h0 a "com/example/credence/credence/oauth1/HeavyHitters" "halfLife" "J" (.long (0 : Int64))) (F_most_a : Fld Z h0 a "com/example/credence/credence/oauth1/HeavyHitters" "most" "I" (.int (0 : Int32))) (F_halvedAt_a : Fld Z h0 a "com/example/credence/credence/oauth1/HeavyHitters" "halvedAt" "J" (.long (0 : Int64))) :
    Met l Z (⟨"com/example/credence/credence/oauth1/HeavyHitters", "<init>", "(JIJ)V"⟩ : MethodName) prog_11_method_1_code 6 none [] ({ frames := 1, cells := 5, slots := 640, locals := 12 } : Room) #[(.ref a), (.long q1), (.int p1), (.long q2)] h0 (fun v h L => v = none ∧ Fr n0 L ∧ Keep h0 h [a]) := by
  refine Met.mk pn4 ?_
  intro p e s m below meth c T hx hby hml hown hnm hret hlk hZ X eT
  refine Go.cast (ef_rmHH m a q1 p1 q2) ?_
  have N := Fr.nil n0
  have K := Keep.refl h0 [a]
  show Go p e below s _ _ T (mkF m 0 #[.val (.ref a), .val (.long q1), .second, .val (.int p1), .val (.long q2), .second] [])
  refine Go.of (fun _ kq => XS.aloadN X.here hx rfl (hb hby d4_0) rfl rfl kq) ?_
  show Go p e below s _ _ T (mkF m 1 #[.val (.ref a), .val (.long q1), .second, .val (.int p1), .val (.long q2), .second] [(.ref a)])
  refine Go.initO X hx hZ hown (hw _ (List.mem_of_getElem? (i := 41) rfl)) (hw _ (List.mem_of_getElem? (i := 7) rfl)) (hw _ (List.mem_of_getElem? (i := 8) rfl)) eT (by rw [hml]; rfl) (hb hby d4_1) (by decide) 0 (Nat.le_of_eq rfl) (by decide) ?_
  intro T X eT
  show Go p e below s _ _ T (mkF m 4 #[.val (.ref a), .val (.long q1), .second, .val (.int p1), .val (.long q2), .second] [])
  refine Go.of (fun _ kq => XS.aloadN X.here hx rfl (hb hby d4_4) rfl rfl kq) ?_
  show Go p e below s _ _ T (mkF m 5 #[.val (.ref a), .val (.long q1), .second, .val (.int p1), .val (.long q2), .second] [(.ref a)])
  refine Go.of (fun _ kq => XS.sipush X.here hx rfl (hb hby d4_5) kq) ?_
  show Go p e below s _ _ T (mkF m 8 #[.val (.ref a), .val (.long q1), .second, .val (.int p1), .val (.long q2), .second] [(.int (128 : Int32)), (.ref a)])
  refine Go.newP X hx hZ (hw _ (List.mem_of_getElem? (i := 9) rfl)) eT (hb hby d4_8) (by decide) 128 (by decide) (by decide) (by decide) (by decide) ?_
  intro T h b8 X eT E ha V_b8
  have ne_a_b8 : a ≠ b8 := by rw [ha]; exact Nat.ne_of_lt E_a.lt
  have z_b8 : h0.size ≤ b8 := by rw [ha]; exact K.1
  have g_b8 : n0 ≤ b8 := Nat.le_trans Z0 z_b8
  have K := K.ext E
  have E_a := E_a.ext E
  have F_clients_a := F_clients_a.ext E
  have F_counts_a := F_counts_a.ext E
  have F_grouped_a := F_grouped_a.ext E
  have F_groupedFirsts_a := F_groupedFirsts_a.ext E
  have F_groupedLasts_a := F_groupedLasts_a.ext E
  have F_halfLife_a := F_halfLife_a.ext E
  have F_most_a := F_most_a.ext E
  have F_halvedAt_a := F_halvedAt_a.ext E
  have V_b8 : AV Z h b8 .int 128 (fun _ => .int 0) := V_b8
  show Go p e below s _ _ T (mkF m 10 #[.val (.ref a), .val (.long q1), .second, .val (.int p1), .val (.long q2), .second] [(.ref b8), (.ref a)])
  refine Go.putF X hx hZ hown (hw _ (List.mem_of_getElem? (i := 42) rfl)) Via.refl eT F_clients_a E_a (Or.inr ⟨(hw _ (List.mem_of_getElem? (i := 43) rfl)), rfl, hnm⟩) (hw _ (List.mem_of_getElem? (i := 36) rfl)) (ty := (.array .int)) (by decide) rfl rfl (hb hby d4_10) ?_
  intro T h X eT wr
  have N := Fr.snoc X N g_a
  have K := K.wr wr (Or.inl (List.mem_of_getElem? (i := 0) rfl))
  have E_a := E_a.wr wr
  have F_clients_a := F_clients_a.same wr
  have F_counts_a := F_counts_a.other wr (Or.inr (slot_ne (Or.inr (hw _ (List.mem_of_getElem? (i := 45) rfl))) (Or.inr (hw _ (List.mem_of_getElem? (i := 43) rfl))) (by decide) (t := (.array .int)) (t' := (.array .int)) (by decide) (by decide)))
  have F_grouped_a := F_grouped_a.other wr (Or.inr (slot_ne (Or.inr (hw _ (List.mem_of_getElem? (i := 47) rfl))) (Or.inr (hw _ (List.mem_of_getElem? (i := 43) rfl))) (by decide) (t := (.array .int)) (t' := (.array .int)) (by decide) (by decide)))
  have F_groupedFirsts_a := F_groupedFirsts_a.other wr (Or.inr (slot_ne (Or.inr (hw _ (List.mem_of_getElem? (i := 49) rfl))) (Or.inr (hw _ (List.mem_of_getElem? (i := 43) rfl))) (by decide) (t := (.array .long)) (t' := (.array .int)) (by decide) (by decide)))
  have F_groupedLasts_a := F_groupedLasts_a.other wr (Or.inr (slot_ne (Or.inr (hw _ (List.mem_of_getElem? (i := 51) rfl))) (Or.inr (hw _ (List.mem_of_getElem? (i := 43) rfl))) (by decide) (t := (.array .long)) (t' := (.array .int)) (by decide) (by decide)))
  have F_halfLife_a := F_halfLife_a.other wr (Or.inr (slot_ne (Or.inr (hw _ (List.mem_of_getElem? (i := 53) rfl))) (Or.inr (hw _ (List.mem_of_getElem? (i := 43) rfl))) (by decide) (t := .long) (t' := (.array .int)) (by decide) (by decide)))
  have F_most_a := F_most_a.other wr (Or.inr (slot_ne (Or.inr (hw _ (List.mem_of_getElem? (i := 55) rfl))) (Or.inr (hw _ (List.mem_of_getElem? (i := 43) rfl))) (by decide) (t := .int) (t' := (.array .int)) (by decide) (by decide)))
  have F_halvedAt_a := F_halvedAt_a.other wr (Or.inr (slot_ne (Or.inl (hw _ (List.mem_of_getElem? (i := 57) rfl))) (Or.inr (hw _ (List.mem_of_getElem? (i := 43) rfl))) (by decide) (t := .long) (t' := (.array .int)) (by decide) (by decide)))
  have V_b8 := V_b8.other wr (Ne.symm ne_a_b8)
  show Go p e below s _ _ T (mkF m 13 #[.val (.ref a), .val (.long q1), .second, .val (.int p1), .val (.long q2), .second] [])
  refine Go.of (fun _ kq => XS.aloadN X.here hx rfl (hb hby d4_13) rfl rfl kq) ?_
  show Go p e below s _ _ T (mkF m 14 #[.val (.ref a), .val (.long q1), .second, .val (.int p1), .val (.long q2), .second] [(.ref a)])
  refine Go.of (fun _ kq => XS.sipush X.here hx rfl (hb hby d4_14) kq) ?_
  show Go p e below s _ _ T (mkF m 17 #[.val (.ref a), .val (.long q1), .second, .val (.int p1), .val (.long q2), .second] [(.int (128 : Int32)), (.ref a)])
  refine Go.newP X hx hZ (hw _ (List.mem_of_getElem? (i := 9) rfl)) eT (hb hby d4_17) (by decide) 128 (by decide) (by decide) (by decide) (by decide) ?_
  intro T h b17 X eT E ha V_b17
  have ne_a_b17 : a ≠ b17 := by rw [ha]; exact Nat.ne_of_lt E_a.lt
  have z_b17 : h0.size ≤ b17 := by rw [ha]; exact K.1
  have g_b17 : n0 ≤ b17 := Nat.le_trans Z0 z_b17
  have K := K.ext E
  have E_a := E_a.ext E
  have F_counts_a := F_counts_a.ext E
  have F_grouped_a := F_grouped_a.ext E
  have F_groupedFirsts_a := F_groupedFirsts_a.ext E
  have F_groupedLasts_a := F_groupedLasts_a.ext E
  have F_halfLife_a := F_halfLife_a.ext E
  have F_most_a := F_most_a.ext E
  have F_halvedAt_a := F_halvedAt_a.ext E
  have V_b17 : AV Z h b17 .int 128 (fun _ => .int 0) := V_b17
  show Go p e below s _ _ T (mkF m 19 #[.val (.ref a), .val (.long q1), .second, .val (.int p1), .val (.long q2), .second] [(.ref b17), (.ref a)])
  refine Go.putF X hx hZ hown (hw _ (List.mem_of_getElem? (i := 44) rfl)) Via.refl eT F_counts_a E_a (Or.inr ⟨(hw _ (List.mem_of_getElem? (i := 45) rfl)), rfl, hnm⟩) (hw _ (List.mem_of_getElem? (i := 36) rfl)) (ty := (.array .int)) (by decide) rfl rfl (hb hby d4_19) ?_
  intro T h X eT wr
  have N := Fr.snoc X N g_a
  have K := K.wr wr (Or.inl (List.mem_of_getElem? (i := 0) rfl))
  have E_a := E_a.wr wr
  have F_counts_a := F_counts_a.same wr
  have F_grouped_a := F_grouped_a.other wr (Or.inr (slot_ne (Or.inr (hw _ (List.mem_of_getElem? (i := 47) rfl))) (Or.inr (hw _ (List.mem_of_getElem? (i := 45) rfl))) (by decide) (t := (.array .int)) (t' := (.array .int)) (by decide) (by decide)))
  have F_groupedFirsts_a := F_groupedFirsts_a.other wr (Or.inr (slot_ne (Or.inr (hw _ (List.mem_of_getElem? (i := 49) rfl))) (Or.inr (hw _ (List.mem_of_getElem? (i := 45) rfl))) (by decide) (t := (.array .long)) (t' := (.array .int)) (by decide) (by decide)))
  have F_groupedLasts_a := F_groupedLasts_a.other wr (Or.inr (slot_ne (Or.inr (hw _ (List.mem_of_getElem? (i := 51) rfl))) (Or.inr (hw _ (List.mem_of_getElem? (i := 45) rfl))) (by decide) (t := (.array .long)) (t' := (.array .int)) (by decide) (by decide)))
  have F_halfLife_a := F_halfLife_a.other wr (Or.inr (slot_ne (Or.inr (hw _ (List.mem_of_getElem? (i := 53) rfl))) (Or.inr (hw _ (List.mem_of_getElem? (i := 45) rfl))) (by decide) (t := .long) (t' := (.array .int)) (by decide) (by decide)))
  have F_most_a := F_most_a.other wr (Or.inr (slot_ne (Or.inr (hw _ (List.mem_of_getElem? (i := 55) rfl))) (Or.inr (hw _ (List.mem_of_getElem? (i := 45) rfl))) (by decide) (t := .int) (t' := (.array .int)) (by decide) (by decide)))
  have F_halvedAt_a := F_halvedAt_a.other wr (Or.inr (slot_ne (Or.inl (hw _ (List.mem_of_getElem? (i := 57) rfl))) (Or.inr (hw _ (List.mem_of_getElem? (i := 45) rfl))) (by decide) (t := .long) (t' := (.array .int)) (by decide) (by decide)))
  have V_b17 := V_b17.other wr (Ne.symm ne_a_b17)
  show Go p e below s _ _ T (mkF m 22 #[.val (.ref a), .val (.long q1), .second, .val (.int p1), .val (.long q2), .second] [])
  refine Go.of (fun _ kq => XS.aloadN X.here hx rfl (hb hby d4_22) rfl rfl kq) ?_
  show Go p e below s _ _ T (mkF m 23 #[.val (.ref a), .val (.long q1), .second, .val (.int p1), .val (.long q2), .second] [(.ref a)])
  refine Go.of (fun _ kq => XS.sipush X.here hx rfl (hb hby d4_23) kq) ?_
  show Go p e below s _ _ T (mkF m 26 #[.val (.ref a), .val (.long q1), .second, .val (.int p1), .val (.long q2), .second] [(.int (128 : Int32)), (.ref a)])
  refine Go.newP X hx hZ (hw _ (List.mem_of_getElem? (i := 9) rfl)) eT (hb hby d4_26) (by decide) 128 (by decide) (by decide) (by decide) (by decide) ?_
  intro T h b26 X eT E ha V_b26
  have ne_a_b26 : a ≠ b26 := by rw [ha]; exact Nat.ne_of_lt E_a.lt
  have z_b26 : h0.size ≤ b26 := by rw [ha]; exact K.1
  have g_b26 : n0 ≤ b26 := Nat.le_trans Z0 z_b26
  have K := K.ext E
  have E_a := E_a.ext E
  have F_grouped_a := F_grouped_a.ext E
  have F_groupedFirsts_a := F_groupedFirsts_a.ext E
  have F_groupedLasts_a := F_groupedLasts_a.ext E
  have F_halfLife_a := F_halfLife_a.ext E
  have F_most_a := F_most_a.ext E
  have F_halvedAt_a := F_halvedAt_a.ext E
  have V_b26 : AV Z h b26 .int 128 (fun _ => .int 0) := V_b26
  show Go p e below s _ _ T (mkF m 28 #[.val (.ref a), .val (.long q1), .second, .val (.int p1), .val (.long q2), .second] [(.ref b26), (.ref a)])
  refine Go.putF X hx hZ hown (hw _ (List.mem_of_getElem? (i := 46) rfl)) Via.refl eT F_grouped_a E_a (Or.inr ⟨(hw _ (List.mem_of_getElem? (i := 47) rfl)), rfl, hnm⟩) (hw _ (List.mem_of_getElem? (i := 36) rfl)) (ty := (.array .int)) (by decide) rfl rfl (hb hby d4_28) ?_
  intro T h X eT wr
  have N := Fr.snoc X N g_a
  have K := K.wr wr (Or.inl (List.mem_of_getElem? (i := 0) rfl))
  have E_a := E_a.wr wr
  have F_grouped_a := F_grouped_a.same wr
  have F_groupedFirsts_a := F_groupedFirsts_a.other wr (Or.inr (slot_ne (Or.inr (hw _ (List.mem_of_getElem? (i := 49) rfl))) (Or.inr (hw _ (List.mem_of_getElem? (i := 47) rfl))) (by decide) (t := (.array .long)) (t' := (.array .int)) (by decide) (by decide)))
  have F_groupedLasts_a := F_groupedLasts_a.other wr (Or.inr (slot_ne (Or.inr (hw _ (List.mem_of_getElem? (i := 51) rfl))) (Or.inr (hw _ (List.mem_of_getElem? (i := 47) rfl))) (by decide) (t := (.array .long)) (t' := (.array .int)) (by decide) (by decide)))
  have F_halfLife_a := F_halfLife_a.other wr (Or.inr (slot_ne (Or.inr (hw _ (List.mem_of_getElem? (i := 53) rfl))) (Or.inr (hw _ (List.mem_of_getElem? (i := 47) rfl))) (by decide) (t := .long) (t' := (.array .int)) (by decide) (by decide)))
  have F_most_a := F_most_a.other wr (Or.inr (slot_ne (Or.inr (hw _ (List.mem_of_getElem? (i := 55) rfl))) (Or.inr (hw _ (List.mem_of_getElem? (i := 47) rfl))) (by decide) (t := .int) (t' := (.array .int)) (by decide) (by decide)))
  have F_halvedAt_a := F_halvedAt_a.other wr (Or.inr (slot_ne (Or.inl (hw _ (List.mem_of_getElem? (i := 57) rfl))) (Or.inr (hw _ (List.mem_of_getElem? (i := 47) rfl))) (by decide) (t := .long) (t' := (.array .int)) (by decide) (by decide)))
  have V_b26 := V_b26.other wr (Ne.symm ne_a_b26)
  show Go p e below s _ _ T (mkF m 31 #[.val (.ref a), .val (.long q1), .second, .val (.int p1), .val (.long q2), .second] [])
  refine Go.of (fun _ kq => XS.aloadN X.here hx rfl (hb hby d4_31) rfl rfl kq) ?_
  show Go p e below s _ _ T (mkF m 32 #[.val (.ref a), .val (.long q1), .second, .val (.int p1), .val (.long q2), .second] [(.ref a)])
  refine Go.of (fun _ kq => XS.sipush X.here hx rfl (hb hby d4_32) kq) ?_
  show Go p e below s _ _ T (mkF m 35 #[.val (.ref a), .val (.long q1), .second, .val (.int p1), .val (.long q2), .second] [(.int (128 : Int32)), (.ref a)])
  refine Go.newP X hx hZ (hw _ (List.mem_of_getElem? (i := 22) rfl)) eT (hb hby d4_35) (by decide) 128 (by decide) (by decide) (by decide) (by decide) ?_
  intro T h b35 X eT E ha V_b35
  have ne_a_b35 : a ≠ b35 := by rw [ha]; exact Nat.ne_of_lt E_a.lt
  have z_b35 : h0.size ≤ b35 := by rw [ha]; exact K.1
  have g_b35 : n0 ≤ b35 := Nat.le_trans Z0 z_b35
  have K := K.ext E
  have E_a := E_a.ext E
  have F_groupedFirsts_a := F_groupedFirsts_a.ext E
  have F_groupedLasts_a := F_groupedLasts_a.ext E
  have F_halfLife_a := F_halfLife_a.ext E
  have F_most_a := F_most_a.ext E
  have F_halvedAt_a := F_halvedAt_a.ext E
  have V_b35 : AV Z h b35 .long 128 (fun _ => .long 0) := V_b35
  show Go p e below s _ _ T (mkF m 37 #[.val (.ref a), .val (.long q1), .second, .val (.int p1), .val (.long q2), .second] [(.ref b35), (.ref a)])
  refine Go.putF X hx hZ hown (hw _ (List.mem_of_getElem? (i := 48) rfl)) Via.refl eT F_groupedFirsts_a E_a (Or.inr ⟨(hw _ (List.mem_of_getElem? (i := 49) rfl)), rfl, hnm⟩) (hw _ (List.mem_of_getElem? (i := 36) rfl)) (ty := (.array .long)) (by decide) rfl rfl (hb hby d4_37) ?_
  intro T h X eT wr
  have N := Fr.snoc X N g_a
  have K := K.wr wr (Or.inl (List.mem_of_getElem? (i := 0) rfl))
  have E_a := E_a.wr wr
  have F_groupedFirsts_a := F_groupedFirsts_a.same wr
  have F_groupedLasts_a := F_groupedLasts_a.other wr (Or.inr (slot_ne (Or.inr (hw _ (List.mem_of_getElem? (i := 51) rfl))) (Or.inr (hw _ (List.mem_of_getElem? (i := 49) rfl))) (by decide) (t := (.array .long)) (t' := (.array .long)) (by decide) (by decide)))
  have F_halfLife_a := F_halfLife_a.other wr (Or.inr (slot_ne (Or.inr (hw _ (List.mem_of_getElem? (i := 53) rfl))) (Or.inr (hw _ (List.mem_of_getElem? (i := 49) rfl))) (by decide) (t := .long) (t' := (.array .long)) (by decide) (by decide)))
  have F_most_a := F_most_a.other wr (Or.inr (slot_ne (Or.inr (hw _ (List.mem_of_getElem? (i := 55) rfl))) (Or.inr (hw _ (List.mem_of_getElem? (i := 49) rfl))) (by decide) (t := .int) (t' := (.array .long)) (by decide) (by decide)))
  have F_halvedAt_a := F_halvedAt_a.other wr (Or.inr (slot_ne (Or.inl (hw _ (List.mem_of_getElem? (i := 57) rfl))) (Or.inr (hw _ (List.mem_of_getElem? (i := 49) rfl))) (by decide) (t := .long) (t' := (.array .long)) (by decide) (by decide)))
  have V_b35 := V_b35.other wr (Ne.symm ne_a_b35)
  show Go p e below s _ _ T (mkF m 40 #[.val (.ref a), .val (.long q1), .second, .val (.int p1), .val (.long q2), .second] [])
  refine Go.of (fun _ kq => XS.aloadN X.here hx rfl (hb hby d4_40) rfl rfl kq) ?_
  show Go p e below s _ _ T (mkF m 41 #[.val (.ref a), .val (.long q1), .second, .val (.int p1), .val (.long q2), .second] [(.ref a)])
  refine Go.of (fun _ kq => XS.sipush X.here hx rfl (hb hby d4_41) kq) ?_
  show Go p e below s _ _ T (mkF m 44 #[.val (.ref a), .val (.long q1), .second, .val (.int p1), .val (.long q2), .second] [(.int (128 : Int32)), (.ref a)])
  refine Go.newP X hx hZ (hw _ (List.mem_of_getElem? (i := 22) rfl)) eT (hb hby d4_44) (by decide) 128 (by decide) (by decide) (by decide) (by decide) ?_
  intro T h b44 X eT E ha V_b44
  have ne_a_b44 : a ≠ b44 := by rw [ha]; exact Nat.ne_of_lt E_a.lt
  have z_b44 : h0.size ≤ b44 := by rw [ha]; exact K.1
  have g_b44 : n0 ≤ b44 := Nat.le_trans Z0 z_b44
  have K := K.ext E
  have E_a := E_a.ext E
  have F_groupedLasts_a := F_groupedLasts_a.ext E
  have F_halfLife_a := F_halfLife_a.ext E
  have F_most_a := F_most_a.ext E
  have F_halvedAt_a := F_halvedAt_a.ext E
  have V_b44 : AV Z h b44 .long 128 (fun _ => .long 0) := V_b44
  show Go p e below s _ _ T (mkF m 46 #[.val (.ref a), .val (.long q1), .second, .val (.int p1), .val (.long q2), .second] [(.ref b44), (.ref a)])
  refine Go.putF X hx hZ hown (hw _ (List.mem_of_getElem? (i := 50) rfl)) Via.refl eT F_groupedLasts_a E_a (Or.inr ⟨(hw _ (List.mem_of_getElem? (i := 51) rfl)), rfl, hnm⟩) (hw _ (List.mem_of_getElem? (i := 36) rfl)) (ty := (.array .long)) (by decide) rfl rfl (hb hby d4_46) ?_
  intro T h X eT wr
  have N := Fr.snoc X N g_a
  have K := K.wr wr (Or.inl (List.mem_of_getElem? (i := 0) rfl))
  have E_a := E_a.wr wr
  have F_groupedLasts_a := F_groupedLasts_a.same wr
  have F_halfLife_a := F_halfLife_a.other wr (Or.inr (slot_ne (Or.inr (hw _ (List.mem_of_getElem? (i := 53) rfl))) (Or.inr (hw _ (List.mem_of_getElem? (i := 51) rfl))) (by decide) (t := .long) (t' := (.array .long)) (by decide) (by decide)))
  have F_most_a := F_most_a.other wr (Or.inr (slot_ne (Or.inr (hw _ (List.mem_of_getElem? (i := 55) rfl))) (Or.inr (hw _ (List.mem_of_getElem? (i := 51) rfl))) (by decide) (t := .int) (t' := (.array .long)) (by decide) (by decide)))
  have F_halvedAt_a := F_halvedAt_a.other wr (Or.inr (slot_ne (Or.inl (hw _ (List.mem_of_getElem? (i := 57) rfl))) (Or.inr (hw _ (List.mem_of_getElem? (i := 51) rfl))) (by decide) (t := .long) (t' := (.array .long)) (by decide) (by decide)))
  have V_b44 := V_b44.other wr (Ne.symm ne_a_b44)
  show Go p e below s _ _ T (mkF m 49 #[.val (.ref a), .val (.long q1), .second, .val (.int p1), .val (.long q2), .second] [])
  refine Go.of (fun _ kq => XS.aloadN X.here hx rfl (hb hby d4_49) rfl rfl kq) ?_
  show Go p e below s _ _ T (mkF m 50 #[.val (.ref a), .val (.long q1), .second, .val (.int p1), .val (.long q2), .second] [(.ref a)])
  refine Go.of (fun _ kq => XS.lloadN X.here hx rfl (hb hby d4_50) rfl kq) ?_
  show Go p e below s _ _ T (mkF m 51 #[.val (.ref a), .val (.long q1), .second, .val (.int p1), .val (.long q2), .second] [(.long q1), (.ref a)])
  refine Go.putF X hx hZ hown (hw _ (List.mem_of_getElem? (i := 52) rfl)) Via.refl eT F_halfLife_a E_a (Or.inr ⟨(hw _ (List.mem_of_getElem? (i := 53) rfl)), rfl, hnm⟩) (hw _ (List.mem_of_getElem? (i := 36) rfl)) (ty := .long) (by decide) rfl rfl (hb hby d4_51) ?_
  intro T h X eT wr
  have N := Fr.snoc X N g_a
  have K := K.wr wr (Or.inl (List.mem_of_getElem? (i := 0) rfl))
  have E_a := E_a.wr wr
  have F_halfLife_a := F_halfLife_a.same wr
  have F_most_a := F_most_a.other wr (Or.inr (slot_ne (Or.inr (hw _ (List.mem_of_getElem? (i := 55) rfl))) (Or.inr (hw _ (List.mem_of_getElem? (i := 53) rfl))) (by decide) (t := .int) (t' := .long) (by decide) (by decide)))
  have F_halvedAt_a := F_halvedAt_a.other wr (Or.inr (slot_ne (Or.inl (hw _ (List.mem_of_getElem? (i := 57) rfl))) (Or.inr (hw _ (List.mem_of_getElem? (i := 53) rfl))) (by decide) (t := .long) (t' := .long) (by decide) (by decide)))
  show Go p e below s _ _ T (mkF m 54 #[.val (.ref a), .val (.long q1), .second, .val (.int p1), .val (.long q2), .second] [])
  refine Go.of (fun _ kq => XS.aloadN X.here hx rfl (hb hby d4_54) rfl rfl kq) ?_
  show Go p e below s _ _ T (mkF m 55 #[.val (.ref a), .val (.long q1), .second, .val (.int p1), .val (.long q2), .second] [(.ref a)])
  refine Go.of (fun _ kq => XS.iloadN X.here hx rfl (hb hby d4_55) rfl kq) ?_
  show Go p e below s _ _ T (mkF m 56 #[.val (.ref a), .val (.long q1), .second, .val (.int p1), .val (.long q2), .second] [(.int p1), (.ref a)])
  refine Go.putF X hx hZ hown (hw _ (List.mem_of_getElem? (i := 54) rfl)) Via.refl eT F_most_a E_a (Or.inr ⟨(hw _ (List.mem_of_getElem? (i := 55) rfl)), rfl, hnm⟩) (hw _ (List.mem_of_getElem? (i := 36) rfl)) (ty := .int) (by decide) rfl rfl (hb hby d4_56) ?_
  intro T h X eT wr
  have N := Fr.snoc X N g_a
  have K := K.wr wr (Or.inl (List.mem_of_getElem? (i := 0) rfl))
  have E_a := E_a.wr wr
  have F_most_a := F_most_a.same wr
  have F_halvedAt_a := F_halvedAt_a.other wr (Or.inr (slot_ne (Or.inl (hw _ (List.mem_of_getElem? (i := 57) rfl))) (Or.inr (hw _ (List.mem_of_getElem? (i := 55) rfl))) (by decide) (t := .long) (t' := .int) (by decide) (by decide)))
  show Go p e below s _ _ T (mkF m 59 #[.val (.ref a), .val (.long q1), .second, .val (.int p1), .val (.long q2), .second] [])
  refine Go.of (fun _ kq => XS.aloadN X.here hx rfl (hb hby d4_59) rfl rfl kq) ?_
  show Go p e below s _ _ T (mkF m 60 #[.val (.ref a), .val (.long q1), .second, .val (.int p1), .val (.long q2), .second] [(.ref a)])
  refine Go.of (fun _ kq => XS.lload X.here hx rfl (hb hby d4_60) rfl kq) ?_
  show Go p e below s _ _ T (mkF m 62 #[.val (.ref a), .val (.long q1), .second, .val (.int p1), .val (.long q2), .second] [(.long q2), (.ref a)])
  refine Go.putF X hx hZ hown (hw _ (List.mem_of_getElem? (i := 56) rfl)) Via.refl eT F_halvedAt_a E_a (Or.inl (hw _ (List.mem_of_getElem? (i := 57) rfl))) (hw _ (List.mem_of_getElem? (i := 36) rfl)) (ty := .long) (by decide) rfl rfl (hb hby d4_62) ?_
  intro T h X eT wr
  have N := Fr.snoc X N g_a
  have K := K.wr wr (Or.inl (List.mem_of_getElem? (i := 0) rfl))
  have E_a := E_a.wr wr
  have F_halvedAt_a := F_halvedAt_a.same wr
  show Go p e below s _ _ T (mkF m 65 #[.val (.ref a), .val (.long q1), .second, .val (.int p1), .val (.long q2), .second] [])
  refine Go.retV X hx hret hlk (hb hby d4_65) (by decide) (by decide) ?_
  try rw [eT]
  exact ⟨rfl, N, K⟩
theorem d1_0 : decode prog_14_method_1_code 0 = .ok (.aload_n 0, 1) := by decide +kernel
theorem d1_1 : decode prog_14_method_1_code 1 = .ok (.invokespecial 7, 3) := by decide +kernel
theorem d1_4 : decode prog_14_method_1_code 4 = .ok (.aload_n 0, 1) := by decide +kernel
theorem d1_5 : decode prog_14_method_1_code 5 = .ok (.bipush 64, 2) := by decide +kernel
theorem d1_7 : decode prog_14_method_1_code 7 = .ok (.newarray .int, 2) := by decide +kernel
theorem d1_9 : decode prog_14_method_1_code 9 = .ok (.putfield 13, 3) := by decide +kernel
theorem d1_12 : decode prog_14_method_1_code 12 = .ok (.aload_n 0, 1) := by decide +kernel
theorem d1_13 : decode prog_14_method_1_code 13 = .ok (.sipush 4096, 3) := by decide +kernel
theorem d1_16 : decode prog_14_method_1_code 16 = .ok (.newarray .int, 2) := by decide +kernel
theorem d1_18 : decode prog_14_method_1_code 18 = .ok (.putfield 17, 3) := by decide +kernel
theorem d1_21 : decode prog_14_method_1_code 21 = .ok (.aload_n 0, 1) := by decide +kernel
theorem d1_22 : decode prog_14_method_1_code 22 = .ok (.sipush 128, 3) := by decide +kernel
theorem d1_25 : decode prog_14_method_1_code 25 = .ok (.newarray .int, 2) := by decide +kernel
theorem d1_27 : decode prog_14_method_1_code 27 = .ok (.putfield 22, 3) := by decide +kernel
theorem d1_30 : decode prog_14_method_1_code 30 = .ok (.aload_n 0, 1) := by decide +kernel
theorem d1_31 : decode prog_14_method_1_code 31 = .ok (.sipush 128, 3) := by decide +kernel
theorem d1_34 : decode prog_14_method_1_code 34 = .ok (.newarray .int, 2) := by decide +kernel
theorem d1_36 : decode prog_14_method_1_code 36 = .ok (.putfield 25, 3) := by decide +kernel
theorem d1_39 : decode prog_14_method_1_code 39 = .ok (.aload_n 0, 1) := by decide +kernel
theorem d1_40 : decode prog_14_method_1_code 40 = .ok (.sipush 128, 3) := by decide +kernel
theorem d1_43 : decode prog_14_method_1_code 43 = .ok (.newarray .int, 2) := by decide +kernel
theorem d1_45 : decode prog_14_method_1_code 45 = .ok (.putfield 28, 3) := by decide +kernel
theorem d1_48 : decode prog_14_method_1_code 48 = .ok (.aload_n 0, 1) := by decide +kernel
theorem d1_49 : decode prog_14_method_1_code 49 = .ok (.sipush 128, 3) := by decide +kernel
theorem d1_52 : decode prog_14_method_1_code 52 = .ok (.newarray .int, 2) := by decide +kernel
theorem d1_54 : decode prog_14_method_1_code 54 = .ok (.putfield 31, 3) := by decide +kernel
theorem d1_57 : decode prog_14_method_1_code 57 = .ok (.aload_n 0, 1) := by decide +kernel
theorem d1_58 : decode prog_14_method_1_code 58 = .ok (.sipush 4096, 3) := by decide +kernel
theorem d1_61 : decode prog_14_method_1_code 61 = .ok (.newarray .long, 2) := by decide +kernel
theorem d1_63 : decode prog_14_method_1_code 63 = .ok (.putfield 34, 3) := by decide +kernel
theorem d1_66 : decode prog_14_method_1_code 66 = .ok (.aload_n 0, 1) := by decide +kernel
theorem d1_67 : decode prog_14_method_1_code 67 = .ok (.sipush 4096, 3) := by decide +kernel
theorem d1_70 : decode prog_14_method_1_code 70 = .ok (.newarray .long, 2) := by decide +kernel
theorem d1_72 : decode prog_14_method_1_code 72 = .ok (.putfield 38, 3) := by decide +kernel
theorem d1_75 : decode prog_14_method_1_code 75 = .ok (.aload_n 0, 1) := by decide +kernel
theorem d1_76 : decode prog_14_method_1_code 76 = .ok (.iload_n 1, 1) := by decide +kernel
theorem d1_77 : decode prog_14_method_1_code 77 = .ok (.putfield 41, 3) := by decide +kernel
theorem d1_80 : decode prog_14_method_1_code 80 = .ok (.aload_n 0, 1) := by decide +kernel
theorem d1_81 : decode prog_14_method_1_code 81 = .ok (.iconst 1, 1) := by decide +kernel
theorem d1_82 : decode prog_14_method_1_code 82 = .ok (.iload_n 1, 1) := by decide +kernel
theorem d1_83 : decode prog_14_method_1_code 83 = .ok (.bipush 64, 2) := by decide +kernel
theorem d1_85 : decode prog_14_method_1_code 85 = .ok (.idiv, 1) := by decide +kernel
theorem d1_86 : decode prog_14_method_1_code 86 = .ok (.invokestatic 45, 3) := by decide +kernel
theorem d1_89 : decode prog_14_method_1_code 89 = .ok (.putfield 51, 3) := by decide +kernel
theorem d1_92 : decode prog_14_method_1_code 92 = .ok (.aload_n 0, 1) := by decide +kernel
theorem d1_93 : decode prog_14_method_1_code 93 = .ok (.new 20, 3) := by decide +kernel
theorem d1_96 : decode prog_14_method_1_code 96 = .ok (.dup, 1) := by decide +kernel
theorem d1_97 : decode prog_14_method_1_code 97 = .ok (.lload_n 2, 1) := by decide +kernel
theorem d1_98 : decode prog_14_method_1_code 98 = .ok (.iconst 2, 1) := by decide +kernel
theorem d1_99 : decode prog_14_method_1_code 99 = .ok (.aload_n 0, 1) := by decide +kernel
theorem d1_100 : decode prog_14_method_1_code 100 = .ok (.getfield 51, 3) := by decide +kernel
theorem d1_103 : decode prog_14_method_1_code 103 = .ok (.imul, 1) := by decide +kernel
theorem d1_104 : decode prog_14_method_1_code 104 = .ok (.lload 4, 2) := by decide +kernel
theorem d1_106 : decode prog_14_method_1_code 106 = .ok (.invokespecial 54, 3) := by decide +kernel
theorem d1_109 : decode prog_14_method_1_code 109 = .ok (.putfield 57, 3) := by decide +kernel
theorem d1_112 : decode prog_14_method_1_code 112 = .ok (.aload_n 0, 1) := by decide +kernel
theorem d1_113 : decode prog_14_method_1_code 113 = .ok (.getfield 34, 3) := by decide +kernel
theorem d1_116 : decode prog_14_method_1_code 116 = .ok (.ldc2_w 61, 3) := by decide +kernel
theorem d1_119 : decode prog_14_method_1_code 119 = .ok (.invokestatic 63, 3) := by decide +kernel
theorem d1_122 : decode prog_14_method_1_code 122 = .ok (.aload_n 0, 1) := by decide +kernel
theorem d1_123 : decode prog_14_method_1_code 123 = .ok (.getfield 38, 3) := by decide +kernel
theorem d1_126 : decode prog_14_method_1_code 126 = .ok (.ldc2_w 69, 3) := by decide +kernel
theorem d1_129 : decode prog_14_method_1_code 129 = .ok (.invokestatic 63, 3) := by decide +kernel
theorem d1_132 : decode prog_14_method_1_code 132 = .ok (.return_, 1) := by decide +kernel
theorem pn1 : plainFor (⟨"com/example/credence/credence/oauth1/Owners", "<init>", "(IJJ)V"⟩ : MethodName) = true := plainFor_of_name (by first | (simp [plainName, overriddenIn]; done) | decide +kernel)
theorem ef_rmOw (m : MethodId) (x0 : Addr) (x1 : Int32) (x2 : Int64) (x3 : Int64) : entryFrame m #[(.ref x0), (.int x1), (.long x2), (.long x3)] 6 = mkF m 0 #[.val (.ref x0), .val (.int x1), .val (.long x2), .second, .val (.long x3), .second] [] := by first | (simp [entryFrame, mkF, argsToLocals, Value.category]; done) | rfl
set_option maxRecDepth 65536 in
set_option maxHeartbeats 40000000 in
theorem rmOw {l : Launch} {Z : State} {a0 : Array Value} (hw : ∀ d ∈ tables_1, d.before a0 Z = true) (a : Addr) (p1 : Int32) (q1 q2 : Int64) (h0 : Heap) (n0 : Nat) (Z0 : n0 ≤ h0.size) (g_a : n0 ≤ a) (E_a : Exa Z h0 a "com/example/credence/credence/oauth1/Owners") (F_clients_a : Fld Z h0 a "com/example/credence/credence/oauth1/Owners" "clients" "[I" .null) (F_held_a : Fld Z h0 a "com/example/credence/credence/oauth1/Owners" "held" "[I" .null) (F_credited_a : Fld Z h0 a "com/example/credence/credence/oauth1/Owners" "credited" "[I" .null) (F_credits_a : Fld Z h0 a "com/example/credence/credence/oauth1/Owners" "credits" "[I" .null) (F_counted_a : Fld Z h0 a "com/example/credence/credence/oauth1/Owners" "counted" "[I" .null) (F_grouped_a : Fld Z h0 a "com/example/credence/credence/oauth1/Owners" "grouped" "[I" .null) (F_firsts_a : Fld Z h0 a "com/example/credence/credence/oauth1/Owners" "firsts" "[J" .null) (F_lasts_a : Fld Z h0 a "com/example/credence/credence/oauth1/Owners" "lasts" "[J" .null) (F_maxOfGroups_a : Fld Z h0 a "com/example/credence/credence/oauth1/Owners" "maxOfGroups" "I" (.int (0 : Int32))) (F_share_a : Fld Z h0 a "com/example/credence/credence/oauth1/Owners" "share" "I" (.int (0 : Int32))) (F_recent_a : Fld Z h0 a "com/example/credence/credence/oauth1/Owners" "recent" "Lcom/example/credence/credence/oauth1/HeavyHitters;" .null) (F_heldByClients_a : Fld Z h0 a "com/example/credence/credence/oauth1/Owners" "heldByClients" "I" (.int (0 : Int32))) (F_heldByGroups_a : Fld Z h0 a "com/example/credence/credence/oauth1/Owners" "heldByGroups" "I" (.int (0 : Int32))) :
    Met l Z (⟨"com/example/credence/credence/oauth1/Owners", "<init>", "(IJJ)V"⟩ : MethodName) prog_14_method_1_code 6 none [] ({ frames := 2, cells := 14, slots := 13512, locals := 31 } : Room) #[(.ref a), (.int p1), (.long q1), (.long q2)] h0 (fun v h L => v = none ∧ Fr n0 L ∧ Keep h0 h [a] ∧ ∃ d : Addr, h0.size ≤ d ∧ a ≠ d ∧ Fld Z h a "com/example/credence/credence/oauth1/Owners" "held" "[I" (.ref d) ∧ Fld Z h a "com/example/credence/credence/oauth1/Owners" "heldByClients" "I" (.int (0 : Int32)) ∧ Fld Z h a "com/example/credence/credence/oauth1/Owners" "heldByGroups" "I" (.int (0 : Int32)) ∧ AV Z h d .int 4096 (fun j => .int (own_H0 j))) := by
  refine Met.mk pn1 ?_
  intro p e s m below meth c T hx hby hml hown hnm hret hlk hZ X eT
  refine Go.cast (ef_rmOw m a p1 q1 q2) ?_
  have N := Fr.nil n0
  have K := Keep.refl h0 [a]
  show Go p e below s _ _ T (mkF m 0 #[.val (.ref a), .val (.int p1), .val (.long q1), .second, .val (.long q2), .second] [])
  refine Go.of (fun _ kq => XS.aloadN X.here hx rfl (hb hby d1_0) rfl rfl kq) ?_
  show Go p e below s _ _ T (mkF m 1 #[.val (.ref a), .val (.int p1), .val (.long q1), .second, .val (.long q2), .second] [(.ref a)])
  refine Go.initO X hx hZ hown (hw _ (List.mem_of_getElem? (i := 6) rfl)) (hw _ (List.mem_of_getElem? (i := 7) rfl)) (hw _ (List.mem_of_getElem? (i := 8) rfl)) eT (by rw [hml]; rfl) (hb hby d1_1) (by decide) 0 (Nat.le_of_eq rfl) (by decide) ?_
  intro T X eT
  show Go p e below s _ _ T (mkF m 4 #[.val (.ref a), .val (.int p1), .val (.long q1), .second, .val (.long q2), .second] [])
  refine Go.of (fun _ kq => XS.aloadN X.here hx rfl (hb hby d1_4) rfl rfl kq) ?_
  show Go p e below s _ _ T (mkF m 5 #[.val (.ref a), .val (.int p1), .val (.long q1), .second, .val (.long q2), .second] [(.ref a)])
  refine Go.of (fun _ kq => XS.bipush X.here hx rfl (hb hby d1_5) kq) ?_
  show Go p e below s _ _ T (mkF m 7 #[.val (.ref a), .val (.int p1), .val (.long q1), .second, .val (.long q2), .second] [(.int (64 : Int32)), (.ref a)])
  refine Go.newP X hx hZ (hw _ (List.mem_of_getElem? (i := 9) rfl)) eT (hb hby d1_7) (by decide) 64 (by decide) (by decide) (by decide) (by decide) ?_
  intro T h b7 X eT E ha V_b7
  have ne_a_b7 : a ≠ b7 := by rw [ha]; exact Nat.ne_of_lt E_a.lt
  have z_b7 : h0.size ≤ b7 := by rw [ha]; exact K.1
  have g_b7 : n0 ≤ b7 := Nat.le_trans Z0 z_b7
  have K := K.ext E
  have E_a := E_a.ext E
  have F_clients_a := F_clients_a.ext E
  have F_held_a := F_held_a.ext E
  have F_credited_a := F_credited_a.ext E
  have F_credits_a := F_credits_a.ext E
  have F_counted_a := F_counted_a.ext E
  have F_grouped_a := F_grouped_a.ext E
  have F_firsts_a := F_firsts_a.ext E
  have F_lasts_a := F_lasts_a.ext E
  have F_maxOfGroups_a := F_maxOfGroups_a.ext E
  have F_share_a := F_share_a.ext E
  have F_recent_a := F_recent_a.ext E
  have F_heldByClients_a := F_heldByClients_a.ext E
  have F_heldByGroups_a := F_heldByGroups_a.ext E
  have V_b7 : AV Z h b7 .int 64 (fun _ => .int 0) := V_b7
  show Go p e below s _ _ T (mkF m 9 #[.val (.ref a), .val (.int p1), .val (.long q1), .second, .val (.long q2), .second] [(.ref b7), (.ref a)])
  refine Go.putF X hx hZ hown (hw _ (List.mem_of_getElem? (i := 10) rfl)) Via.refl eT F_clients_a E_a (Or.inr ⟨(hw _ (List.mem_of_getElem? (i := 11) rfl)), rfl, hnm⟩) (hw _ (List.mem_of_getElem? (i := 1) rfl)) (ty := (.array .int)) (by decide) rfl rfl (hb hby d1_9) ?_
  intro T h X eT wr
  have N := Fr.snoc X N g_a
  have K := K.wr wr (Or.inl (List.mem_of_getElem? (i := 0) rfl))
  have E_a := E_a.wr wr
  have F_clients_a := F_clients_a.same wr
  have F_held_a := F_held_a.other wr (Or.inr (slot_ne (Or.inr (hw _ (List.mem_of_getElem? (i := 13) rfl))) (Or.inr (hw _ (List.mem_of_getElem? (i := 11) rfl))) (by decide) (t := (.array .int)) (t' := (.array .int)) (by decide) (by decide)))
  have F_credited_a := F_credited_a.other wr (Or.inr (slot_ne (Or.inr (hw _ (List.mem_of_getElem? (i := 15) rfl))) (Or.inr (hw _ (List.mem_of_getElem? (i := 11) rfl))) (by decide) (t := (.array .int)) (t' := (.array .int)) (by decide) (by decide)))
  have F_credits_a := F_credits_a.other wr (Or.inr (slot_ne (Or.inr (hw _ (List.mem_of_getElem? (i := 17) rfl))) (Or.inr (hw _ (List.mem_of_getElem? (i := 11) rfl))) (by decide) (t := (.array .int)) (t' := (.array .int)) (by decide) (by decide)))
  have F_counted_a := F_counted_a.other wr (Or.inr (slot_ne (Or.inr (hw _ (List.mem_of_getElem? (i := 19) rfl))) (Or.inr (hw _ (List.mem_of_getElem? (i := 11) rfl))) (by decide) (t := (.array .int)) (t' := (.array .int)) (by decide) (by decide)))
  have F_grouped_a := F_grouped_a.other wr (Or.inr (slot_ne (Or.inr (hw _ (List.mem_of_getElem? (i := 21) rfl))) (Or.inr (hw _ (List.mem_of_getElem? (i := 11) rfl))) (by decide) (t := (.array .int)) (t' := (.array .int)) (by decide) (by decide)))
  have F_firsts_a := F_firsts_a.other wr (Or.inr (slot_ne (Or.inr (hw _ (List.mem_of_getElem? (i := 24) rfl))) (Or.inr (hw _ (List.mem_of_getElem? (i := 11) rfl))) (by decide) (t := (.array .long)) (t' := (.array .int)) (by decide) (by decide)))
  have F_lasts_a := F_lasts_a.other wr (Or.inr (slot_ne (Or.inr (hw _ (List.mem_of_getElem? (i := 26) rfl))) (Or.inr (hw _ (List.mem_of_getElem? (i := 11) rfl))) (by decide) (t := (.array .long)) (t' := (.array .int)) (by decide) (by decide)))
  have F_maxOfGroups_a := F_maxOfGroups_a.other wr (Or.inr (slot_ne (Or.inr (hw _ (List.mem_of_getElem? (i := 28) rfl))) (Or.inr (hw _ (List.mem_of_getElem? (i := 11) rfl))) (by decide) (t := .int) (t' := (.array .int)) (by decide) (by decide)))
  have F_share_a := F_share_a.other wr (Or.inr (slot_ne (Or.inr (hw _ (List.mem_of_getElem? (i := 34) rfl))) (Or.inr (hw _ (List.mem_of_getElem? (i := 11) rfl))) (by decide) (t := .int) (t' := (.array .int)) (by decide) (by decide)))
  have F_recent_a := F_recent_a.other wr (Or.inr (slot_ne (Or.inr (hw _ (List.mem_of_getElem? (i := 59) rfl))) (Or.inr (hw _ (List.mem_of_getElem? (i := 11) rfl))) (by decide) (t := (.object "com/example/credence/credence/oauth1/HeavyHitters")) (t' := (.array .int)) (by decide) (by decide)))
  have F_heldByClients_a := F_heldByClients_a.other wr (Or.inr (slot_ne (Or.inl (hw _ (List.mem_of_getElem? (i := 72) rfl))) (Or.inr (hw _ (List.mem_of_getElem? (i := 11) rfl))) (by decide) (t := .int) (t' := (.array .int)) (by decide) (by decide)))
  have F_heldByGroups_a := F_heldByGroups_a.other wr (Or.inr (slot_ne (Or.inl (hw _ (List.mem_of_getElem? (i := 101) rfl))) (Or.inr (hw _ (List.mem_of_getElem? (i := 11) rfl))) (by decide) (t := .int) (t' := (.array .int)) (by decide) (by decide)))
  have V_b7 := V_b7.other wr (Ne.symm ne_a_b7)
  show Go p e below s _ _ T (mkF m 12 #[.val (.ref a), .val (.int p1), .val (.long q1), .second, .val (.long q2), .second] [])
  refine Go.of (fun _ kq => XS.aloadN X.here hx rfl (hb hby d1_12) rfl rfl kq) ?_
  show Go p e below s _ _ T (mkF m 13 #[.val (.ref a), .val (.int p1), .val (.long q1), .second, .val (.long q2), .second] [(.ref a)])
  refine Go.of (fun _ kq => XS.sipush X.here hx rfl (hb hby d1_13) kq) ?_
  show Go p e below s _ _ T (mkF m 16 #[.val (.ref a), .val (.int p1), .val (.long q1), .second, .val (.long q2), .second] [(.int (4096 : Int32)), (.ref a)])
  refine Go.newP X hx hZ (hw _ (List.mem_of_getElem? (i := 9) rfl)) eT (hb hby d1_16) (by decide) 4096 (by decide) (by decide) (by decide) (by decide) ?_
  intro T h b16 X eT E ha V_b16
  have ne_a_b16 : a ≠ b16 := by rw [ha]; exact Nat.ne_of_lt E_a.lt
  have z_b16 : h0.size ≤ b16 := by rw [ha]; exact K.1
  have g_b16 : n0 ≤ b16 := Nat.le_trans Z0 z_b16
  have K := K.ext E
  have E_a := E_a.ext E
  have F_held_a := F_held_a.ext E
  have F_credited_a := F_credited_a.ext E
  have F_credits_a := F_credits_a.ext E
  have F_counted_a := F_counted_a.ext E
  have F_grouped_a := F_grouped_a.ext E
  have F_firsts_a := F_firsts_a.ext E
  have F_lasts_a := F_lasts_a.ext E
  have F_maxOfGroups_a := F_maxOfGroups_a.ext E
  have F_share_a := F_share_a.ext E
  have F_recent_a := F_recent_a.ext E
  have F_heldByClients_a := F_heldByClients_a.ext E
  have F_heldByGroups_a := F_heldByGroups_a.ext E
  have V_b16 : AV Z h b16 .int 4096 (fun _ => .int 0) := V_b16
  show Go p e below s _ _ T (mkF m 18 #[.val (.ref a), .val (.int p1), .val (.long q1), .second, .val (.long q2), .second] [(.ref b16), (.ref a)])
  refine Go.putF X hx hZ hown (hw _ (List.mem_of_getElem? (i := 12) rfl)) Via.refl eT F_held_a E_a (Or.inr ⟨(hw _ (List.mem_of_getElem? (i := 13) rfl)), rfl, hnm⟩) (hw _ (List.mem_of_getElem? (i := 1) rfl)) (ty := (.array .int)) (by decide) rfl rfl (hb hby d1_18) ?_
  intro T h X eT wr
  have N := Fr.snoc X N g_a
  have K := K.wr wr (Or.inl (List.mem_of_getElem? (i := 0) rfl))
  have E_a := E_a.wr wr
  have F_held_a := F_held_a.same wr
  have F_credited_a := F_credited_a.other wr (Or.inr (slot_ne (Or.inr (hw _ (List.mem_of_getElem? (i := 15) rfl))) (Or.inr (hw _ (List.mem_of_getElem? (i := 13) rfl))) (by decide) (t := (.array .int)) (t' := (.array .int)) (by decide) (by decide)))
  have F_credits_a := F_credits_a.other wr (Or.inr (slot_ne (Or.inr (hw _ (List.mem_of_getElem? (i := 17) rfl))) (Or.inr (hw _ (List.mem_of_getElem? (i := 13) rfl))) (by decide) (t := (.array .int)) (t' := (.array .int)) (by decide) (by decide)))
  have F_counted_a := F_counted_a.other wr (Or.inr (slot_ne (Or.inr (hw _ (List.mem_of_getElem? (i := 19) rfl))) (Or.inr (hw _ (List.mem_of_getElem? (i := 13) rfl))) (by decide) (t := (.array .int)) (t' := (.array .int)) (by decide) (by decide)))
  have F_grouped_a := F_grouped_a.other wr (Or.inr (slot_ne (Or.inr (hw _ (List.mem_of_getElem? (i := 21) rfl))) (Or.inr (hw _ (List.mem_of_getElem? (i := 13) rfl))) (by decide) (t := (.array .int)) (t' := (.array .int)) (by decide) (by decide)))
  have F_firsts_a := F_firsts_a.other wr (Or.inr (slot_ne (Or.inr (hw _ (List.mem_of_getElem? (i := 24) rfl))) (Or.inr (hw _ (List.mem_of_getElem? (i := 13) rfl))) (by decide) (t := (.array .long)) (t' := (.array .int)) (by decide) (by decide)))
  have F_lasts_a := F_lasts_a.other wr (Or.inr (slot_ne (Or.inr (hw _ (List.mem_of_getElem? (i := 26) rfl))) (Or.inr (hw _ (List.mem_of_getElem? (i := 13) rfl))) (by decide) (t := (.array .long)) (t' := (.array .int)) (by decide) (by decide)))
  have F_maxOfGroups_a := F_maxOfGroups_a.other wr (Or.inr (slot_ne (Or.inr (hw _ (List.mem_of_getElem? (i := 28) rfl))) (Or.inr (hw _ (List.mem_of_getElem? (i := 13) rfl))) (by decide) (t := .int) (t' := (.array .int)) (by decide) (by decide)))
  have F_share_a := F_share_a.other wr (Or.inr (slot_ne (Or.inr (hw _ (List.mem_of_getElem? (i := 34) rfl))) (Or.inr (hw _ (List.mem_of_getElem? (i := 13) rfl))) (by decide) (t := .int) (t' := (.array .int)) (by decide) (by decide)))
  have F_recent_a := F_recent_a.other wr (Or.inr (slot_ne (Or.inr (hw _ (List.mem_of_getElem? (i := 59) rfl))) (Or.inr (hw _ (List.mem_of_getElem? (i := 13) rfl))) (by decide) (t := (.object "com/example/credence/credence/oauth1/HeavyHitters")) (t' := (.array .int)) (by decide) (by decide)))
  have F_heldByClients_a := F_heldByClients_a.other wr (Or.inr (slot_ne (Or.inl (hw _ (List.mem_of_getElem? (i := 72) rfl))) (Or.inr (hw _ (List.mem_of_getElem? (i := 13) rfl))) (by decide) (t := .int) (t' := (.array .int)) (by decide) (by decide)))
  have F_heldByGroups_a := F_heldByGroups_a.other wr (Or.inr (slot_ne (Or.inl (hw _ (List.mem_of_getElem? (i := 101) rfl))) (Or.inr (hw _ (List.mem_of_getElem? (i := 13) rfl))) (by decide) (t := .int) (t' := (.array .int)) (by decide) (by decide)))
  have V_b16 := V_b16.other wr (Ne.symm ne_a_b16)
  show Go p e below s _ _ T (mkF m 21 #[.val (.ref a), .val (.int p1), .val (.long q1), .second, .val (.long q2), .second] [])
  refine Go.of (fun _ kq => XS.aloadN X.here hx rfl (hb hby d1_21) rfl rfl kq) ?_
  show Go p e below s _ _ T (mkF m 22 #[.val (.ref a), .val (.int p1), .val (.long q1), .second, .val (.long q2), .second] [(.ref a)])
  refine Go.of (fun _ kq => XS.sipush X.here hx rfl (hb hby d1_22) kq) ?_
  show Go p e below s _ _ T (mkF m 25 #[.val (.ref a), .val (.int p1), .val (.long q1), .second, .val (.long q2), .second] [(.int (128 : Int32)), (.ref a)])
  refine Go.newP X hx hZ (hw _ (List.mem_of_getElem? (i := 9) rfl)) eT (hb hby d1_25) (by decide) 128 (by decide) (by decide) (by decide) (by decide) ?_
  intro T h b25 X eT E ha V_b25
  have ne_a_b25 : a ≠ b25 := by rw [ha]; exact Nat.ne_of_lt E_a.lt
  have ne_b16_b25 : b16 ≠ b25 := by rw [ha]; exact Nat.ne_of_lt V_b16.lt
  have z_b25 : h0.size ≤ b25 := by rw [ha]; exact K.1
  have g_b25 : n0 ≤ b25 := Nat.le_trans Z0 z_b25
  have K := K.ext E
  have E_a := E_a.ext E
  have F_held_a := F_held_a.ext E
  have F_credited_a := F_credited_a.ext E
  have F_credits_a := F_credits_a.ext E
  have F_counted_a := F_counted_a.ext E
  have F_grouped_a := F_grouped_a.ext E
  have F_firsts_a := F_firsts_a.ext E
  have F_lasts_a := F_lasts_a.ext E
  have F_maxOfGroups_a := F_maxOfGroups_a.ext E
  have F_share_a := F_share_a.ext E
  have F_recent_a := F_recent_a.ext E
  have F_heldByClients_a := F_heldByClients_a.ext E
  have F_heldByGroups_a := F_heldByGroups_a.ext E
  have V_b16 := V_b16.ext E
  have V_b25 : AV Z h b25 .int 128 (fun _ => .int 0) := V_b25
  show Go p e below s _ _ T (mkF m 27 #[.val (.ref a), .val (.int p1), .val (.long q1), .second, .val (.long q2), .second] [(.ref b25), (.ref a)])
  refine Go.putF X hx hZ hown (hw _ (List.mem_of_getElem? (i := 14) rfl)) Via.refl eT F_credited_a E_a (Or.inr ⟨(hw _ (List.mem_of_getElem? (i := 15) rfl)), rfl, hnm⟩) (hw _ (List.mem_of_getElem? (i := 1) rfl)) (ty := (.array .int)) (by decide) rfl rfl (hb hby d1_27) ?_
  intro T h X eT wr
  have N := Fr.snoc X N g_a
  have K := K.wr wr (Or.inl (List.mem_of_getElem? (i := 0) rfl))
  have E_a := E_a.wr wr
  have F_held_a := F_held_a.other wr (Or.inr (slot_ne (Or.inr (hw _ (List.mem_of_getElem? (i := 13) rfl))) (Or.inr (hw _ (List.mem_of_getElem? (i := 15) rfl))) (by decide) (t := (.array .int)) (t' := (.array .int)) (by decide) (by decide)))
  have F_credited_a := F_credited_a.same wr
  have F_credits_a := F_credits_a.other wr (Or.inr (slot_ne (Or.inr (hw _ (List.mem_of_getElem? (i := 17) rfl))) (Or.inr (hw _ (List.mem_of_getElem? (i := 15) rfl))) (by decide) (t := (.array .int)) (t' := (.array .int)) (by decide) (by decide)))
  have F_counted_a := F_counted_a.other wr (Or.inr (slot_ne (Or.inr (hw _ (List.mem_of_getElem? (i := 19) rfl))) (Or.inr (hw _ (List.mem_of_getElem? (i := 15) rfl))) (by decide) (t := (.array .int)) (t' := (.array .int)) (by decide) (by decide)))
  have F_grouped_a := F_grouped_a.other wr (Or.inr (slot_ne (Or.inr (hw _ (List.mem_of_getElem? (i := 21) rfl))) (Or.inr (hw _ (List.mem_of_getElem? (i := 15) rfl))) (by decide) (t := (.array .int)) (t' := (.array .int)) (by decide) (by decide)))
  have F_firsts_a := F_firsts_a.other wr (Or.inr (slot_ne (Or.inr (hw _ (List.mem_of_getElem? (i := 24) rfl))) (Or.inr (hw _ (List.mem_of_getElem? (i := 15) rfl))) (by decide) (t := (.array .long)) (t' := (.array .int)) (by decide) (by decide)))
  have F_lasts_a := F_lasts_a.other wr (Or.inr (slot_ne (Or.inr (hw _ (List.mem_of_getElem? (i := 26) rfl))) (Or.inr (hw _ (List.mem_of_getElem? (i := 15) rfl))) (by decide) (t := (.array .long)) (t' := (.array .int)) (by decide) (by decide)))
  have F_maxOfGroups_a := F_maxOfGroups_a.other wr (Or.inr (slot_ne (Or.inr (hw _ (List.mem_of_getElem? (i := 28) rfl))) (Or.inr (hw _ (List.mem_of_getElem? (i := 15) rfl))) (by decide) (t := .int) (t' := (.array .int)) (by decide) (by decide)))
  have F_share_a := F_share_a.other wr (Or.inr (slot_ne (Or.inr (hw _ (List.mem_of_getElem? (i := 34) rfl))) (Or.inr (hw _ (List.mem_of_getElem? (i := 15) rfl))) (by decide) (t := .int) (t' := (.array .int)) (by decide) (by decide)))
  have F_recent_a := F_recent_a.other wr (Or.inr (slot_ne (Or.inr (hw _ (List.mem_of_getElem? (i := 59) rfl))) (Or.inr (hw _ (List.mem_of_getElem? (i := 15) rfl))) (by decide) (t := (.object "com/example/credence/credence/oauth1/HeavyHitters")) (t' := (.array .int)) (by decide) (by decide)))
  have F_heldByClients_a := F_heldByClients_a.other wr (Or.inr (slot_ne (Or.inl (hw _ (List.mem_of_getElem? (i := 72) rfl))) (Or.inr (hw _ (List.mem_of_getElem? (i := 15) rfl))) (by decide) (t := .int) (t' := (.array .int)) (by decide) (by decide)))
  have F_heldByGroups_a := F_heldByGroups_a.other wr (Or.inr (slot_ne (Or.inl (hw _ (List.mem_of_getElem? (i := 101) rfl))) (Or.inr (hw _ (List.mem_of_getElem? (i := 15) rfl))) (by decide) (t := .int) (t' := (.array .int)) (by decide) (by decide)))
  have V_b16 := V_b16.other wr (Ne.symm ne_a_b16)
  have V_b25 := V_b25.other wr (Ne.symm ne_a_b25)
  show Go p e below s _ _ T (mkF m 30 #[.val (.ref a), .val (.int p1), .val (.long q1), .second, .val (.long q2), .second] [])
  refine Go.of (fun _ kq => XS.aloadN X.here hx rfl (hb hby d1_30) rfl rfl kq) ?_
  show Go p e below s _ _ T (mkF m 31 #[.val (.ref a), .val (.int p1), .val (.long q1), .second, .val (.long q2), .second] [(.ref a)])
  refine Go.of (fun _ kq => XS.sipush X.here hx rfl (hb hby d1_31) kq) ?_
  show Go p e below s _ _ T (mkF m 34 #[.val (.ref a), .val (.int p1), .val (.long q1), .second, .val (.long q2), .second] [(.int (128 : Int32)), (.ref a)])
  refine Go.newP X hx hZ (hw _ (List.mem_of_getElem? (i := 9) rfl)) eT (hb hby d1_34) (by decide) 128 (by decide) (by decide) (by decide) (by decide) ?_
  intro T h b34 X eT E ha V_b34
  have ne_a_b34 : a ≠ b34 := by rw [ha]; exact Nat.ne_of_lt E_a.lt
  have ne_b16_b34 : b16 ≠ b34 := by rw [ha]; exact Nat.ne_of_lt V_b16.lt
  have z_b34 : h0.size ≤ b34 := by rw [ha]; exact K.1
  have g_b34 : n0 ≤ b34 := Nat.le_trans Z0 z_b34
  have K := K.ext E
  have E_a := E_a.ext E
  have F_held_a := F_held_a.ext E
  have F_credits_a := F_credits_a.ext E
  have F_counted_a := F_counted_a.ext E
  have F_grouped_a := F_grouped_a.ext E
  have F_firsts_a := F_firsts_a.ext E
  have F_lasts_a := F_lasts_a.ext E
  have F_maxOfGroups_a := F_maxOfGroups_a.ext E
  have F_share_a := F_share_a.ext E
  have F_recent_a := F_recent_a.ext E
  have F_heldByClients_a := F_heldByClients_a.ext E
  have F_heldByGroups_a := F_heldByGroups_a.ext E
  have V_b16 := V_b16.ext E
  have V_b34 : AV Z h b34 .int 128 (fun _ => .int 0) := V_b34
  show Go p e below s _ _ T (mkF m 36 #[.val (.ref a), .val (.int p1), .val (.long q1), .second, .val (.long q2), .second] [(.ref b34), (.ref a)])
  refine Go.putF X hx hZ hown (hw _ (List.mem_of_getElem? (i := 16) rfl)) Via.refl eT F_credits_a E_a (Or.inr ⟨(hw _ (List.mem_of_getElem? (i := 17) rfl)), rfl, hnm⟩) (hw _ (List.mem_of_getElem? (i := 1) rfl)) (ty := (.array .int)) (by decide) rfl rfl (hb hby d1_36) ?_
  intro T h X eT wr
  have N := Fr.snoc X N g_a
  have K := K.wr wr (Or.inl (List.mem_of_getElem? (i := 0) rfl))
  have E_a := E_a.wr wr
  have F_held_a := F_held_a.other wr (Or.inr (slot_ne (Or.inr (hw _ (List.mem_of_getElem? (i := 13) rfl))) (Or.inr (hw _ (List.mem_of_getElem? (i := 17) rfl))) (by decide) (t := (.array .int)) (t' := (.array .int)) (by decide) (by decide)))
  have F_credits_a := F_credits_a.same wr
  have F_counted_a := F_counted_a.other wr (Or.inr (slot_ne (Or.inr (hw _ (List.mem_of_getElem? (i := 19) rfl))) (Or.inr (hw _ (List.mem_of_getElem? (i := 17) rfl))) (by decide) (t := (.array .int)) (t' := (.array .int)) (by decide) (by decide)))
  have F_grouped_a := F_grouped_a.other wr (Or.inr (slot_ne (Or.inr (hw _ (List.mem_of_getElem? (i := 21) rfl))) (Or.inr (hw _ (List.mem_of_getElem? (i := 17) rfl))) (by decide) (t := (.array .int)) (t' := (.array .int)) (by decide) (by decide)))
  have F_firsts_a := F_firsts_a.other wr (Or.inr (slot_ne (Or.inr (hw _ (List.mem_of_getElem? (i := 24) rfl))) (Or.inr (hw _ (List.mem_of_getElem? (i := 17) rfl))) (by decide) (t := (.array .long)) (t' := (.array .int)) (by decide) (by decide)))
  have F_lasts_a := F_lasts_a.other wr (Or.inr (slot_ne (Or.inr (hw _ (List.mem_of_getElem? (i := 26) rfl))) (Or.inr (hw _ (List.mem_of_getElem? (i := 17) rfl))) (by decide) (t := (.array .long)) (t' := (.array .int)) (by decide) (by decide)))
  have F_maxOfGroups_a := F_maxOfGroups_a.other wr (Or.inr (slot_ne (Or.inr (hw _ (List.mem_of_getElem? (i := 28) rfl))) (Or.inr (hw _ (List.mem_of_getElem? (i := 17) rfl))) (by decide) (t := .int) (t' := (.array .int)) (by decide) (by decide)))
  have F_share_a := F_share_a.other wr (Or.inr (slot_ne (Or.inr (hw _ (List.mem_of_getElem? (i := 34) rfl))) (Or.inr (hw _ (List.mem_of_getElem? (i := 17) rfl))) (by decide) (t := .int) (t' := (.array .int)) (by decide) (by decide)))
  have F_recent_a := F_recent_a.other wr (Or.inr (slot_ne (Or.inr (hw _ (List.mem_of_getElem? (i := 59) rfl))) (Or.inr (hw _ (List.mem_of_getElem? (i := 17) rfl))) (by decide) (t := (.object "com/example/credence/credence/oauth1/HeavyHitters")) (t' := (.array .int)) (by decide) (by decide)))
  have F_heldByClients_a := F_heldByClients_a.other wr (Or.inr (slot_ne (Or.inl (hw _ (List.mem_of_getElem? (i := 72) rfl))) (Or.inr (hw _ (List.mem_of_getElem? (i := 17) rfl))) (by decide) (t := .int) (t' := (.array .int)) (by decide) (by decide)))
  have F_heldByGroups_a := F_heldByGroups_a.other wr (Or.inr (slot_ne (Or.inl (hw _ (List.mem_of_getElem? (i := 101) rfl))) (Or.inr (hw _ (List.mem_of_getElem? (i := 17) rfl))) (by decide) (t := .int) (t' := (.array .int)) (by decide) (by decide)))
  have V_b16 := V_b16.other wr (Ne.symm ne_a_b16)
  have V_b34 := V_b34.other wr (Ne.symm ne_a_b34)
  show Go p e below s _ _ T (mkF m 39 #[.val (.ref a), .val (.int p1), .val (.long q1), .second, .val (.long q2), .second] [])
  refine Go.of (fun _ kq => XS.aloadN X.here hx rfl (hb hby d1_39) rfl rfl kq) ?_
  show Go p e below s _ _ T (mkF m 40 #[.val (.ref a), .val (.int p1), .val (.long q1), .second, .val (.long q2), .second] [(.ref a)])
  refine Go.of (fun _ kq => XS.sipush X.here hx rfl (hb hby d1_40) kq) ?_
  show Go p e below s _ _ T (mkF m 43 #[.val (.ref a), .val (.int p1), .val (.long q1), .second, .val (.long q2), .second] [(.int (128 : Int32)), (.ref a)])
  refine Go.newP X hx hZ (hw _ (List.mem_of_getElem? (i := 9) rfl)) eT (hb hby d1_43) (by decide) 128 (by decide) (by decide) (by decide) (by decide) ?_
  intro T h b43 X eT E ha V_b43
  have ne_a_b43 : a ≠ b43 := by rw [ha]; exact Nat.ne_of_lt E_a.lt
  have ne_b16_b43 : b16 ≠ b43 := by rw [ha]; exact Nat.ne_of_lt V_b16.lt
  have z_b43 : h0.size ≤ b43 := by rw [ha]; exact K.1
  have g_b43 : n0 ≤ b43 := Nat.le_trans Z0 z_b43
  have K := K.ext E
  have E_a := E_a.ext E
  have F_held_a := F_held_a.ext E
  have F_counted_a := F_counted_a.ext E
  have F_grouped_a := F_grouped_a.ext E
  have F_firsts_a := F_firsts_a.ext E
  have F_lasts_a := F_lasts_a.ext E
  have F_maxOfGroups_a := F_maxOfGroups_a.ext E
  have F_share_a := F_share_a.ext E
  have F_recent_a := F_recent_a.ext E
  have F_heldByClients_a := F_heldByClients_a.ext E
  have F_heldByGroups_a := F_heldByGroups_a.ext E
  have V_b16 := V_b16.ext E
  have V_b43 : AV Z h b43 .int 128 (fun _ => .int 0) := V_b43
  show Go p e below s _ _ T (mkF m 45 #[.val (.ref a), .val (.int p1), .val (.long q1), .second, .val (.long q2), .second] [(.ref b43), (.ref a)])
  refine Go.putF X hx hZ hown (hw _ (List.mem_of_getElem? (i := 18) rfl)) Via.refl eT F_counted_a E_a (Or.inr ⟨(hw _ (List.mem_of_getElem? (i := 19) rfl)), rfl, hnm⟩) (hw _ (List.mem_of_getElem? (i := 1) rfl)) (ty := (.array .int)) (by decide) rfl rfl (hb hby d1_45) ?_
  intro T h X eT wr
  have N := Fr.snoc X N g_a
  have K := K.wr wr (Or.inl (List.mem_of_getElem? (i := 0) rfl))
  have E_a := E_a.wr wr
  have F_held_a := F_held_a.other wr (Or.inr (slot_ne (Or.inr (hw _ (List.mem_of_getElem? (i := 13) rfl))) (Or.inr (hw _ (List.mem_of_getElem? (i := 19) rfl))) (by decide) (t := (.array .int)) (t' := (.array .int)) (by decide) (by decide)))
  have F_counted_a := F_counted_a.same wr
  have F_grouped_a := F_grouped_a.other wr (Or.inr (slot_ne (Or.inr (hw _ (List.mem_of_getElem? (i := 21) rfl))) (Or.inr (hw _ (List.mem_of_getElem? (i := 19) rfl))) (by decide) (t := (.array .int)) (t' := (.array .int)) (by decide) (by decide)))
  have F_firsts_a := F_firsts_a.other wr (Or.inr (slot_ne (Or.inr (hw _ (List.mem_of_getElem? (i := 24) rfl))) (Or.inr (hw _ (List.mem_of_getElem? (i := 19) rfl))) (by decide) (t := (.array .long)) (t' := (.array .int)) (by decide) (by decide)))
  have F_lasts_a := F_lasts_a.other wr (Or.inr (slot_ne (Or.inr (hw _ (List.mem_of_getElem? (i := 26) rfl))) (Or.inr (hw _ (List.mem_of_getElem? (i := 19) rfl))) (by decide) (t := (.array .long)) (t' := (.array .int)) (by decide) (by decide)))
  have F_maxOfGroups_a := F_maxOfGroups_a.other wr (Or.inr (slot_ne (Or.inr (hw _ (List.mem_of_getElem? (i := 28) rfl))) (Or.inr (hw _ (List.mem_of_getElem? (i := 19) rfl))) (by decide) (t := .int) (t' := (.array .int)) (by decide) (by decide)))
  have F_share_a := F_share_a.other wr (Or.inr (slot_ne (Or.inr (hw _ (List.mem_of_getElem? (i := 34) rfl))) (Or.inr (hw _ (List.mem_of_getElem? (i := 19) rfl))) (by decide) (t := .int) (t' := (.array .int)) (by decide) (by decide)))
  have F_recent_a := F_recent_a.other wr (Or.inr (slot_ne (Or.inr (hw _ (List.mem_of_getElem? (i := 59) rfl))) (Or.inr (hw _ (List.mem_of_getElem? (i := 19) rfl))) (by decide) (t := (.object "com/example/credence/credence/oauth1/HeavyHitters")) (t' := (.array .int)) (by decide) (by decide)))
  have F_heldByClients_a := F_heldByClients_a.other wr (Or.inr (slot_ne (Or.inl (hw _ (List.mem_of_getElem? (i := 72) rfl))) (Or.inr (hw _ (List.mem_of_getElem? (i := 19) rfl))) (by decide) (t := .int) (t' := (.array .int)) (by decide) (by decide)))
  have F_heldByGroups_a := F_heldByGroups_a.other wr (Or.inr (slot_ne (Or.inl (hw _ (List.mem_of_getElem? (i := 101) rfl))) (Or.inr (hw _ (List.mem_of_getElem? (i := 19) rfl))) (by decide) (t := .int) (t' := (.array .int)) (by decide) (by decide)))
  have V_b16 := V_b16.other wr (Ne.symm ne_a_b16)
  have V_b43 := V_b43.other wr (Ne.symm ne_a_b43)
  show Go p e below s _ _ T (mkF m 48 #[.val (.ref a), .val (.int p1), .val (.long q1), .second, .val (.long q2), .second] [])
  refine Go.of (fun _ kq => XS.aloadN X.here hx rfl (hb hby d1_48) rfl rfl kq) ?_
  show Go p e below s _ _ T (mkF m 49 #[.val (.ref a), .val (.int p1), .val (.long q1), .second, .val (.long q2), .second] [(.ref a)])
  refine Go.of (fun _ kq => XS.sipush X.here hx rfl (hb hby d1_49) kq) ?_
  show Go p e below s _ _ T (mkF m 52 #[.val (.ref a), .val (.int p1), .val (.long q1), .second, .val (.long q2), .second] [(.int (128 : Int32)), (.ref a)])
  refine Go.newP X hx hZ (hw _ (List.mem_of_getElem? (i := 9) rfl)) eT (hb hby d1_52) (by decide) 128 (by decide) (by decide) (by decide) (by decide) ?_
  intro T h b52 X eT E ha V_b52
  have ne_a_b52 : a ≠ b52 := by rw [ha]; exact Nat.ne_of_lt E_a.lt
  have ne_b16_b52 : b16 ≠ b52 := by rw [ha]; exact Nat.ne_of_lt V_b16.lt
  have z_b52 : h0.size ≤ b52 := by rw [ha]; exact K.1
  have g_b52 : n0 ≤ b52 := Nat.le_trans Z0 z_b52
  have K := K.ext E
  have E_a := E_a.ext E
  have F_held_a := F_held_a.ext E
  have F_grouped_a := F_grouped_a.ext E
  have F_firsts_a := F_firsts_a.ext E
  have F_lasts_a := F_lasts_a.ext E
  have F_maxOfGroups_a := F_maxOfGroups_a.ext E
  have F_share_a := F_share_a.ext E
  have F_recent_a := F_recent_a.ext E
  have F_heldByClients_a := F_heldByClients_a.ext E
  have F_heldByGroups_a := F_heldByGroups_a.ext E
  have V_b16 := V_b16.ext E
  have V_b52 : AV Z h b52 .int 128 (fun _ => .int 0) := V_b52
  show Go p e below s _ _ T (mkF m 54 #[.val (.ref a), .val (.int p1), .val (.long q1), .second, .val (.long q2), .second] [(.ref b52), (.ref a)])
  refine Go.putF X hx hZ hown (hw _ (List.mem_of_getElem? (i := 20) rfl)) Via.refl eT F_grouped_a E_a (Or.inr ⟨(hw _ (List.mem_of_getElem? (i := 21) rfl)), rfl, hnm⟩) (hw _ (List.mem_of_getElem? (i := 1) rfl)) (ty := (.array .int)) (by decide) rfl rfl (hb hby d1_54) ?_
  intro T h X eT wr
  have N := Fr.snoc X N g_a
  have K := K.wr wr (Or.inl (List.mem_of_getElem? (i := 0) rfl))
  have E_a := E_a.wr wr
  have F_held_a := F_held_a.other wr (Or.inr (slot_ne (Or.inr (hw _ (List.mem_of_getElem? (i := 13) rfl))) (Or.inr (hw _ (List.mem_of_getElem? (i := 21) rfl))) (by decide) (t := (.array .int)) (t' := (.array .int)) (by decide) (by decide)))
  have F_grouped_a := F_grouped_a.same wr
  have F_firsts_a := F_firsts_a.other wr (Or.inr (slot_ne (Or.inr (hw _ (List.mem_of_getElem? (i := 24) rfl))) (Or.inr (hw _ (List.mem_of_getElem? (i := 21) rfl))) (by decide) (t := (.array .long)) (t' := (.array .int)) (by decide) (by decide)))
  have F_lasts_a := F_lasts_a.other wr (Or.inr (slot_ne (Or.inr (hw _ (List.mem_of_getElem? (i := 26) rfl))) (Or.inr (hw _ (List.mem_of_getElem? (i := 21) rfl))) (by decide) (t := (.array .long)) (t' := (.array .int)) (by decide) (by decide)))
  have F_maxOfGroups_a := F_maxOfGroups_a.other wr (Or.inr (slot_ne (Or.inr (hw _ (List.mem_of_getElem? (i := 28) rfl))) (Or.inr (hw _ (List.mem_of_getElem? (i := 21) rfl))) (by decide) (t := .int) (t' := (.array .int)) (by decide) (by decide)))
  have F_share_a := F_share_a.other wr (Or.inr (slot_ne (Or.inr (hw _ (List.mem_of_getElem? (i := 34) rfl))) (Or.inr (hw _ (List.mem_of_getElem? (i := 21) rfl))) (by decide) (t := .int) (t' := (.array .int)) (by decide) (by decide)))
  have F_recent_a := F_recent_a.other wr (Or.inr (slot_ne (Or.inr (hw _ (List.mem_of_getElem? (i := 59) rfl))) (Or.inr (hw _ (List.mem_of_getElem? (i := 21) rfl))) (by decide) (t := (.object "com/example/credence/credence/oauth1/HeavyHitters")) (t' := (.array .int)) (by decide) (by decide)))
  have F_heldByClients_a := F_heldByClients_a.other wr (Or.inr (slot_ne (Or.inl (hw _ (List.mem_of_getElem? (i := 72) rfl))) (Or.inr (hw _ (List.mem_of_getElem? (i := 21) rfl))) (by decide) (t := .int) (t' := (.array .int)) (by decide) (by decide)))
  have F_heldByGroups_a := F_heldByGroups_a.other wr (Or.inr (slot_ne (Or.inl (hw _ (List.mem_of_getElem? (i := 101) rfl))) (Or.inr (hw _ (List.mem_of_getElem? (i := 21) rfl))) (by decide) (t := .int) (t' := (.array .int)) (by decide) (by decide)))
  have V_b16 := V_b16.other wr (Ne.symm ne_a_b16)
  have V_b52 := V_b52.other wr (Ne.symm ne_a_b52)
  show Go p e below s _ _ T (mkF m 57 #[.val (.ref a), .val (.int p1), .val (.long q1), .second, .val (.long q2), .second] [])
  refine Go.of (fun _ kq => XS.aloadN X.here hx rfl (hb hby d1_57) rfl rfl kq) ?_
  show Go p e below s _ _ T (mkF m 58 #[.val (.ref a), .val (.int p1), .val (.long q1), .second, .val (.long q2), .second] [(.ref a)])
  refine Go.of (fun _ kq => XS.sipush X.here hx rfl (hb hby d1_58) kq) ?_
  show Go p e below s _ _ T (mkF m 61 #[.val (.ref a), .val (.int p1), .val (.long q1), .second, .val (.long q2), .second] [(.int (4096 : Int32)), (.ref a)])
  refine Go.newP X hx hZ (hw _ (List.mem_of_getElem? (i := 22) rfl)) eT (hb hby d1_61) (by decide) 4096 (by decide) (by decide) (by decide) (by decide) ?_
  intro T h b61 X eT E ha V_b61
  have ne_a_b61 : a ≠ b61 := by rw [ha]; exact Nat.ne_of_lt E_a.lt
  have ne_b16_b61 : b16 ≠ b61 := by rw [ha]; exact Nat.ne_of_lt V_b16.lt
  have z_b61 : h0.size ≤ b61 := by rw [ha]; exact K.1
  have g_b61 : n0 ≤ b61 := Nat.le_trans Z0 z_b61
  have K := K.ext E
  have E_a := E_a.ext E
  have F_held_a := F_held_a.ext E
  have F_firsts_a := F_firsts_a.ext E
  have F_lasts_a := F_lasts_a.ext E
  have F_maxOfGroups_a := F_maxOfGroups_a.ext E
  have F_share_a := F_share_a.ext E
  have F_recent_a := F_recent_a.ext E
  have F_heldByClients_a := F_heldByClients_a.ext E
  have F_heldByGroups_a := F_heldByGroups_a.ext E
  have V_b16 := V_b16.ext E
  have V_b61 : AV Z h b61 .long 4096 (fun _ => .long 0) := V_b61
  show Go p e below s _ _ T (mkF m 63 #[.val (.ref a), .val (.int p1), .val (.long q1), .second, .val (.long q2), .second] [(.ref b61), (.ref a)])
  refine Go.putF X hx hZ hown (hw _ (List.mem_of_getElem? (i := 23) rfl)) Via.refl eT F_firsts_a E_a (Or.inr ⟨(hw _ (List.mem_of_getElem? (i := 24) rfl)), rfl, hnm⟩) (hw _ (List.mem_of_getElem? (i := 1) rfl)) (ty := (.array .long)) (by decide) rfl rfl (hb hby d1_63) ?_
  intro T h X eT wr
  have N := Fr.snoc X N g_a
  have K := K.wr wr (Or.inl (List.mem_of_getElem? (i := 0) rfl))
  have E_a := E_a.wr wr
  have F_held_a := F_held_a.other wr (Or.inr (slot_ne (Or.inr (hw _ (List.mem_of_getElem? (i := 13) rfl))) (Or.inr (hw _ (List.mem_of_getElem? (i := 24) rfl))) (by decide) (t := (.array .int)) (t' := (.array .long)) (by decide) (by decide)))
  have F_firsts_a := F_firsts_a.same wr
  have F_lasts_a := F_lasts_a.other wr (Or.inr (slot_ne (Or.inr (hw _ (List.mem_of_getElem? (i := 26) rfl))) (Or.inr (hw _ (List.mem_of_getElem? (i := 24) rfl))) (by decide) (t := (.array .long)) (t' := (.array .long)) (by decide) (by decide)))
  have F_maxOfGroups_a := F_maxOfGroups_a.other wr (Or.inr (slot_ne (Or.inr (hw _ (List.mem_of_getElem? (i := 28) rfl))) (Or.inr (hw _ (List.mem_of_getElem? (i := 24) rfl))) (by decide) (t := .int) (t' := (.array .long)) (by decide) (by decide)))
  have F_share_a := F_share_a.other wr (Or.inr (slot_ne (Or.inr (hw _ (List.mem_of_getElem? (i := 34) rfl))) (Or.inr (hw _ (List.mem_of_getElem? (i := 24) rfl))) (by decide) (t := .int) (t' := (.array .long)) (by decide) (by decide)))
  have F_recent_a := F_recent_a.other wr (Or.inr (slot_ne (Or.inr (hw _ (List.mem_of_getElem? (i := 59) rfl))) (Or.inr (hw _ (List.mem_of_getElem? (i := 24) rfl))) (by decide) (t := (.object "com/example/credence/credence/oauth1/HeavyHitters")) (t' := (.array .long)) (by decide) (by decide)))
  have F_heldByClients_a := F_heldByClients_a.other wr (Or.inr (slot_ne (Or.inl (hw _ (List.mem_of_getElem? (i := 72) rfl))) (Or.inr (hw _ (List.mem_of_getElem? (i := 24) rfl))) (by decide) (t := .int) (t' := (.array .long)) (by decide) (by decide)))
  have F_heldByGroups_a := F_heldByGroups_a.other wr (Or.inr (slot_ne (Or.inl (hw _ (List.mem_of_getElem? (i := 101) rfl))) (Or.inr (hw _ (List.mem_of_getElem? (i := 24) rfl))) (by decide) (t := .int) (t' := (.array .long)) (by decide) (by decide)))
  have V_b16 := V_b16.other wr (Ne.symm ne_a_b16)
  have V_b61 := V_b61.other wr (Ne.symm ne_a_b61)
  show Go p e below s _ _ T (mkF m 66 #[.val (.ref a), .val (.int p1), .val (.long q1), .second, .val (.long q2), .second] [])
  refine Go.of (fun _ kq => XS.aloadN X.here hx rfl (hb hby d1_66) rfl rfl kq) ?_
  show Go p e below s _ _ T (mkF m 67 #[.val (.ref a), .val (.int p1), .val (.long q1), .second, .val (.long q2), .second] [(.ref a)])
  refine Go.of (fun _ kq => XS.sipush X.here hx rfl (hb hby d1_67) kq) ?_
  show Go p e below s _ _ T (mkF m 70 #[.val (.ref a), .val (.int p1), .val (.long q1), .second, .val (.long q2), .second] [(.int (4096 : Int32)), (.ref a)])
  refine Go.newP X hx hZ (hw _ (List.mem_of_getElem? (i := 22) rfl)) eT (hb hby d1_70) (by decide) 4096 (by decide) (by decide) (by decide) (by decide) ?_
  intro T h b70 X eT E ha V_b70
  have ne_a_b70 : a ≠ b70 := by rw [ha]; exact Nat.ne_of_lt E_a.lt
  have ne_b16_b70 : b16 ≠ b70 := by rw [ha]; exact Nat.ne_of_lt V_b16.lt
  have ne_b61_b70 : b61 ≠ b70 := by rw [ha]; exact Nat.ne_of_lt V_b61.lt
  have z_b70 : h0.size ≤ b70 := by rw [ha]; exact K.1
  have g_b70 : n0 ≤ b70 := Nat.le_trans Z0 z_b70
  have K := K.ext E
  have E_a := E_a.ext E
  have F_held_a := F_held_a.ext E
  have F_firsts_a := F_firsts_a.ext E
  have F_lasts_a := F_lasts_a.ext E
  have F_maxOfGroups_a := F_maxOfGroups_a.ext E
  have F_share_a := F_share_a.ext E
  have F_recent_a := F_recent_a.ext E
  have F_heldByClients_a := F_heldByClients_a.ext E
  have F_heldByGroups_a := F_heldByGroups_a.ext E
  have V_b16 := V_b16.ext E
  have V_b61 := V_b61.ext E
  have V_b70 : AV Z h b70 .long 4096 (fun _ => .long 0) := V_b70
  show Go p e below s _ _ T (mkF m 72 #[.val (.ref a), .val (.int p1), .val (.long q1), .second, .val (.long q2), .second] [(.ref b70), (.ref a)])
  refine Go.putF X hx hZ hown (hw _ (List.mem_of_getElem? (i := 25) rfl)) Via.refl eT F_lasts_a E_a (Or.inr ⟨(hw _ (List.mem_of_getElem? (i := 26) rfl)), rfl, hnm⟩) (hw _ (List.mem_of_getElem? (i := 1) rfl)) (ty := (.array .long)) (by decide) rfl rfl (hb hby d1_72) ?_
  intro T h X eT wr
  have N := Fr.snoc X N g_a
  have K := K.wr wr (Or.inl (List.mem_of_getElem? (i := 0) rfl))
  have E_a := E_a.wr wr
  have F_held_a := F_held_a.other wr (Or.inr (slot_ne (Or.inr (hw _ (List.mem_of_getElem? (i := 13) rfl))) (Or.inr (hw _ (List.mem_of_getElem? (i := 26) rfl))) (by decide) (t := (.array .int)) (t' := (.array .long)) (by decide) (by decide)))
  have F_firsts_a := F_firsts_a.other wr (Or.inr (slot_ne (Or.inr (hw _ (List.mem_of_getElem? (i := 24) rfl))) (Or.inr (hw _ (List.mem_of_getElem? (i := 26) rfl))) (by decide) (t := (.array .long)) (t' := (.array .long)) (by decide) (by decide)))
  have F_lasts_a := F_lasts_a.same wr
  have F_maxOfGroups_a := F_maxOfGroups_a.other wr (Or.inr (slot_ne (Or.inr (hw _ (List.mem_of_getElem? (i := 28) rfl))) (Or.inr (hw _ (List.mem_of_getElem? (i := 26) rfl))) (by decide) (t := .int) (t' := (.array .long)) (by decide) (by decide)))
  have F_share_a := F_share_a.other wr (Or.inr (slot_ne (Or.inr (hw _ (List.mem_of_getElem? (i := 34) rfl))) (Or.inr (hw _ (List.mem_of_getElem? (i := 26) rfl))) (by decide) (t := .int) (t' := (.array .long)) (by decide) (by decide)))
  have F_recent_a := F_recent_a.other wr (Or.inr (slot_ne (Or.inr (hw _ (List.mem_of_getElem? (i := 59) rfl))) (Or.inr (hw _ (List.mem_of_getElem? (i := 26) rfl))) (by decide) (t := (.object "com/example/credence/credence/oauth1/HeavyHitters")) (t' := (.array .long)) (by decide) (by decide)))
  have F_heldByClients_a := F_heldByClients_a.other wr (Or.inr (slot_ne (Or.inl (hw _ (List.mem_of_getElem? (i := 72) rfl))) (Or.inr (hw _ (List.mem_of_getElem? (i := 26) rfl))) (by decide) (t := .int) (t' := (.array .long)) (by decide) (by decide)))
  have F_heldByGroups_a := F_heldByGroups_a.other wr (Or.inr (slot_ne (Or.inl (hw _ (List.mem_of_getElem? (i := 101) rfl))) (Or.inr (hw _ (List.mem_of_getElem? (i := 26) rfl))) (by decide) (t := .int) (t' := (.array .long)) (by decide) (by decide)))
  have V_b16 := V_b16.other wr (Ne.symm ne_a_b16)
  have V_b61 := V_b61.other wr (Ne.symm ne_a_b61)
  have V_b70 := V_b70.other wr (Ne.symm ne_a_b70)
  show Go p e below s _ _ T (mkF m 75 #[.val (.ref a), .val (.int p1), .val (.long q1), .second, .val (.long q2), .second] [])
  refine Go.of (fun _ kq => XS.aloadN X.here hx rfl (hb hby d1_75) rfl rfl kq) ?_
  show Go p e below s _ _ T (mkF m 76 #[.val (.ref a), .val (.int p1), .val (.long q1), .second, .val (.long q2), .second] [(.ref a)])
  refine Go.of (fun _ kq => XS.iloadN X.here hx rfl (hb hby d1_76) rfl kq) ?_
  show Go p e below s _ _ T (mkF m 77 #[.val (.ref a), .val (.int p1), .val (.long q1), .second, .val (.long q2), .second] [(.int p1), (.ref a)])
  refine Go.putF X hx hZ hown (hw _ (List.mem_of_getElem? (i := 27) rfl)) Via.refl eT F_maxOfGroups_a E_a (Or.inr ⟨(hw _ (List.mem_of_getElem? (i := 28) rfl)), rfl, hnm⟩) (hw _ (List.mem_of_getElem? (i := 1) rfl)) (ty := .int) (by decide) rfl rfl (hb hby d1_77) ?_
  intro T h X eT wr
  have N := Fr.snoc X N g_a
  have K := K.wr wr (Or.inl (List.mem_of_getElem? (i := 0) rfl))
  have E_a := E_a.wr wr
  have F_held_a := F_held_a.other wr (Or.inr (slot_ne (Or.inr (hw _ (List.mem_of_getElem? (i := 13) rfl))) (Or.inr (hw _ (List.mem_of_getElem? (i := 28) rfl))) (by decide) (t := (.array .int)) (t' := .int) (by decide) (by decide)))
  have F_firsts_a := F_firsts_a.other wr (Or.inr (slot_ne (Or.inr (hw _ (List.mem_of_getElem? (i := 24) rfl))) (Or.inr (hw _ (List.mem_of_getElem? (i := 28) rfl))) (by decide) (t := (.array .long)) (t' := .int) (by decide) (by decide)))
  have F_lasts_a := F_lasts_a.other wr (Or.inr (slot_ne (Or.inr (hw _ (List.mem_of_getElem? (i := 26) rfl))) (Or.inr (hw _ (List.mem_of_getElem? (i := 28) rfl))) (by decide) (t := (.array .long)) (t' := .int) (by decide) (by decide)))
  have F_maxOfGroups_a := F_maxOfGroups_a.same wr
  have F_share_a := F_share_a.other wr (Or.inr (slot_ne (Or.inr (hw _ (List.mem_of_getElem? (i := 34) rfl))) (Or.inr (hw _ (List.mem_of_getElem? (i := 28) rfl))) (by decide) (t := .int) (t' := .int) (by decide) (by decide)))
  have F_recent_a := F_recent_a.other wr (Or.inr (slot_ne (Or.inr (hw _ (List.mem_of_getElem? (i := 59) rfl))) (Or.inr (hw _ (List.mem_of_getElem? (i := 28) rfl))) (by decide) (t := (.object "com/example/credence/credence/oauth1/HeavyHitters")) (t' := .int) (by decide) (by decide)))
  have F_heldByClients_a := F_heldByClients_a.other wr (Or.inr (slot_ne (Or.inl (hw _ (List.mem_of_getElem? (i := 72) rfl))) (Or.inr (hw _ (List.mem_of_getElem? (i := 28) rfl))) (by decide) (t := .int) (t' := .int) (by decide) (by decide)))
  have F_heldByGroups_a := F_heldByGroups_a.other wr (Or.inr (slot_ne (Or.inl (hw _ (List.mem_of_getElem? (i := 101) rfl))) (Or.inr (hw _ (List.mem_of_getElem? (i := 28) rfl))) (by decide) (t := .int) (t' := .int) (by decide) (by decide)))
  have V_b16 := V_b16.other wr (Ne.symm ne_a_b16)
  have V_b61 := V_b61.other wr (Ne.symm ne_a_b61)
  have V_b70 := V_b70.other wr (Ne.symm ne_a_b70)
  show Go p e below s _ _ T (mkF m 80 #[.val (.ref a), .val (.int p1), .val (.long q1), .second, .val (.long q2), .second] [])
  refine Go.of (fun _ kq => XS.aloadN X.here hx rfl (hb hby d1_80) rfl rfl kq) ?_
  show Go p e below s _ _ T (mkF m 81 #[.val (.ref a), .val (.int p1), .val (.long q1), .second, .val (.long q2), .second] [(.ref a)])
  refine Go.of (fun _ kq => XS.iconst X.here hx rfl (hb hby d1_81) kq) ?_
  show Go p e below s _ _ T (mkF m 82 #[.val (.ref a), .val (.int p1), .val (.long q1), .second, .val (.long q2), .second] [(.int (1 : Int32)), (.ref a)])
  refine Go.of (fun _ kq => XS.iloadN X.here hx rfl (hb hby d1_82) rfl kq) ?_
  show Go p e below s _ _ T (mkF m 83 #[.val (.ref a), .val (.int p1), .val (.long q1), .second, .val (.long q2), .second] [(.int p1), (.int (1 : Int32)), (.ref a)])
  refine Go.of (fun _ kq => XS.bipush X.here hx rfl (hb hby d1_83) kq) ?_
  show Go p e below s _ _ T (mkF m 85 #[.val (.ref a), .val (.int p1), .val (.long q1), .second, .val (.long q2), .second] [(.int (64 : Int32)), (.int p1), (.int (1 : Int32)), (.ref a)])
  refine Go.of (fun _ kq => XS.idiv X.here hx rfl (hb hby d1_85) rfl (by decide) kq) ?_
  show Go p e below s _ _ T (mkF m 86 #[.val (.ref a), .val (.int p1), .val (.long q1), .second, .val (.long q2), .second] [(.int (p1 / (64 : Int32))), (.int (1 : Int32)), (.ref a)])
  refine Go.static X hx hZ hown (hw _ (List.mem_of_getElem? (i := 29) rfl)) (hw _ (List.mem_of_getElem? (i := 30) rfl)) (hw _ (List.mem_of_getElem? (i := 31) rfl)) (hw _ (List.mem_of_getElem? (i := 32) rfl)) (by decide) (rmMax hw (1 : Int32) (p1 / (64 : Int32)) _ n0) eT 1 (by decide) (by decide) (by decide) (by decide) (by rw [hml]; rfl) (argsL := [(.int (1 : Int32)), (.int (p1 / (64 : Int32)))]) [(.ref a)] (lenOf pd1 rfl) rfl rfl (Nat.le_of_eq rfl) (hb hby d1_86) ?_
  intro v T L' X hQ
  obtain ⟨r, rfl, N', eT⟩ := hQ
  have N := Fr.app N N'
  show Go p e below s _ _ T (mkF m 89 #[.val (.ref a), .val (.int p1), .val (.long q1), .second, .val (.long q2), .second] [(.int r), (.ref a)])
  refine Go.putF X hx hZ hown (hw _ (List.mem_of_getElem? (i := 33) rfl)) Via.refl eT F_share_a E_a (Or.inr ⟨(hw _ (List.mem_of_getElem? (i := 34) rfl)), rfl, hnm⟩) (hw _ (List.mem_of_getElem? (i := 1) rfl)) (ty := .int) (by decide) rfl rfl (hb hby d1_89) ?_
  intro T h X eT wr
  have N := Fr.snoc X N g_a
  have K := K.wr wr (Or.inl (List.mem_of_getElem? (i := 0) rfl))
  have E_a := E_a.wr wr
  have F_held_a := F_held_a.other wr (Or.inr (slot_ne (Or.inr (hw _ (List.mem_of_getElem? (i := 13) rfl))) (Or.inr (hw _ (List.mem_of_getElem? (i := 34) rfl))) (by decide) (t := (.array .int)) (t' := .int) (by decide) (by decide)))
  have F_firsts_a := F_firsts_a.other wr (Or.inr (slot_ne (Or.inr (hw _ (List.mem_of_getElem? (i := 24) rfl))) (Or.inr (hw _ (List.mem_of_getElem? (i := 34) rfl))) (by decide) (t := (.array .long)) (t' := .int) (by decide) (by decide)))
  have F_lasts_a := F_lasts_a.other wr (Or.inr (slot_ne (Or.inr (hw _ (List.mem_of_getElem? (i := 26) rfl))) (Or.inr (hw _ (List.mem_of_getElem? (i := 34) rfl))) (by decide) (t := (.array .long)) (t' := .int) (by decide) (by decide)))
  have F_share_a := F_share_a.same wr
  have F_recent_a := F_recent_a.other wr (Or.inr (slot_ne (Or.inr (hw _ (List.mem_of_getElem? (i := 59) rfl))) (Or.inr (hw _ (List.mem_of_getElem? (i := 34) rfl))) (by decide) (t := (.object "com/example/credence/credence/oauth1/HeavyHitters")) (t' := .int) (by decide) (by decide)))
  have F_heldByClients_a := F_heldByClients_a.other wr (Or.inr (slot_ne (Or.inl (hw _ (List.mem_of_getElem? (i := 72) rfl))) (Or.inr (hw _ (List.mem_of_getElem? (i := 34) rfl))) (by decide) (t := .int) (t' := .int) (by decide) (by decide)))
  have F_heldByGroups_a := F_heldByGroups_a.other wr (Or.inr (slot_ne (Or.inl (hw _ (List.mem_of_getElem? (i := 101) rfl))) (Or.inr (hw _ (List.mem_of_getElem? (i := 34) rfl))) (by decide) (t := .int) (t' := .int) (by decide) (by decide)))
  have V_b16 := V_b16.other wr (Ne.symm ne_a_b16)
  have V_b61 := V_b61.other wr (Ne.symm ne_a_b61)
  have V_b70 := V_b70.other wr (Ne.symm ne_a_b70)
  show Go p e below s _ _ T (mkF m 92 #[.val (.ref a), .val (.int p1), .val (.long q1), .second, .val (.long q2), .second] [])
  refine Go.of (fun _ kq => XS.aloadN X.here hx rfl (hb hby d1_92) rfl rfl kq) ?_
  show Go p e below s _ _ T (mkF m 93 #[.val (.ref a), .val (.int p1), .val (.long q1), .second, .val (.long q2), .second] [(.ref a)])
  refine Go.newO X hx hZ hown (hw _ (List.mem_of_getElem? (i := 35) rfl)) (hw _ (List.mem_of_getElem? (i := 36) rfl)) (hw _ (List.mem_of_getElem? (i := 37) rfl)) eT (hb hby d1_93) (by decide) (by decide) ?_
  intro T h b93 X eT E ha E_b93 D_b93
  have ne_a_b93 : a ≠ b93 := by rw [ha]; exact Nat.ne_of_lt E_a.lt
  have ne_b16_b93 : b16 ≠ b93 := by rw [ha]; exact Nat.ne_of_lt V_b16.lt
  have ne_b61_b93 : b61 ≠ b93 := by rw [ha]; exact Nat.ne_of_lt V_b61.lt
  have ne_b70_b93 : b70 ≠ b93 := by rw [ha]; exact Nat.ne_of_lt V_b70.lt
  have z_b93 : h0.size ≤ b93 := by rw [ha]; exact K.1
  have g_b93 : n0 ≤ b93 := Nat.le_trans Z0 z_b93
  have K := K.ext E
  have E_a := E_a.ext E
  have F_held_a := F_held_a.ext E
  have F_firsts_a := F_firsts_a.ext E
  have F_lasts_a := F_lasts_a.ext E
  have F_share_a := F_share_a.ext E
  have F_recent_a := F_recent_a.ext E
  have F_heldByClients_a := F_heldByClients_a.ext E
  have F_heldByGroups_a := F_heldByGroups_a.ext E
  have V_b16 := V_b16.ext E
  have V_b61 := V_b61.ext E
  have V_b70 := V_b70.ext E
  have F_clients_b93 : Fld Z h b93 "com/example/credence/credence/oauth1/HeavyHitters" "clients" "[I" .null := D_b93 (Or.inr (hw _ (List.mem_of_getElem? (i := 43) rfl))) (ty := (.array .int)) (by decide)
  have F_counts_b93 : Fld Z h b93 "com/example/credence/credence/oauth1/HeavyHitters" "counts" "[I" .null := D_b93 (Or.inr (hw _ (List.mem_of_getElem? (i := 45) rfl))) (ty := (.array .int)) (by decide)
  have F_grouped_b93 : Fld Z h b93 "com/example/credence/credence/oauth1/HeavyHitters" "grouped" "[I" .null := D_b93 (Or.inr (hw _ (List.mem_of_getElem? (i := 47) rfl))) (ty := (.array .int)) (by decide)
  have F_groupedFirsts_b93 : Fld Z h b93 "com/example/credence/credence/oauth1/HeavyHitters" "groupedFirsts" "[J" .null := D_b93 (Or.inr (hw _ (List.mem_of_getElem? (i := 49) rfl))) (ty := (.array .long)) (by decide)
  have F_groupedLasts_b93 : Fld Z h b93 "com/example/credence/credence/oauth1/HeavyHitters" "groupedLasts" "[J" .null := D_b93 (Or.inr (hw _ (List.mem_of_getElem? (i := 51) rfl))) (ty := (.array .long)) (by decide)
  have F_halfLife_b93 : Fld Z h b93 "com/example/credence/credence/oauth1/HeavyHitters" "halfLife" "J" (.long (0 : Int64)) := D_b93 (Or.inr (hw _ (List.mem_of_getElem? (i := 53) rfl))) (ty := .long) (by decide)
  have F_most_b93 : Fld Z h b93 "com/example/credence/credence/oauth1/HeavyHitters" "most" "I" (.int (0 : Int32)) := D_b93 (Or.inr (hw _ (List.mem_of_getElem? (i := 55) rfl))) (ty := .int) (by decide)
  have F_halvedAt_b93 : Fld Z h b93 "com/example/credence/credence/oauth1/HeavyHitters" "halvedAt" "J" (.long (0 : Int64)) := D_b93 (Or.inl (hw _ (List.mem_of_getElem? (i := 57) rfl))) (ty := .long) (by decide)
  show Go p e below s _ _ T (mkF m 96 #[.val (.ref a), .val (.int p1), .val (.long q1), .second, .val (.long q2), .second] [(.ref b93), (.ref a)])
  refine Go.of (fun _ kq => XS.dup X.here hx rfl (hb hby d1_96) rfl rfl kq) ?_
  show Go p e below s _ _ T (mkF m 97 #[.val (.ref a), .val (.int p1), .val (.long q1), .second, .val (.long q2), .second] [(.ref b93), (.ref b93), (.ref a)])
  refine Go.of (fun _ kq => XS.lloadN X.here hx rfl (hb hby d1_97) rfl kq) ?_
  show Go p e below s _ _ T (mkF m 98 #[.val (.ref a), .val (.int p1), .val (.long q1), .second, .val (.long q2), .second] [(.long q1), (.ref b93), (.ref b93), (.ref a)])
  refine Go.of (fun _ kq => XS.iconst X.here hx rfl (hb hby d1_98) kq) ?_
  show Go p e below s _ _ T (mkF m 99 #[.val (.ref a), .val (.int p1), .val (.long q1), .second, .val (.long q2), .second] [(.int (2 : Int32)), (.long q1), (.ref b93), (.ref b93), (.ref a)])
  refine Go.of (fun _ kq => XS.aloadN X.here hx rfl (hb hby d1_99) rfl rfl kq) ?_
  show Go p e below s _ _ T (mkF m 100 #[.val (.ref a), .val (.int p1), .val (.long q1), .second, .val (.long q2), .second] [(.ref a), (.int (2 : Int32)), (.long q1), (.ref b93), (.ref b93), (.ref a)])
  refine Go.getF X hx hZ hown (hw _ (List.mem_of_getElem? (i := 33) rfl)) Via.refl eT F_share_a (hb hby d1_100) ?_
  intro T X eT
  show Go p e below s _ _ T (mkF m 103 #[.val (.ref a), .val (.int p1), .val (.long q1), .second, .val (.long q2), .second] [(.int r), (.int (2 : Int32)), (.long q1), (.ref b93), (.ref b93), (.ref a)])
  refine Go.of (fun _ kq => XS.imul X.here hx rfl (hb hby d1_103) rfl kq) ?_
  show Go p e below s _ _ T (mkF m 104 #[.val (.ref a), .val (.int p1), .val (.long q1), .second, .val (.long q2), .second] [(.int ((2 : Int32) * r)), (.long q1), (.ref b93), (.ref b93), (.ref a)])
  refine Go.of (fun _ kq => XS.lload X.here hx rfl (hb hby d1_104) rfl kq) ?_
  show Go p e below s _ _ T (mkF m 106 #[.val (.ref a), .val (.int p1), .val (.long q1), .second, .val (.long q2), .second] [(.long q2), (.int ((2 : Int32) * r)), (.long q1), (.ref b93), (.ref b93), (.ref a)])
  refine Go.special (a := b93) X hx hZ hown rfl (hw _ (List.mem_of_getElem? (i := 38) rfl)) (hw _ (List.mem_of_getElem? (i := 39) rfl)) (hw _ (List.mem_of_getElem? (i := 37) rfl)) (hw _ (List.mem_of_getElem? (i := 40) rfl)) (by decide) (rmHH hw b93 q1 ((2 : Int32) * r) q2 _ n0 (Nat.le_trans Z0 K.1) g_b93 E_b93 F_clients_b93 F_counts_b93 F_grouped_b93 F_groupedFirsts_b93 F_groupedLasts_b93 F_halfLife_b93 F_most_b93 F_halvedAt_b93) eT 2 (by decide) (by decide) (by decide) (by decide) (by rw [hml]; rfl) (argsL := [(.long q1), (.int ((2 : Int32) * r)), (.long q2)]) [(.ref b93), (.ref a)] (lenOf pd2 rfl) rfl rfl (Nat.le_of_eq rfl) (hb hby d1_106) ?_
  intro v T L' X hQ
  obtain ⟨h, eT⟩ : ∃ z, T.heap = z := ⟨_, rfl⟩
  rw [eT] at hQ
  obtain ⟨rfl, N', K'⟩ := hQ
  have N := Fr.app N N'
  have K := K.trans K' (own_all1 (Or.inr z_b93))
  have E_a := E_a.keep K'
  have F_held_a := F_held_a.keep K' (own_ni1 ne_a_b93)
  have F_firsts_a := F_firsts_a.keep K' (own_ni1 ne_a_b93)
  have F_lasts_a := F_lasts_a.keep K' (own_ni1 ne_a_b93)
  have F_recent_a := F_recent_a.keep K' (own_ni1 ne_a_b93)
  have F_heldByClients_a := F_heldByClients_a.keep K' (own_ni1 ne_a_b93)
  have F_heldByGroups_a := F_heldByGroups_a.keep K' (own_ni1 ne_a_b93)
  have V_b16 := V_b16.keep K' (own_ni1 ne_b16_b93)
  have V_b61 := V_b61.keep K' (own_ni1 ne_b61_b93)
  have V_b70 := V_b70.keep K' (own_ni1 ne_b70_b93)
  have E_b93 := E_b93.keep K'
  show Go p e below s _ _ T (mkF m 109 #[.val (.ref a), .val (.int p1), .val (.long q1), .second, .val (.long q2), .second] [(.ref b93), (.ref a)])
  refine Go.putF X hx hZ hown (hw _ (List.mem_of_getElem? (i := 58) rfl)) Via.refl eT F_recent_a E_a (Or.inr ⟨(hw _ (List.mem_of_getElem? (i := 59) rfl)), rfl, hnm⟩) (hw _ (List.mem_of_getElem? (i := 1) rfl)) (ty := (.object "com/example/credence/credence/oauth1/HeavyHitters")) (by decide) rfl rfl (hb hby d1_109) ?_
  intro T h X eT wr
  have N := Fr.snoc X N g_a
  have K := K.wr wr (Or.inl (List.mem_of_getElem? (i := 0) rfl))
  have E_a := E_a.wr wr
  have F_held_a := F_held_a.other wr (Or.inr (slot_ne (Or.inr (hw _ (List.mem_of_getElem? (i := 13) rfl))) (Or.inr (hw _ (List.mem_of_getElem? (i := 59) rfl))) (by decide) (t := (.array .int)) (t' := (.object "com/example/credence/credence/oauth1/HeavyHitters")) (by decide) (by decide)))
  have F_firsts_a := F_firsts_a.other wr (Or.inr (slot_ne (Or.inr (hw _ (List.mem_of_getElem? (i := 24) rfl))) (Or.inr (hw _ (List.mem_of_getElem? (i := 59) rfl))) (by decide) (t := (.array .long)) (t' := (.object "com/example/credence/credence/oauth1/HeavyHitters")) (by decide) (by decide)))
  have F_lasts_a := F_lasts_a.other wr (Or.inr (slot_ne (Or.inr (hw _ (List.mem_of_getElem? (i := 26) rfl))) (Or.inr (hw _ (List.mem_of_getElem? (i := 59) rfl))) (by decide) (t := (.array .long)) (t' := (.object "com/example/credence/credence/oauth1/HeavyHitters")) (by decide) (by decide)))
  have F_recent_a := F_recent_a.same wr
  have F_heldByClients_a := F_heldByClients_a.other wr (Or.inr (slot_ne (Or.inl (hw _ (List.mem_of_getElem? (i := 72) rfl))) (Or.inr (hw _ (List.mem_of_getElem? (i := 59) rfl))) (by decide) (t := .int) (t' := (.object "com/example/credence/credence/oauth1/HeavyHitters")) (by decide) (by decide)))
  have F_heldByGroups_a := F_heldByGroups_a.other wr (Or.inr (slot_ne (Or.inl (hw _ (List.mem_of_getElem? (i := 101) rfl))) (Or.inr (hw _ (List.mem_of_getElem? (i := 59) rfl))) (by decide) (t := .int) (t' := (.object "com/example/credence/credence/oauth1/HeavyHitters")) (by decide) (by decide)))
  have V_b16 := V_b16.other wr (Ne.symm ne_a_b16)
  have V_b61 := V_b61.other wr (Ne.symm ne_a_b61)
  have V_b70 := V_b70.other wr (Ne.symm ne_a_b70)
  have E_b93 := E_b93.wr wr
  show Go p e below s _ _ T (mkF m 112 #[.val (.ref a), .val (.int p1), .val (.long q1), .second, .val (.long q2), .second] [])
  refine Go.of (fun _ kq => XS.aloadN X.here hx rfl (hb hby d1_112) rfl rfl kq) ?_
  show Go p e below s _ _ T (mkF m 113 #[.val (.ref a), .val (.int p1), .val (.long q1), .second, .val (.long q2), .second] [(.ref a)])
  refine Go.getF X hx hZ hown (hw _ (List.mem_of_getElem? (i := 23) rfl)) Via.refl eT F_firsts_a (hb hby d1_113) ?_
  intro T X eT
  show Go p e below s _ _ T (mkF m 116 #[.val (.ref a), .val (.int p1), .val (.long q1), .second, .val (.long q2), .second] [(.ref b61)])
  refine Go.of (X.ldc2Long hx hown (mvT hZ (hw _ (List.mem_of_getElem? (i := 60) rfl))) (g := (mkF m 116 #[.val (.ref a), .val (.int p1), .val (.long q1), .second, .val (.long q2), .second] [(.ref b61)])) rfl (hb hby d1_116)) ?_
  show Go p e below s _ _ T (mkF m 119 #[.val (.ref a), .val (.int p1), .val (.long q1), .second, .val (.long q2), .second] [(.long (9223372036854775807 : Int64)), (.ref b61)])
  refine Go.static X hx hZ hown (hw _ (List.mem_of_getElem? (i := 61) rfl)) (hw _ (List.mem_of_getElem? (i := 62) rfl)) (hw _ (List.mem_of_getElem? (i := 63) rfl)) (hw _ (List.mem_of_getElem? (i := 64) rfl)) (by decide) (rmFill hw b61 (9223372036854775807 : Int64) _ _ n0 g_b61 V_b61) eT 0 (by decide) (by decide) (by decide) (by decide) (by rw [hml]; rfl) (argsL := [(.ref b61), (.long (9223372036854775807 : Int64))]) [] (lenOf pd3 rfl) rfl rfl (Nat.le_of_eq rfl) (hb hby d1_119) ?_
  intro v T L' X hQ
  obtain ⟨h, eT⟩ : ∃ z, T.heap = z := ⟨_, rfl⟩
  rw [eT] at hQ
  obtain ⟨rfl, N', K'⟩ := hQ
  have N := Fr.app N N'
  have K := K.trans K' (own_all1 (Or.inr z_b61))
  have E_a := E_a.keep K'
  have F_held_a := F_held_a.keep K' (own_ni1 ne_a_b61)
  have F_firsts_a := F_firsts_a.keep K' (own_ni1 ne_a_b61)
  have F_lasts_a := F_lasts_a.keep K' (own_ni1 ne_a_b61)
  have F_heldByClients_a := F_heldByClients_a.keep K' (own_ni1 ne_a_b61)
  have F_heldByGroups_a := F_heldByGroups_a.keep K' (own_ni1 ne_a_b61)
  have V_b16 := V_b16.keep K' (own_ni1 ne_b16_b61)
  have V_b70 := V_b70.keep K' (own_ni1 (Ne.symm ne_b61_b70))
  show Go p e below s _ _ T (mkF m 122 #[.val (.ref a), .val (.int p1), .val (.long q1), .second, .val (.long q2), .second] [])
  refine Go.of (fun _ kq => XS.aloadN X.here hx rfl (hb hby d1_122) rfl rfl kq) ?_
  show Go p e below s _ _ T (mkF m 123 #[.val (.ref a), .val (.int p1), .val (.long q1), .second, .val (.long q2), .second] [(.ref a)])
  refine Go.getF X hx hZ hown (hw _ (List.mem_of_getElem? (i := 25) rfl)) Via.refl eT F_lasts_a (hb hby d1_123) ?_
  intro T X eT
  show Go p e below s _ _ T (mkF m 126 #[.val (.ref a), .val (.int p1), .val (.long q1), .second, .val (.long q2), .second] [(.ref b70)])
  refine Go.of (X.ldc2Long hx hown (mvT hZ (hw _ (List.mem_of_getElem? (i := 65) rfl))) (g := (mkF m 126 #[.val (.ref a), .val (.int p1), .val (.long q1), .second, .val (.long q2), .second] [(.ref b70)])) rfl (hb hby d1_126)) ?_
  show Go p e below s _ _ T (mkF m 129 #[.val (.ref a), .val (.int p1), .val (.long q1), .second, .val (.long q2), .second] [(.long (-9223372036854775808 : Int64)), (.ref b70)])
  refine Go.static X hx hZ hown (hw _ (List.mem_of_getElem? (i := 61) rfl)) (hw _ (List.mem_of_getElem? (i := 62) rfl)) (hw _ (List.mem_of_getElem? (i := 63) rfl)) (hw _ (List.mem_of_getElem? (i := 64) rfl)) (by decide) (rmFill hw b70 (-9223372036854775808 : Int64) _ _ n0 g_b70 V_b70) eT 0 (by decide) (by decide) (by decide) (by decide) (by rw [hml]; rfl) (argsL := [(.ref b70), (.long (-9223372036854775808 : Int64))]) [] (lenOf pd3 rfl) rfl rfl (Nat.le_of_eq rfl) (hb hby d1_129) ?_
  intro v T L' X hQ
  obtain ⟨h, eT⟩ : ∃ z, T.heap = z := ⟨_, rfl⟩
  rw [eT] at hQ
  obtain ⟨rfl, N', K'⟩ := hQ
  have N := Fr.app N N'
  have K := K.trans K' (own_all1 (Or.inr z_b70))
  have E_a := E_a.keep K'
  have F_held_a := F_held_a.keep K' (own_ni1 ne_a_b70)
  have F_firsts_a := F_firsts_a.keep K' (own_ni1 ne_a_b70)
  have F_lasts_a := F_lasts_a.keep K' (own_ni1 ne_a_b70)
  have F_heldByClients_a := F_heldByClients_a.keep K' (own_ni1 ne_a_b70)
  have F_heldByGroups_a := F_heldByGroups_a.keep K' (own_ni1 ne_a_b70)
  have V_b16 := V_b16.keep K' (own_ni1 ne_b16_b70)
  show Go p e below s _ _ T (mkF m 132 #[.val (.ref a), .val (.int p1), .val (.long q1), .second, .val (.long q2), .second] [])
  refine Go.retV X hx hret hlk (hb hby d1_132) (by decide) (by decide) ?_
  try rw [eT]
  exact ⟨rfl, N, K, b16, z_b16, ne_a_b16, F_held_a, F_heldByClients_a, F_heldByGroups_a, V_b16⟩
theorem d6_0 : decode prog_14_method_13_code 0 = .ok (.aload_n 0, 1) := by decide +kernel
theorem d6_1 : decode prog_14_method_13_code 1 = .ok (.getfield 17, 3) := by decide +kernel
theorem d6_4 : decode prog_14_method_13_code 4 = .ok (.iload_n 1, 1) := by decide +kernel
theorem d6_5 : decode prog_14_method_13_code 5 = .ok (.dup2, 1) := by decide +kernel
theorem d6_6 : decode prog_14_method_13_code 6 = .ok (.iaload, 1) := by decide +kernel
theorem d6_7 : decode prog_14_method_13_code 7 = .ok (.iconst 1, 1) := by decide +kernel
theorem d6_8 : decode prog_14_method_13_code 8 = .ok (.iadd, 1) := by decide +kernel
theorem d6_9 : decode prog_14_method_13_code 9 = .ok (.iastore, 1) := by decide +kernel
theorem d6_10 : decode prog_14_method_13_code 10 = .ok (.iload_n 1, 1) := by decide +kernel
theorem d6_11 : decode prog_14_method_13_code 11 = .ok (.bipush 64, 2) := by decide +kernel
theorem d6_13 : decode prog_14_method_13_code 13 = .ok (.if_icmp .ge 16, 3) := by decide +kernel
theorem d6_16 : decode prog_14_method_13_code 16 = .ok (.aload_n 0, 1) := by decide +kernel
theorem d6_17 : decode prog_14_method_13_code 17 = .ok (.dup, 1) := by decide +kernel
theorem d6_18 : decode prog_14_method_13_code 18 = .ok (.getfield 113, 3) := by decide +kernel
theorem d6_21 : decode prog_14_method_13_code 21 = .ok (.iconst 1, 1) := by decide +kernel
theorem d6_22 : decode prog_14_method_13_code 22 = .ok (.iadd, 1) := by decide +kernel
theorem d6_23 : decode prog_14_method_13_code 23 = .ok (.putfield 113, 3) := by decide +kernel
theorem d6_26 : decode prog_14_method_13_code 26 = .ok (.goto 13, 3) := by decide +kernel
theorem d6_29 : decode prog_14_method_13_code 29 = .ok (.aload_n 0, 1) := by decide +kernel
theorem d6_30 : decode prog_14_method_13_code 30 = .ok (.dup, 1) := by decide +kernel
theorem d6_31 : decode prog_14_method_13_code 31 = .ok (.getfield 116, 3) := by decide +kernel
theorem d6_34 : decode prog_14_method_13_code 34 = .ok (.iconst 1, 1) := by decide +kernel
theorem d6_35 : decode prog_14_method_13_code 35 = .ok (.iadd, 1) := by decide +kernel
theorem d6_36 : decode prog_14_method_13_code 36 = .ok (.putfield 116, 3) := by decide +kernel
theorem d6_39 : decode prog_14_method_13_code 39 = .ok (.return_, 1) := by decide +kernel
theorem pn6 : plainFor (⟨"com/example/credence/credence/oauth1/Owners", "kept", "(I)V"⟩ : MethodName) = true := plainFor_of_name (by first | (simp [plainName, overriddenIn]; done) | decide +kernel)
theorem ef_rmKept (m : MethodId) (x0 : Addr) (x1 : Int32) : entryFrame m #[(.ref x0), (.int x1)] 2 = mkF m 0 #[.val (.ref x0), .val (.int x1)] [] := by first | (simp [entryFrame, mkF, argsToLocals, Value.category]; done) | rfl
set_option maxRecDepth 65536 in
set_option maxHeartbeats 40000000 in
theorem rmKept {l : Launch} {Z : State} {a0 : Array Value} (hw : ∀ d ∈ tables_1, d.before a0 Z = true) (a : Addr) (k : Int32) (d : Addr) (H : Nat → Int32) (c0 g0 : Int32) (h0 : Heap) (n0 : Nat) (g_a : n0 ≤ a) (g_d : n0 ≤ d) (ne_a_d : a ≠ d) (hk : Inb k 4096) (E_a : Exa Z h0 a "com/example/credence/credence/oauth1/Owners") (F_held_a : Fld Z h0 a "com/example/credence/credence/oauth1/Owners" "held" "[I" (.ref d)) (F_heldByClients_a : Fld Z h0 a "com/example/credence/credence/oauth1/Owners" "heldByClients" "I" (.int c0)) (F_heldByGroups_a : Fld Z h0 a "com/example/credence/credence/oauth1/Owners" "heldByGroups" "I" (.int g0)) (V_d : AV Z h0 d .int 4096 (fun j => .int (H j))) :
    Met l Z (⟨"com/example/credence/credence/oauth1/Owners", "kept", "(I)V"⟩ : MethodName) prog_14_method_13_code 2 none [] ({ frames := 0, cells := 0, slots := 0, locals := 0 } : Room) #[(.ref a), (.int k)] h0 (fun v h L => v = none ∧ Fr n0 L ∧ Keep h0 h [a, d] ∧ Fld Z h a "com/example/credence/credence/oauth1/Owners" "held" "[I" (.ref d) ∧ Fld Z h a "com/example/credence/credence/oauth1/Owners" "heldByClients" "I" (.int (own_kc c0 k 1)) ∧ Fld Z h a "com/example/credence/credence/oauth1/Owners" "heldByGroups" "I" (.int (own_kg g0 k 1)) ∧ AV Z h d .int 4096 (fun j => .int (own_H H k 1 j))) := by
  refine Met.mk pn6 ?_
  intro p e s m below meth c T hx hby hml hown hnm hret hlk hZ X eT
  refine Go.cast (ef_rmKept m a k) ?_
  have N := Fr.nil n0
  have K := Keep.refl h0 [a, d]
  show Go p e below s _ _ T (mkF m 0 #[.val (.ref a), .val (.int k)] [])
  refine Go.of (fun _ kq => XS.aloadN X.here hx rfl (hb hby d6_0) rfl rfl kq) ?_
  show Go p e below s _ _ T (mkF m 1 #[.val (.ref a), .val (.int k)] [(.ref a)])
  refine Go.getF X hx hZ hown (hw _ (List.mem_of_getElem? (i := 12) rfl)) Via.refl eT F_held_a (hb hby d6_1) ?_
  intro T X eT
  show Go p e below s _ _ T (mkF m 4 #[.val (.ref a), .val (.int k)] [(.ref d)])
  refine Go.of (fun _ kq => XS.iloadN X.here hx rfl (hb hby d6_4) rfl kq) ?_
  show Go p e below s _ _ T (mkF m 5 #[.val (.ref a), .val (.int k)] [(.int k), (.ref d)])
  refine Go.of (fun _ kq => XT.dup2 X.here hx rfl (hb hby d6_5) rfl rfl rfl kq) ?_
  show Go p e below s _ _ T (mkF m 6 #[.val (.ref a), .val (.int k)] [(.int k), (.ref d), (.int k), (.ref d)])
  refine Go.ldI (.int (H k.toNatClampNeg)) X hx hZ eT V_d (show Inb k 4096 from hk) rfl (hb hby d6_6) ?_
  show Go p e below s _ _ T (mkF m 7 #[.val (.ref a), .val (.int k)] [(.int (H k.toNatClampNeg)), (.int k), (.ref d)])
  refine Go.of (fun _ kq => XS.iconst X.here hx rfl (hb hby d6_7) kq) ?_
  show Go p e below s _ _ T (mkF m 8 #[.val (.ref a), .val (.int k)] [(.int (1 : Int32)), (.int (H k.toNatClampNeg)), (.int k), (.ref d)])
  refine Go.of (fun _ kq => XS.iadd X.here hx rfl (hb hby d6_8) rfl kq) ?_
  show Go p e below s _ _ T (mkF m 9 #[.val (.ref a), .val (.int k)] [(.int ((H k.toNatClampNeg) + (1 : Int32))), (.int k), (.ref d)])
  have hin : Inb k 4096 := hk
  refine Go.stI X hx hZ eT V_d hin (hb hby d6_9) ?_
  intro T h X eT wr
  have N := Fr.snoc X N g_d
  have K := K.wr wr (Or.inl (List.mem_of_getElem? (i := 1) rfl))
  have E_a := E_a.wr wr
  have F_held_a := F_held_a.other wr (Or.inl ne_a_d)
  have F_heldByClients_a := F_heldByClients_a.other wr (Or.inl ne_a_d)
  have F_heldByGroups_a := F_heldByGroups_a.other wr (Or.inl ne_a_d)
  have V_d := V_d.set wr hin.2
  show Go p e below s _ _ T (mkF m 10 #[.val (.ref a), .val (.int k)] [])
  refine Go.of (fun _ kq => XS.iloadN X.here hx rfl (hb hby d6_10) rfl kq) ?_
  show Go p e below s _ _ T (mkF m 11 #[.val (.ref a), .val (.int k)] [(.int k)])
  refine Go.of (fun _ kq => XS.bipush X.here hx rfl (hb hby d6_11) kq) ?_
  show Go p e below s _ _ T (mkF m 13 #[.val (.ref a), .val (.int k)] [(.int (64 : Int32)), (.int k)])
  by_cases hc13 : k < (64 : Int32)
  · refine Go.of (fun _ kq => XS.icmpNo X.here hx rfl (hb hby d6_13) rfl (tlt hc13).2.1 kq) ?_
    show Go p e below s _ _ T (mkF m 16 #[.val (.ref a), .val (.int k)] [])
    refine Go.of (fun _ kq => XS.aloadN X.here hx rfl (hb hby d6_16) rfl rfl kq) ?_
    show Go p e below s _ _ T (mkF m 17 #[.val (.ref a), .val (.int k)] [(.ref a)])
    refine Go.of (fun _ kq => XS.dup X.here hx rfl (hb hby d6_17) rfl rfl kq) ?_
    show Go p e below s _ _ T (mkF m 18 #[.val (.ref a), .val (.int k)] [(.ref a), (.ref a)])
    refine Go.getF X hx hZ hown (hw _ (List.mem_of_getElem? (i := 71) rfl)) Via.refl eT F_heldByClients_a (hb hby d6_18) ?_
    intro T X eT
    show Go p e below s _ _ T (mkF m 21 #[.val (.ref a), .val (.int k)] [(.int c0), (.ref a)])
    refine Go.of (fun _ kq => XS.iconst X.here hx rfl (hb hby d6_21) kq) ?_
    show Go p e below s _ _ T (mkF m 22 #[.val (.ref a), .val (.int k)] [(.int (1 : Int32)), (.int c0), (.ref a)])
    refine Go.of (fun _ kq => XS.iadd X.here hx rfl (hb hby d6_22) rfl kq) ?_
    show Go p e below s _ _ T (mkF m 23 #[.val (.ref a), .val (.int k)] [(.int (c0 + (1 : Int32))), (.ref a)])
    refine Go.putF X hx hZ hown (hw _ (List.mem_of_getElem? (i := 71) rfl)) Via.refl eT F_heldByClients_a E_a (Or.inl (hw _ (List.mem_of_getElem? (i := 72) rfl))) (hw _ (List.mem_of_getElem? (i := 1) rfl)) (ty := .int) (by decide) rfl rfl (hb hby d6_23) ?_
    intro T h X eT wr
    have N := Fr.snoc X N g_a
    have K := K.wr wr (Or.inl (List.mem_of_getElem? (i := 0) rfl))
    have E_a := E_a.wr wr
    have F_held_a := F_held_a.other wr (Or.inr (slot_ne (Or.inr (hw _ (List.mem_of_getElem? (i := 13) rfl))) (Or.inl (hw _ (List.mem_of_getElem? (i := 72) rfl))) (by decide) (t := (.array .int)) (t' := .int) (by decide) (by decide)))
    have F_heldByClients_a := F_heldByClients_a.same wr
    have F_heldByGroups_a := F_heldByGroups_a.other wr (Or.inr (slot_ne (Or.inl (hw _ (List.mem_of_getElem? (i := 101) rfl))) (Or.inl (hw _ (List.mem_of_getElem? (i := 72) rfl))) (by decide) (t := .int) (t' := .int) (by decide) (by decide)))
    have V_d := V_d.other wr (Ne.symm ne_a_d)
    show Go p e below s _ _ T (mkF m 26 #[.val (.ref a), .val (.int k)] [])
    refine Go.of (fun _ kq => XS.goto X.here hx rfl (pc0 := 26) (pc' := 39) rfl (hb hby d6_26) (by decide) (by decide) kq) ?_
    show Go p e below s _ _ T (mkF m 39 #[.val (.ref a), .val (.int k)] [])
    refine Go.retV X hx hret hlk (hb hby d6_39) (by decide) (by decide) ?_
    try rw [eT]
    exact ⟨rfl, N, K, F_held_a, by simpa [own_kc, hc13, own_subneg] using F_heldByClients_a, by simpa [own_kg, hc13, own_subneg] using F_heldByGroups_a, V_d.congr (fun j hj => by unfold upd own_H; by_cases q : j = k.toNatClampNeg <;> simp [q, own_subneg])⟩
  · refine Go.of (fun _ kq => XS.icmpYes X.here hx rfl (pc0 := 13) (pc' := 29) rfl (hb hby d6_13) rfl (flt hc13).2.1 (by decide) (by decide) kq) ?_
    show Go p e below s _ _ T (mkF m 29 #[.val (.ref a), .val (.int k)] [])
    refine Go.of (fun _ kq => XS.aloadN X.here hx rfl (hb hby d6_29) rfl rfl kq) ?_
    show Go p e below s _ _ T (mkF m 30 #[.val (.ref a), .val (.int k)] [(.ref a)])
    refine Go.of (fun _ kq => XS.dup X.here hx rfl (hb hby d6_30) rfl rfl kq) ?_
    show Go p e below s _ _ T (mkF m 31 #[.val (.ref a), .val (.int k)] [(.ref a), (.ref a)])
    refine Go.getF X hx hZ hown (hw _ (List.mem_of_getElem? (i := 100) rfl)) Via.refl eT F_heldByGroups_a (hb hby d6_31) ?_
    intro T X eT
    show Go p e below s _ _ T (mkF m 34 #[.val (.ref a), .val (.int k)] [(.int g0), (.ref a)])
    refine Go.of (fun _ kq => XS.iconst X.here hx rfl (hb hby d6_34) kq) ?_
    show Go p e below s _ _ T (mkF m 35 #[.val (.ref a), .val (.int k)] [(.int (1 : Int32)), (.int g0), (.ref a)])
    refine Go.of (fun _ kq => XS.iadd X.here hx rfl (hb hby d6_35) rfl kq) ?_
    show Go p e below s _ _ T (mkF m 36 #[.val (.ref a), .val (.int k)] [(.int (g0 + (1 : Int32))), (.ref a)])
    refine Go.putF X hx hZ hown (hw _ (List.mem_of_getElem? (i := 100) rfl)) Via.refl eT F_heldByGroups_a E_a (Or.inl (hw _ (List.mem_of_getElem? (i := 101) rfl))) (hw _ (List.mem_of_getElem? (i := 1) rfl)) (ty := .int) (by decide) rfl rfl (hb hby d6_36) ?_
    intro T h X eT wr
    have N := Fr.snoc X N g_a
    have K := K.wr wr (Or.inl (List.mem_of_getElem? (i := 0) rfl))
    have E_a := E_a.wr wr
    have F_held_a := F_held_a.other wr (Or.inr (slot_ne (Or.inr (hw _ (List.mem_of_getElem? (i := 13) rfl))) (Or.inl (hw _ (List.mem_of_getElem? (i := 101) rfl))) (by decide) (t := (.array .int)) (t' := .int) (by decide) (by decide)))
    have F_heldByClients_a := F_heldByClients_a.other wr (Or.inr (slot_ne (Or.inl (hw _ (List.mem_of_getElem? (i := 72) rfl))) (Or.inl (hw _ (List.mem_of_getElem? (i := 101) rfl))) (by decide) (t := .int) (t' := .int) (by decide) (by decide)))
    have F_heldByGroups_a := F_heldByGroups_a.same wr
    have V_d := V_d.other wr (Ne.symm ne_a_d)
    show Go p e below s _ _ T (mkF m 39 #[.val (.ref a), .val (.int k)] [])
    refine Go.retV X hx hret hlk (hb hby d6_39) (by decide) (by decide) ?_
    try rw [eT]
    exact ⟨rfl, N, K, F_held_a, by simpa [own_kc, hc13, own_subneg] using F_heldByClients_a, by simpa [own_kg, hc13, own_subneg] using F_heldByGroups_a, V_d.congr (fun j hj => by unfold upd own_H; by_cases q : j = k.toNatClampNeg <;> simp [q, own_subneg])⟩
theorem d7_0 : decode prog_14_method_14_code 0 = .ok (.aload_n 0, 1) := by decide +kernel
theorem d7_1 : decode prog_14_method_14_code 1 = .ok (.getfield 17, 3) := by decide +kernel
theorem d7_4 : decode prog_14_method_14_code 4 = .ok (.iload_n 1, 1) := by decide +kernel
theorem d7_5 : decode prog_14_method_14_code 5 = .ok (.dup2, 1) := by decide +kernel
theorem d7_6 : decode prog_14_method_14_code 6 = .ok (.iaload, 1) := by decide +kernel
theorem d7_7 : decode prog_14_method_14_code 7 = .ok (.iconst 1, 1) := by decide +kernel
theorem d7_8 : decode prog_14_method_14_code 8 = .ok (.isub, 1) := by decide +kernel
theorem d7_9 : decode prog_14_method_14_code 9 = .ok (.iastore, 1) := by decide +kernel
theorem d7_10 : decode prog_14_method_14_code 10 = .ok (.iload_n 1, 1) := by decide +kernel
theorem d7_11 : decode prog_14_method_14_code 11 = .ok (.bipush 64, 2) := by decide +kernel
theorem d7_13 : decode prog_14_method_14_code 13 = .ok (.if_icmp .ge 16, 3) := by decide +kernel
theorem d7_16 : decode prog_14_method_14_code 16 = .ok (.aload_n 0, 1) := by decide +kernel
theorem d7_17 : decode prog_14_method_14_code 17 = .ok (.dup, 1) := by decide +kernel
theorem d7_18 : decode prog_14_method_14_code 18 = .ok (.getfield 113, 3) := by decide +kernel
theorem d7_21 : decode prog_14_method_14_code 21 = .ok (.iconst 1, 1) := by decide +kernel
theorem d7_22 : decode prog_14_method_14_code 22 = .ok (.isub, 1) := by decide +kernel
theorem d7_23 : decode prog_14_method_14_code 23 = .ok (.putfield 113, 3) := by decide +kernel
theorem d7_26 : decode prog_14_method_14_code 26 = .ok (.goto 13, 3) := by decide +kernel
theorem d7_29 : decode prog_14_method_14_code 29 = .ok (.aload_n 0, 1) := by decide +kernel
theorem d7_30 : decode prog_14_method_14_code 30 = .ok (.dup, 1) := by decide +kernel
theorem d7_31 : decode prog_14_method_14_code 31 = .ok (.getfield 116, 3) := by decide +kernel
theorem d7_34 : decode prog_14_method_14_code 34 = .ok (.iconst 1, 1) := by decide +kernel
theorem d7_35 : decode prog_14_method_14_code 35 = .ok (.isub, 1) := by decide +kernel
theorem d7_36 : decode prog_14_method_14_code 36 = .ok (.putfield 116, 3) := by decide +kernel
theorem d7_39 : decode prog_14_method_14_code 39 = .ok (.return_, 1) := by decide +kernel
theorem pn7 : plainFor (⟨"com/example/credence/credence/oauth1/Owners", "letGo", "(I)V"⟩ : MethodName) = true := plainFor_of_name (by first | (simp [plainName, overriddenIn]; done) | decide +kernel)
theorem ef_rmLet (m : MethodId) (x0 : Addr) (x1 : Int32) : entryFrame m #[(.ref x0), (.int x1)] 2 = mkF m 0 #[.val (.ref x0), .val (.int x1)] [] := by first | (simp [entryFrame, mkF, argsToLocals, Value.category]; done) | rfl
set_option maxRecDepth 65536 in
set_option maxHeartbeats 40000000 in
theorem rmLet {l : Launch} {Z : State} {a0 : Array Value} (hw : ∀ d ∈ tables_1, d.before a0 Z = true) (a : Addr) (k : Int32) (d : Addr) (H : Nat → Int32) (c0 g0 : Int32) (h0 : Heap) (n0 : Nat) (g_a : n0 ≤ a) (g_d : n0 ≤ d) (ne_a_d : a ≠ d) (hk : Inb k 4096) (E_a : Exa Z h0 a "com/example/credence/credence/oauth1/Owners") (F_held_a : Fld Z h0 a "com/example/credence/credence/oauth1/Owners" "held" "[I" (.ref d)) (F_heldByClients_a : Fld Z h0 a "com/example/credence/credence/oauth1/Owners" "heldByClients" "I" (.int c0)) (F_heldByGroups_a : Fld Z h0 a "com/example/credence/credence/oauth1/Owners" "heldByGroups" "I" (.int g0)) (V_d : AV Z h0 d .int 4096 (fun j => .int (H j))) :
    Met l Z (⟨"com/example/credence/credence/oauth1/Owners", "letGo", "(I)V"⟩ : MethodName) prog_14_method_14_code 2 none [] ({ frames := 0, cells := 0, slots := 0, locals := 0 } : Room) #[(.ref a), (.int k)] h0 (fun v h L => v = none ∧ Fr n0 L ∧ Keep h0 h [a, d] ∧ Fld Z h a "com/example/credence/credence/oauth1/Owners" "held" "[I" (.ref d) ∧ Fld Z h a "com/example/credence/credence/oauth1/Owners" "heldByClients" "I" (.int (own_kc c0 k (-1))) ∧ Fld Z h a "com/example/credence/credence/oauth1/Owners" "heldByGroups" "I" (.int (own_kg g0 k (-1))) ∧ AV Z h d .int 4096 (fun j => .int (own_H H k (-1) j))) := by
  refine Met.mk pn7 ?_
  intro p e s m below meth c T hx hby hml hown hnm hret hlk hZ X eT
  refine Go.cast (ef_rmLet m a k) ?_
  have N := Fr.nil n0
  have K := Keep.refl h0 [a, d]
  show Go p e below s _ _ T (mkF m 0 #[.val (.ref a), .val (.int k)] [])
  refine Go.of (fun _ kq => XS.aloadN X.here hx rfl (hb hby d7_0) rfl rfl kq) ?_
  show Go p e below s _ _ T (mkF m 1 #[.val (.ref a), .val (.int k)] [(.ref a)])
  refine Go.getF X hx hZ hown (hw _ (List.mem_of_getElem? (i := 12) rfl)) Via.refl eT F_held_a (hb hby d7_1) ?_
  intro T X eT
  show Go p e below s _ _ T (mkF m 4 #[.val (.ref a), .val (.int k)] [(.ref d)])
  refine Go.of (fun _ kq => XS.iloadN X.here hx rfl (hb hby d7_4) rfl kq) ?_
  show Go p e below s _ _ T (mkF m 5 #[.val (.ref a), .val (.int k)] [(.int k), (.ref d)])
  refine Go.of (fun _ kq => XT.dup2 X.here hx rfl (hb hby d7_5) rfl rfl rfl kq) ?_
  show Go p e below s _ _ T (mkF m 6 #[.val (.ref a), .val (.int k)] [(.int k), (.ref d), (.int k), (.ref d)])
  refine Go.ldI (.int (H k.toNatClampNeg)) X hx hZ eT V_d (show Inb k 4096 from hk) rfl (hb hby d7_6) ?_
  show Go p e below s _ _ T (mkF m 7 #[.val (.ref a), .val (.int k)] [(.int (H k.toNatClampNeg)), (.int k), (.ref d)])
  refine Go.of (fun _ kq => XS.iconst X.here hx rfl (hb hby d7_7) kq) ?_
  show Go p e below s _ _ T (mkF m 8 #[.val (.ref a), .val (.int k)] [(.int (1 : Int32)), (.int (H k.toNatClampNeg)), (.int k), (.ref d)])
  refine Go.of (fun _ kq => XS.isub X.here hx rfl (hb hby d7_8) rfl kq) ?_
  show Go p e below s _ _ T (mkF m 9 #[.val (.ref a), .val (.int k)] [(.int ((H k.toNatClampNeg) - (1 : Int32))), (.int k), (.ref d)])
  have hin : Inb k 4096 := hk
  refine Go.stI X hx hZ eT V_d hin (hb hby d7_9) ?_
  intro T h X eT wr
  have N := Fr.snoc X N g_d
  have K := K.wr wr (Or.inl (List.mem_of_getElem? (i := 1) rfl))
  have E_a := E_a.wr wr
  have F_held_a := F_held_a.other wr (Or.inl ne_a_d)
  have F_heldByClients_a := F_heldByClients_a.other wr (Or.inl ne_a_d)
  have F_heldByGroups_a := F_heldByGroups_a.other wr (Or.inl ne_a_d)
  have V_d := V_d.set wr hin.2
  show Go p e below s _ _ T (mkF m 10 #[.val (.ref a), .val (.int k)] [])
  refine Go.of (fun _ kq => XS.iloadN X.here hx rfl (hb hby d7_10) rfl kq) ?_
  show Go p e below s _ _ T (mkF m 11 #[.val (.ref a), .val (.int k)] [(.int k)])
  refine Go.of (fun _ kq => XS.bipush X.here hx rfl (hb hby d7_11) kq) ?_
  show Go p e below s _ _ T (mkF m 13 #[.val (.ref a), .val (.int k)] [(.int (64 : Int32)), (.int k)])
  by_cases hc13 : k < (64 : Int32)
  · refine Go.of (fun _ kq => XS.icmpNo X.here hx rfl (hb hby d7_13) rfl (tlt hc13).2.1 kq) ?_
    show Go p e below s _ _ T (mkF m 16 #[.val (.ref a), .val (.int k)] [])
    refine Go.of (fun _ kq => XS.aloadN X.here hx rfl (hb hby d7_16) rfl rfl kq) ?_
    show Go p e below s _ _ T (mkF m 17 #[.val (.ref a), .val (.int k)] [(.ref a)])
    refine Go.of (fun _ kq => XS.dup X.here hx rfl (hb hby d7_17) rfl rfl kq) ?_
    show Go p e below s _ _ T (mkF m 18 #[.val (.ref a), .val (.int k)] [(.ref a), (.ref a)])
    refine Go.getF X hx hZ hown (hw _ (List.mem_of_getElem? (i := 71) rfl)) Via.refl eT F_heldByClients_a (hb hby d7_18) ?_
    intro T X eT
    show Go p e below s _ _ T (mkF m 21 #[.val (.ref a), .val (.int k)] [(.int c0), (.ref a)])
    refine Go.of (fun _ kq => XS.iconst X.here hx rfl (hb hby d7_21) kq) ?_
    show Go p e below s _ _ T (mkF m 22 #[.val (.ref a), .val (.int k)] [(.int (1 : Int32)), (.int c0), (.ref a)])
    refine Go.of (fun _ kq => XS.isub X.here hx rfl (hb hby d7_22) rfl kq) ?_
    show Go p e below s _ _ T (mkF m 23 #[.val (.ref a), .val (.int k)] [(.int (c0 - (1 : Int32))), (.ref a)])
    refine Go.putF X hx hZ hown (hw _ (List.mem_of_getElem? (i := 71) rfl)) Via.refl eT F_heldByClients_a E_a (Or.inl (hw _ (List.mem_of_getElem? (i := 72) rfl))) (hw _ (List.mem_of_getElem? (i := 1) rfl)) (ty := .int) (by decide) rfl rfl (hb hby d7_23) ?_
    intro T h X eT wr
    have N := Fr.snoc X N g_a
    have K := K.wr wr (Or.inl (List.mem_of_getElem? (i := 0) rfl))
    have E_a := E_a.wr wr
    have F_held_a := F_held_a.other wr (Or.inr (slot_ne (Or.inr (hw _ (List.mem_of_getElem? (i := 13) rfl))) (Or.inl (hw _ (List.mem_of_getElem? (i := 72) rfl))) (by decide) (t := (.array .int)) (t' := .int) (by decide) (by decide)))
    have F_heldByClients_a := F_heldByClients_a.same wr
    have F_heldByGroups_a := F_heldByGroups_a.other wr (Or.inr (slot_ne (Or.inl (hw _ (List.mem_of_getElem? (i := 101) rfl))) (Or.inl (hw _ (List.mem_of_getElem? (i := 72) rfl))) (by decide) (t := .int) (t' := .int) (by decide) (by decide)))
    have V_d := V_d.other wr (Ne.symm ne_a_d)
    show Go p e below s _ _ T (mkF m 26 #[.val (.ref a), .val (.int k)] [])
    refine Go.of (fun _ kq => XS.goto X.here hx rfl (pc0 := 26) (pc' := 39) rfl (hb hby d7_26) (by decide) (by decide) kq) ?_
    show Go p e below s _ _ T (mkF m 39 #[.val (.ref a), .val (.int k)] [])
    refine Go.retV X hx hret hlk (hb hby d7_39) (by decide) (by decide) ?_
    try rw [eT]
    exact ⟨rfl, N, K, F_held_a, by simpa [own_kc, hc13, own_subneg] using F_heldByClients_a, by simpa [own_kg, hc13, own_subneg] using F_heldByGroups_a, V_d.congr (fun j hj => by unfold upd own_H; by_cases q : j = k.toNatClampNeg <;> simp [q, own_subneg])⟩
  · refine Go.of (fun _ kq => XS.icmpYes X.here hx rfl (pc0 := 13) (pc' := 29) rfl (hb hby d7_13) rfl (flt hc13).2.1 (by decide) (by decide) kq) ?_
    show Go p e below s _ _ T (mkF m 29 #[.val (.ref a), .val (.int k)] [])
    refine Go.of (fun _ kq => XS.aloadN X.here hx rfl (hb hby d7_29) rfl rfl kq) ?_
    show Go p e below s _ _ T (mkF m 30 #[.val (.ref a), .val (.int k)] [(.ref a)])
    refine Go.of (fun _ kq => XS.dup X.here hx rfl (hb hby d7_30) rfl rfl kq) ?_
    show Go p e below s _ _ T (mkF m 31 #[.val (.ref a), .val (.int k)] [(.ref a), (.ref a)])
    refine Go.getF X hx hZ hown (hw _ (List.mem_of_getElem? (i := 100) rfl)) Via.refl eT F_heldByGroups_a (hb hby d7_31) ?_
    intro T X eT
    show Go p e below s _ _ T (mkF m 34 #[.val (.ref a), .val (.int k)] [(.int g0), (.ref a)])
    refine Go.of (fun _ kq => XS.iconst X.here hx rfl (hb hby d7_34) kq) ?_
    show Go p e below s _ _ T (mkF m 35 #[.val (.ref a), .val (.int k)] [(.int (1 : Int32)), (.int g0), (.ref a)])
    refine Go.of (fun _ kq => XS.isub X.here hx rfl (hb hby d7_35) rfl kq) ?_
    show Go p e below s _ _ T (mkF m 36 #[.val (.ref a), .val (.int k)] [(.int (g0 - (1 : Int32))), (.ref a)])
    refine Go.putF X hx hZ hown (hw _ (List.mem_of_getElem? (i := 100) rfl)) Via.refl eT F_heldByGroups_a E_a (Or.inl (hw _ (List.mem_of_getElem? (i := 101) rfl))) (hw _ (List.mem_of_getElem? (i := 1) rfl)) (ty := .int) (by decide) rfl rfl (hb hby d7_36) ?_
    intro T h X eT wr
    have N := Fr.snoc X N g_a
    have K := K.wr wr (Or.inl (List.mem_of_getElem? (i := 0) rfl))
    have E_a := E_a.wr wr
    have F_held_a := F_held_a.other wr (Or.inr (slot_ne (Or.inr (hw _ (List.mem_of_getElem? (i := 13) rfl))) (Or.inl (hw _ (List.mem_of_getElem? (i := 101) rfl))) (by decide) (t := (.array .int)) (t' := .int) (by decide) (by decide)))
    have F_heldByClients_a := F_heldByClients_a.other wr (Or.inr (slot_ne (Or.inl (hw _ (List.mem_of_getElem? (i := 72) rfl))) (Or.inl (hw _ (List.mem_of_getElem? (i := 101) rfl))) (by decide) (t := .int) (t' := .int) (by decide) (by decide)))
    have F_heldByGroups_a := F_heldByGroups_a.same wr
    have V_d := V_d.other wr (Ne.symm ne_a_d)
    show Go p e below s _ _ T (mkF m 39 #[.val (.ref a), .val (.int k)] [])
    refine Go.retV X hx hret hlk (hb hby d7_39) (by decide) (by decide) ?_
    try rw [eT]
    exact ⟨rfl, N, K, F_held_a, by simpa [own_kc, hc13, own_subneg] using F_heldByClients_a, by simpa [own_kg, hc13, own_subneg] using F_heldByGroups_a, V_d.congr (fun j hj => by unfold upd own_H; by_cases q : j = k.toNatClampNeg <;> simp [q, own_subneg])⟩
theorem d9_0 : decode prog_14_method_10_code 0 = .ok (.aload_n 0, 1) := by decide +kernel
theorem d9_1 : decode prog_14_method_10_code 1 = .ok (.getfield 17, 3) := by decide +kernel
theorem d9_4 : decode prog_14_method_10_code 4 = .ok (.iload_n 1, 1) := by decide +kernel
theorem d9_5 : decode prog_14_method_10_code 5 = .ok (.iaload, 1) := by decide +kernel
theorem d9_6 : decode prog_14_method_10_code 6 = .ok (.ireturn, 1) := by decide +kernel
theorem pn9 : plainFor (⟨"com/example/credence/credence/oauth1/Owners", "held", "(I)I"⟩ : MethodName) = true := plainFor_of_name (by first | (simp [plainName, overriddenIn]; done) | decide +kernel)
theorem ef_rmHeld (m : MethodId) (x0 : Addr) (x1 : Int32) : entryFrame m #[(.ref x0), (.int x1)] 2 = mkF m 0 #[.val (.ref x0), .val (.int x1)] [] := by first | (simp [entryFrame, mkF, argsToLocals, Value.category]; done) | rfl
set_option maxRecDepth 65536 in
set_option maxHeartbeats 40000000 in
theorem rmHeld {l : Launch} {Z : State} {a0 : Array Value} (hw : ∀ d ∈ tables_1, d.before a0 Z = true) (a : Addr) (k : Int32) (d : Addr) (H : Nat → Int32) (h0 : Heap) (n0 : Nat) (hk : Inb k 4096) (F_held_a : Fld Z h0 a "com/example/credence/credence/oauth1/Owners" "held" "[I" (.ref d)) (V_d : AV Z h0 d .int 4096 (fun j => .int (H j))) :
    Met l Z (⟨"com/example/credence/credence/oauth1/Owners", "held", "(I)I"⟩ : MethodName) prog_14_method_10_code 2 (some .int) [] ({ frames := 0, cells := 0, slots := 0, locals := 0 } : Room) #[(.ref a), (.int k)] h0 (fun v h L => v = some (.int (H k.toNatClampNeg)) ∧ Fr n0 L ∧ h = h0) := by
  refine Met.mk pn9 ?_
  intro p e s m below meth c T hx hby hml hown hnm hret hlk hZ X eT
  refine Go.cast (ef_rmHeld m a k) ?_
  have N := Fr.nil n0
  show Go p e below s _ _ T (mkF m 0 #[.val (.ref a), .val (.int k)] [])
  refine Go.of (fun _ kq => XS.aloadN X.here hx rfl (hb hby d9_0) rfl rfl kq) ?_
  show Go p e below s _ _ T (mkF m 1 #[.val (.ref a), .val (.int k)] [(.ref a)])
  refine Go.getF X hx hZ hown (hw _ (List.mem_of_getElem? (i := 12) rfl)) Via.refl eT F_held_a (hb hby d9_1) ?_
  intro T X eT
  show Go p e below s _ _ T (mkF m 4 #[.val (.ref a), .val (.int k)] [(.ref d)])
  refine Go.of (fun _ kq => XS.iloadN X.here hx rfl (hb hby d9_4) rfl kq) ?_
  show Go p e below s _ _ T (mkF m 5 #[.val (.ref a), .val (.int k)] [(.int k), (.ref d)])
  refine Go.ldI (.int (H k.toNatClampNeg)) X hx hZ eT V_d (show Inb k 4096 from hk) rfl (hb hby d9_5) ?_
  show Go p e below s _ _ T (mkF m 6 #[.val (.ref a), .val (.int k)] [(.int (H k.toNatClampNeg))])
  refine Go.retI X hx hret hlk (hb hby d9_6) (by decide) (by decide) ?_
  try rw [eT]
  exact ⟨rfl, N, rfl⟩
theorem d11_0 : decode prog_14_method_11_code 0 = .ok (.aload_n 0, 1) := by decide +kernel
theorem d11_1 : decode prog_14_method_11_code 1 = .ok (.getfield 113, 3) := by decide +kernel
theorem d11_4 : decode prog_14_method_11_code 4 = .ok (.ireturn, 1) := by decide +kernel
theorem pn11 : plainFor (⟨"com/example/credence/credence/oauth1/Owners", "heldByClients", "()I"⟩ : MethodName) = true := plainFor_of_name (by first | (simp [plainName, overriddenIn]; done) | decide +kernel)
theorem ef_rmHC (m : MethodId) (x0 : Addr) : entryFrame m #[(.ref x0)] 1 = mkF m 0 #[.val (.ref x0)] [] := by first | (simp [entryFrame, mkF, argsToLocals, Value.category]; done) | rfl
set_option maxRecDepth 65536 in
set_option maxHeartbeats 40000000 in
theorem rmHC {l : Launch} {Z : State} {a0 : Array Value} (hw : ∀ d ∈ tables_1, d.before a0 Z = true) (a : Addr) (c0 : Int32) (h0 : Heap) (n0 : Nat) (F_heldByClients_a : Fld Z h0 a "com/example/credence/credence/oauth1/Owners" "heldByClients" "I" (.int c0)) :
    Met l Z (⟨"com/example/credence/credence/oauth1/Owners", "heldByClients", "()I"⟩ : MethodName) prog_14_method_11_code 1 (some .int) [] ({ frames := 0, cells := 0, slots := 0, locals := 0 } : Room) #[(.ref a)] h0 (fun v h L => v = some (.int c0) ∧ Fr n0 L ∧ h = h0) := by
  refine Met.mk pn11 ?_
  intro p e s m below meth c T hx hby hml hown hnm hret hlk hZ X eT
  refine Go.cast (ef_rmHC m a) ?_
  have N := Fr.nil n0
  show Go p e below s _ _ T (mkF m 0 #[.val (.ref a)] [])
  refine Go.of (fun _ kq => XS.aloadN X.here hx rfl (hb hby d11_0) rfl rfl kq) ?_
  show Go p e below s _ _ T (mkF m 1 #[.val (.ref a)] [(.ref a)])
  refine Go.getF X hx hZ hown (hw _ (List.mem_of_getElem? (i := 71) rfl)) Via.refl eT F_heldByClients_a (hb hby d11_1) ?_
  intro T X eT
  show Go p e below s _ _ T (mkF m 4 #[.val (.ref a)] [(.int c0)])
  refine Go.retI X hx hret hlk (hb hby d11_4) (by decide) (by decide) ?_
  try rw [eT]
  exact ⟨rfl, N, rfl⟩
theorem d12_0 : decode prog_14_method_12_code 0 = .ok (.aload_n 0, 1) := by decide +kernel
theorem d12_1 : decode prog_14_method_12_code 1 = .ok (.getfield 116, 3) := by decide +kernel
theorem d12_4 : decode prog_14_method_12_code 4 = .ok (.ireturn, 1) := by decide +kernel
theorem pn12 : plainFor (⟨"com/example/credence/credence/oauth1/Owners", "heldByGroups", "()I"⟩ : MethodName) = true := plainFor_of_name (by first | (simp [plainName, overriddenIn]; done) | decide +kernel)
theorem ef_rmHG (m : MethodId) (x0 : Addr) : entryFrame m #[(.ref x0)] 1 = mkF m 0 #[.val (.ref x0)] [] := by first | (simp [entryFrame, mkF, argsToLocals, Value.category]; done) | rfl
set_option maxRecDepth 65536 in
set_option maxHeartbeats 40000000 in
theorem rmHG {l : Launch} {Z : State} {a0 : Array Value} (hw : ∀ d ∈ tables_1, d.before a0 Z = true) (a : Addr) (c0 : Int32) (h0 : Heap) (n0 : Nat) (F_heldByGroups_a : Fld Z h0 a "com/example/credence/credence/oauth1/Owners" "heldByGroups" "I" (.int c0)) :
    Met l Z (⟨"com/example/credence/credence/oauth1/Owners", "heldByGroups", "()I"⟩ : MethodName) prog_14_method_12_code 1 (some .int) [] ({ frames := 0, cells := 0, slots := 0, locals := 0 } : Room) #[(.ref a)] h0 (fun v h L => v = some (.int c0) ∧ Fr n0 L ∧ h = h0) := by
  refine Met.mk pn12 ?_
  intro p e s m below meth c T hx hby hml hown hnm hret hlk hZ X eT
  refine Go.cast (ef_rmHG m a) ?_
  have N := Fr.nil n0
  show Go p e below s _ _ T (mkF m 0 #[.val (.ref a)] [])
  refine Go.of (fun _ kq => XS.aloadN X.here hx rfl (hb hby d12_0) rfl rfl kq) ?_
  show Go p e below s _ _ T (mkF m 1 #[.val (.ref a)] [(.ref a)])
  refine Go.getF X hx hZ hown (hw _ (List.mem_of_getElem? (i := 100) rfl)) Via.refl eT F_heldByGroups_a (hb hby d12_1) ?_
  intro T X eT
  show Go p e below s _ _ T (mkF m 4 #[.val (.ref a)] [(.int c0)])
  refine Go.retI X hx hret hlk (hb hby d12_4) (by decide) (by decide) ?_
  try rw [eT]
  exact ⟨rfl, N, rfl⟩
theorem pn0 : plainFor x = true := plainFor_of_name (by first | (simp [plainName, overriddenIn]; done) | decide +kernel)
theorem ef_rm0 (m : MethodId) (x0 : Int32) (x1 : Int32) (x2 : Int32) (x3 : Int32) : entryFrame m #[(.int x0), (.int x1), (.int x2), (.int x3)] maxLocals = mkF m 0 #[.val (.int x0), .val (.int x1), .val (.int x2), .val (.int x3), .unset, .unset, .unset, .unset, .unset, .unset, .unset] [] := by first | (simp [entryFrame, mkF, argsToLocals, Value.category, maxLocals]; done) | rfl
set_option maxRecDepth 65536 in
set_option maxHeartbeats 40000000 in
theorem rm0 {l : Launch} {Z : State} {a0 : Array Value} (hw : ∀ d ∈ tables_1, d.before a0 Z = true) (x1 x2 x3 x4 : Int32) (h0 : Heap) (n0 : Nat) (Z0 : n0 ≤ h0.size) :
    Met l Z x code maxLocals ret tables_1 room_1 #[(.int x1), (.int x2), (.int x3), (.int x4)] h0 (fun v h L => v = some (.int 1) ∧ Fr n0 L) := by
  refine Met.mk pn0 ?_
  intro p e s m below meth c T hx hby hml hown hnm hret hlk hZ X eT
  refine Go.cast (ef_rm0 m x1 x2 x3 x4) ?_
  have N := Fr.nil n0
  have K := Keep.refl h0 []
  show Go p e below s _ _ T (mkF m 0 #[.val (.int x1), .val (.int x2), .val (.int x3), .val (.int x4), .unset, .unset, .unset, .unset, .unset, .unset, .unset] [])
  refine Go.of (fun _ kq => XS.iloadN X.here hx rfl (hb hby at_0) rfl kq) ?_
  show Go p e below s _ _ T (mkF m 1 #[.val (.int x1), .val (.int x2), .val (.int x3), .val (.int x4), .unset, .unset, .unset, .unset, .unset, .unset, .unset] [(.int x1)])
  refine Go.of (fun _ kq => XS.sipush X.here hx rfl (hb hby at_1) kq) ?_
  show Go p e below s _ _ T (mkF m 4 #[.val (.int x1), .val (.int x2), .val (.int x3), .val (.int x4), .unset, .unset, .unset, .unset, .unset, .unset, .unset] [(.int (4095 : Int32)), (.int x1)])
  refine Go.of (fun _ kq => XS.iand X.here hx rfl (hb hby at_4) rfl kq) ?_
  show Go p e below s _ _ T (mkF m 5 #[.val (.int x1), .val (.int x2), .val (.int x3), .val (.int x4), .unset, .unset, .unset, .unset, .unset, .unset, .unset] [(.int (x1 &&& (4095 : Int32)))])
  refine Go.of (fun _ kq => XS.istore X.here hx rfl (hb hby at_5) rfl (l' := #[.val (.int x1), .val (.int x2), .val (.int x3), .val (.int x4), .val (.int (x1 &&& (4095 : Int32))), .unset, .unset, .unset, .unset, .unset, .unset]) rfl kq) ?_
  show Go p e below s _ _ T (mkF m 7 #[.val (.int x1), .val (.int x2), .val (.int x3), .val (.int x4), .val (.int (x1 &&& (4095 : Int32))), .unset, .unset, .unset, .unset, .unset, .unset] [])
  refine Go.of (fun _ kq => XS.iloadN X.here hx rfl (hb hby at_7) rfl kq) ?_
  show Go p e below s _ _ T (mkF m 8 #[.val (.int x1), .val (.int x2), .val (.int x3), .val (.int x4), .val (.int (x1 &&& (4095 : Int32))), .unset, .unset, .unset, .unset, .unset, .unset] [(.int x2)])
  refine Go.of (fun _ kq => XS.sipush X.here hx rfl (hb hby at_8) kq) ?_
  show Go p e below s _ _ T (mkF m 11 #[.val (.int x1), .val (.int x2), .val (.int x3), .val (.int x4), .val (.int (x1 &&& (4095 : Int32))), .unset, .unset, .unset, .unset, .unset, .unset] [(.int (4095 : Int32)), (.int x2)])
  refine Go.of (fun _ kq => XS.iand X.here hx rfl (hb hby at_11) rfl kq) ?_
  show Go p e below s _ _ T (mkF m 12 #[.val (.int x1), .val (.int x2), .val (.int x3), .val (.int x4), .val (.int (x1 &&& (4095 : Int32))), .unset, .unset, .unset, .unset, .unset, .unset] [(.int (x2 &&& (4095 : Int32)))])
  refine Go.of (fun _ kq => XS.istore X.here hx rfl (hb hby at_12) rfl (l' := #[.val (.int x1), .val (.int x2), .val (.int x3), .val (.int x4), .val (.int (x1 &&& (4095 : Int32))), .val (.int (x2 &&& (4095 : Int32))), .unset, .unset, .unset, .unset, .unset]) rfl kq) ?_
  show Go p e below s _ _ T (mkF m 14 #[.val (.int x1), .val (.int x2), .val (.int x3), .val (.int x4), .val (.int (x1 &&& (4095 : Int32))), .val (.int (x2 &&& (4095 : Int32))), .unset, .unset, .unset, .unset, .unset] [])
  refine Go.of (fun _ kq => XS.iloadN X.here hx rfl (hb hby at_14) rfl kq) ?_
  show Go p e below s _ _ T (mkF m 15 #[.val (.int x1), .val (.int x2), .val (.int x3), .val (.int x4), .val (.int (x1 &&& (4095 : Int32))), .val (.int (x2 &&& (4095 : Int32))), .unset, .unset, .unset, .unset, .unset] [(.int x3)])
  refine Go.of (fun _ kq => XS.sipush X.here hx rfl (hb hby at_15) kq) ?_
  show Go p e below s _ _ T (mkF m 18 #[.val (.int x1), .val (.int x2), .val (.int x3), .val (.int x4), .val (.int (x1 &&& (4095 : Int32))), .val (.int (x2 &&& (4095 : Int32))), .unset, .unset, .unset, .unset, .unset] [(.int (4095 : Int32)), (.int x3)])
  refine Go.of (fun _ kq => XS.iand X.here hx rfl (hb hby at_18) rfl kq) ?_
  show Go p e below s _ _ T (mkF m 19 #[.val (.int x1), .val (.int x2), .val (.int x3), .val (.int x4), .val (.int (x1 &&& (4095 : Int32))), .val (.int (x2 &&& (4095 : Int32))), .unset, .unset, .unset, .unset, .unset] [(.int (x3 &&& (4095 : Int32)))])
  refine Go.of (fun _ kq => XS.istore X.here hx rfl (hb hby at_19) rfl (l' := #[.val (.int x1), .val (.int x2), .val (.int x3), .val (.int x4), .val (.int (x1 &&& (4095 : Int32))), .val (.int (x2 &&& (4095 : Int32))), .val (.int (x3 &&& (4095 : Int32))), .unset, .unset, .unset, .unset]) rfl kq) ?_
  show Go p e below s _ _ T (mkF m 21 #[.val (.int x1), .val (.int x2), .val (.int x3), .val (.int x4), .val (.int (x1 &&& (4095 : Int32))), .val (.int (x2 &&& (4095 : Int32))), .val (.int (x3 &&& (4095 : Int32))), .unset, .unset, .unset, .unset] [])
  refine Go.of (fun _ kq => XS.iloadN X.here hx rfl (hb hby at_21) rfl kq) ?_
  show Go p e below s _ _ T (mkF m 22 #[.val (.int x1), .val (.int x2), .val (.int x3), .val (.int x4), .val (.int (x1 &&& (4095 : Int32))), .val (.int (x2 &&& (4095 : Int32))), .val (.int (x3 &&& (4095 : Int32))), .unset, .unset, .unset, .unset] [(.int x4)])
  refine Go.of (fun _ kq => XS.iconst X.here hx rfl (hb hby at_22) kq) ?_
  show Go p e below s _ _ T (mkF m 23 #[.val (.int x1), .val (.int x2), .val (.int x3), .val (.int x4), .val (.int (x1 &&& (4095 : Int32))), .val (.int (x2 &&& (4095 : Int32))), .val (.int (x3 &&& (4095 : Int32))), .unset, .unset, .unset, .unset] [(.int (1 : Int32)), (.int x4)])
  refine Go.of (fun _ kq => XS.iand X.here hx rfl (hb hby at_23) rfl kq) ?_
  show Go p e below s _ _ T (mkF m 24 #[.val (.int x1), .val (.int x2), .val (.int x3), .val (.int x4), .val (.int (x1 &&& (4095 : Int32))), .val (.int (x2 &&& (4095 : Int32))), .val (.int (x3 &&& (4095 : Int32))), .unset, .unset, .unset, .unset] [(.int (x4 &&& (1 : Int32)))])
  by_cases hc24 : (x4 &&& (1 : Int32)) = (0 : Int32)
  · refine Go.of (fun _ kq => XS.ifYes X.here hx rfl (pc0 := 24) (pc' := 31) rfl (hb hby at_24) rfl ((if0 _ _).trans (teq hc24).1) (by decide) (by decide) kq) ?_
    show Go p e below s _ _ T (mkF m 31 #[.val (.int x1), .val (.int x2), .val (.int x3), .val (.int x4), .val (.int (x1 &&& (4095 : Int32))), .val (.int (x2 &&& (4095 : Int32))), .val (.int (x3 &&& (4095 : Int32))), .unset, .unset, .unset, .unset] [])
    refine Go.of (fun _ kq => XS.iconst X.here hx rfl (hb hby at_31) kq) ?_
    show Go p e below s _ _ T (mkF m 32 #[.val (.int x1), .val (.int x2), .val (.int x3), .val (.int x4), .val (.int (x1 &&& (4095 : Int32))), .val (.int (x2 &&& (4095 : Int32))), .val (.int (x3 &&& (4095 : Int32))), .unset, .unset, .unset, .unset] [(.int (0 : Int32))])
    refine Go.of (fun _ kq => XS.istore X.here hx rfl (hb hby at_32) rfl (l' := #[.val (.int x1), .val (.int x2), .val (.int x3), .val (.int x4), .val (.int (x1 &&& (4095 : Int32))), .val (.int (x2 &&& (4095 : Int32))), .val (.int (x3 &&& (4095 : Int32))), .val (.int (0 : Int32)), .unset, .unset, .unset]) rfl kq) ?_
    show Go p e below s _ _ T (mkF m 34 #[.val (.int x1), .val (.int x2), .val (.int x3), .val (.int x4), .val (.int (x1 &&& (4095 : Int32))), .val (.int (x2 &&& (4095 : Int32))), .val (.int (x3 &&& (4095 : Int32))), .val (.int (0 : Int32)), .unset, .unset, .unset] [])
    obtain ⟨va, h_va⟩ : ∃ z : Int32, z = (x1 &&& (4095 : Int32)) := ⟨_, rfl⟩
    rw [← h_va]
    have i_va : Inb va 4096 := by rw [h_va]; exact own_mask12 _
    obtain ⟨vb, h_vb⟩ : ∃ z : Int32, z = (x2 &&& (4095 : Int32)) := ⟨_, rfl⟩
    rw [← h_vb]
    have i_vb : Inb vb 4096 := by rw [h_vb]; exact own_mask12 _
    obtain ⟨vc, h_vc⟩ : ∃ z : Int32, z = (x3 &&& (4095 : Int32)) := ⟨_, rfl⟩
    rw [← h_vc]
    have i_vc : Inb vc 4096 := by rw [h_vc]; exact own_mask12 _
    refine Go.newO X hx hZ hown (hw _ (List.mem_of_getElem? (i := 0) rfl)) (hw _ (List.mem_of_getElem? (i := 1) rfl)) (hw _ (List.mem_of_getElem? (i := 2) rfl)) eT (hb hby at_34) (by decide) (by decide) ?_
    intro T h b34 X eT E ha E_b34 D_b34
    have z_b34 : h0.size ≤ b34 := by rw [ha]; exact K.1
    have g_b34 : n0 ≤ b34 := Nat.le_trans Z0 z_b34
    have K := K.ext E
    have F_clients_b34 : Fld Z h b34 "com/example/credence/credence/oauth1/Owners" "clients" "[I" .null := D_b34 (Or.inr (hw _ (List.mem_of_getElem? (i := 11) rfl))) (ty := (.array .int)) (by decide)
    have F_held_b34 : Fld Z h b34 "com/example/credence/credence/oauth1/Owners" "held" "[I" .null := D_b34 (Or.inr (hw _ (List.mem_of_getElem? (i := 13) rfl))) (ty := (.array .int)) (by decide)
    have F_credited_b34 : Fld Z h b34 "com/example/credence/credence/oauth1/Owners" "credited" "[I" .null := D_b34 (Or.inr (hw _ (List.mem_of_getElem? (i := 15) rfl))) (ty := (.array .int)) (by decide)
    have F_credits_b34 : Fld Z h b34 "com/example/credence/credence/oauth1/Owners" "credits" "[I" .null := D_b34 (Or.inr (hw _ (List.mem_of_getElem? (i := 17) rfl))) (ty := (.array .int)) (by decide)
    have F_counted_b34 : Fld Z h b34 "com/example/credence/credence/oauth1/Owners" "counted" "[I" .null := D_b34 (Or.inr (hw _ (List.mem_of_getElem? (i := 19) rfl))) (ty := (.array .int)) (by decide)
    have F_grouped_b34 : Fld Z h b34 "com/example/credence/credence/oauth1/Owners" "grouped" "[I" .null := D_b34 (Or.inr (hw _ (List.mem_of_getElem? (i := 21) rfl))) (ty := (.array .int)) (by decide)
    have F_firsts_b34 : Fld Z h b34 "com/example/credence/credence/oauth1/Owners" "firsts" "[J" .null := D_b34 (Or.inr (hw _ (List.mem_of_getElem? (i := 24) rfl))) (ty := (.array .long)) (by decide)
    have F_lasts_b34 : Fld Z h b34 "com/example/credence/credence/oauth1/Owners" "lasts" "[J" .null := D_b34 (Or.inr (hw _ (List.mem_of_getElem? (i := 26) rfl))) (ty := (.array .long)) (by decide)
    have F_maxOfGroups_b34 : Fld Z h b34 "com/example/credence/credence/oauth1/Owners" "maxOfGroups" "I" (.int (0 : Int32)) := D_b34 (Or.inr (hw _ (List.mem_of_getElem? (i := 28) rfl))) (ty := .int) (by decide)
    have F_share_b34 : Fld Z h b34 "com/example/credence/credence/oauth1/Owners" "share" "I" (.int (0 : Int32)) := D_b34 (Or.inr (hw _ (List.mem_of_getElem? (i := 34) rfl))) (ty := .int) (by decide)
    have F_recent_b34 : Fld Z h b34 "com/example/credence/credence/oauth1/Owners" "recent" "Lcom/example/credence/credence/oauth1/HeavyHitters;" .null := D_b34 (Or.inr (hw _ (List.mem_of_getElem? (i := 59) rfl))) (ty := (.object "com/example/credence/credence/oauth1/HeavyHitters")) (by decide)
    have F_heldByClients_b34 : Fld Z h b34 "com/example/credence/credence/oauth1/Owners" "heldByClients" "I" (.int (0 : Int32)) := D_b34 (Or.inl (hw _ (List.mem_of_getElem? (i := 72) rfl))) (ty := .int) (by decide)
    have F_heldByGroups_b34 : Fld Z h b34 "com/example/credence/credence/oauth1/Owners" "heldByGroups" "I" (.int (0 : Int32)) := D_b34 (Or.inl (hw _ (List.mem_of_getElem? (i := 101) rfl))) (ty := .int) (by decide)
    show Go p e below s _ _ T (mkF m 37 #[.val (.int x1), .val (.int x2), .val (.int x3), .val (.int x4), .val (.int va), .val (.int vb), .val (.int vc), .val (.int (0 : Int32)), .unset, .unset, .unset] [(.ref b34)])
    refine Go.of (fun _ kq => XS.dup X.here hx rfl (hb hby at_37) rfl rfl kq) ?_
    show Go p e below s _ _ T (mkF m 38 #[.val (.int x1), .val (.int x2), .val (.int x3), .val (.int x4), .val (.int va), .val (.int vb), .val (.int vc), .val (.int (0 : Int32)), .unset, .unset, .unset] [(.ref b34), (.ref b34)])
    refine Go.of (fun _ kq => XS.bipush X.here hx rfl (hb hby at_38) kq) ?_
    show Go p e below s _ _ T (mkF m 40 #[.val (.int x1), .val (.int x2), .val (.int x3), .val (.int x4), .val (.int va), .val (.int vb), .val (.int vc), .val (.int (0 : Int32)), .unset, .unset, .unset] [(.int (64 : Int32)), (.ref b34), (.ref b34)])
    refine Go.of (fun _ kq => XS.lconst X.here hx rfl (hb hby at_40) kq) ?_
    show Go p e below s _ _ T (mkF m 41 #[.val (.int x1), .val (.int x2), .val (.int x3), .val (.int x4), .val (.int va), .val (.int vb), .val (.int vc), .val (.int (0 : Int32)), .unset, .unset, .unset] [(.long (1 : Int64)), (.int (64 : Int32)), (.ref b34), (.ref b34)])
    refine Go.of (fun _ kq => XS.lconst X.here hx rfl (hb hby at_41) kq) ?_
    show Go p e below s _ _ T (mkF m 42 #[.val (.int x1), .val (.int x2), .val (.int x3), .val (.int x4), .val (.int va), .val (.int vb), .val (.int vc), .val (.int (0 : Int32)), .unset, .unset, .unset] [(.long (0 : Int64)), (.long (1 : Int64)), (.int (64 : Int32)), (.ref b34), (.ref b34)])
    refine Go.special (a := b34) X hx hZ hown rfl (hw _ (List.mem_of_getElem? (i := 3) rfl)) (hw _ (List.mem_of_getElem? (i := 4) rfl)) (hw _ (List.mem_of_getElem? (i := 2) rfl)) (hw _ (List.mem_of_getElem? (i := 5) rfl)) (by decide) (rmOw hw b34 (64 : Int32) (1 : Int64) (0 : Int64) _ n0 (Nat.le_trans Z0 K.1) g_b34 E_b34 F_clients_b34 F_held_b34 F_credited_b34 F_credits_b34 F_counted_b34 F_grouped_b34 F_firsts_b34 F_lasts_b34 F_maxOfGroups_b34 F_share_b34 F_recent_b34 F_heldByClients_b34 F_heldByGroups_b34) eT 1 (by decide) (by decide) (by decide) (by decide) (by rw [hml]; rfl) (argsL := [(.int (64 : Int32)), (.long (1 : Int64)), (.long (0 : Int64))]) [(.ref b34)] (lenOf pd4 rfl) rfl rfl (Nat.le_of_eq rfl) (hb hby at_42) ?_
    intro v T L' X hQ
    obtain ⟨h, eT⟩ : ∃ z, T.heap = z := ⟨_, rfl⟩
    rw [eT] at hQ
    obtain ⟨rfl, N', K', d, zd, ne_b34_d, F_held_b34, F_heldByClients_b34, F_heldByGroups_b34, V_d⟩ := hQ
    have N := Fr.app N N'
    have z_d := Nat.le_trans K.1 zd
    have g_d := Nat.le_trans Z0 z_d
    have K := K.trans K' (own_all1 (Or.inr z_b34))
    have E_b34 := E_b34.keep K'
    show Go p e below s _ _ T (mkF m 45 #[.val (.int x1), .val (.int x2), .val (.int x3), .val (.int x4), .val (.int va), .val (.int vb), .val (.int vc), .val (.int (0 : Int32)), .unset, .unset, .unset] [(.ref b34)])
    refine Go.of (fun _ kq => XS.astore X.here hx rfl (hb hby at_45) rfl rfl (l' := #[.val (.int x1), .val (.int x2), .val (.int x3), .val (.int x4), .val (.int va), .val (.int vb), .val (.int vc), .val (.int (0 : Int32)), .val (.ref b34), .unset, .unset]) rfl kq) ?_
    show Go p e below s _ _ T (mkF m 47 #[.val (.int x1), .val (.int x2), .val (.int x3), .val (.int x4), .val (.int va), .val (.int vb), .val (.int vc), .val (.int (0 : Int32)), .val (.ref b34), .unset, .unset] [])
    refine Go.of (fun _ kq => XS.aload X.here hx rfl (hb hby at_47) rfl rfl kq) ?_
    show Go p e below s _ _ T (mkF m 49 #[.val (.int x1), .val (.int x2), .val (.int x3), .val (.int x4), .val (.int va), .val (.int vb), .val (.int vc), .val (.int (0 : Int32)), .val (.ref b34), .unset, .unset] [(.ref b34)])
    refine Go.of (fun _ kq => XS.iload X.here hx rfl (hb hby at_49) rfl kq) ?_
    show Go p e below s _ _ T (mkF m 51 #[.val (.int x1), .val (.int x2), .val (.int x3), .val (.int x4), .val (.int va), .val (.int vb), .val (.int vc), .val (.int (0 : Int32)), .val (.ref b34), .unset, .unset] [(.int va), (.ref b34)])
    refine Go.virtual (a := b34) X hx hZ hown (hw _ (List.mem_of_getElem? (i := 66) rfl)) (hw _ (List.mem_of_getElem? (i := 67) rfl)) (notFace_of_selects (args := #[]) (mvT hZ (hw _ (List.mem_of_getElem? (i := 69) rfl)))) (hw _ (List.mem_of_getElem? (i := 69) rfl)) (hw _ (List.mem_of_getElem? (i := 68) rfl)) (hw _ (List.mem_of_getElem? (i := 2) rfl)) (hw _ (List.mem_of_getElem? (i := 70) rfl)) (by decide) (rmKept hw b34 va d own_H0 (0 : Int32) (0 : Int32) _ n0 g_b34 g_d ne_b34_d i_va E_b34 F_held_b34 F_heldByClients_b34 F_heldByGroups_b34 V_d) eT E_b34 0 (by decide) (by decide) (by decide) (by decide) (by rw [hml]; rfl) (argsL := [(.int va)]) [] (lenOf pd5 rfl) rfl rfl (Nat.le_of_eq rfl) (hb hby at_51) ?_
    intro v T L' X hQ
    obtain ⟨h, eT⟩ : ∃ z, T.heap = z := ⟨_, rfl⟩
    rw [eT] at hQ
    obtain ⟨rfl, N', K', F_held_b34, F_heldByClients_b34, F_heldByGroups_b34, V_d⟩ := hQ
    have N := Fr.app N N'
    have K := K.trans K' (own_all2 (Or.inr z_b34) (Or.inr z_d))
    have E_b34 := E_b34.keep K'
    show Go p e below s _ _ T (mkF m 54 #[.val (.int x1), .val (.int x2), .val (.int x3), .val (.int x4), .val (.int va), .val (.int vb), .val (.int vc), .val (.int (0 : Int32)), .val (.ref b34), .unset, .unset] [])
    refine Go.of (fun _ kq => XS.aload X.here hx rfl (hb hby at_54) rfl rfl kq) ?_
    show Go p e below s _ _ T (mkF m 56 #[.val (.int x1), .val (.int x2), .val (.int x3), .val (.int x4), .val (.int va), .val (.int vb), .val (.int vc), .val (.int (0 : Int32)), .val (.ref b34), .unset, .unset] [(.ref b34)])
    refine Go.of (fun _ kq => XS.iload X.here hx rfl (hb hby at_56) rfl kq) ?_
    show Go p e below s _ _ T (mkF m 58 #[.val (.int x1), .val (.int x2), .val (.int x3), .val (.int x4), .val (.int va), .val (.int vb), .val (.int vc), .val (.int (0 : Int32)), .val (.ref b34), .unset, .unset] [(.int va), (.ref b34)])
    refine Go.virtual (a := b34) X hx hZ hown (hw _ (List.mem_of_getElem? (i := 66) rfl)) (hw _ (List.mem_of_getElem? (i := 67) rfl)) (notFace_of_selects (args := #[]) (mvT hZ (hw _ (List.mem_of_getElem? (i := 69) rfl)))) (hw _ (List.mem_of_getElem? (i := 69) rfl)) (hw _ (List.mem_of_getElem? (i := 68) rfl)) (hw _ (List.mem_of_getElem? (i := 2) rfl)) (hw _ (List.mem_of_getElem? (i := 70) rfl)) (by decide) (rmKept hw b34 va d (own_H own_H0 va 1) (own_kc (0 : Int32) va 1) (own_kg (0 : Int32) va 1) _ n0 g_b34 g_d ne_b34_d i_va E_b34 F_held_b34 F_heldByClients_b34 F_heldByGroups_b34 V_d) eT E_b34 0 (by decide) (by decide) (by decide) (by decide) (by rw [hml]; rfl) (argsL := [(.int va)]) [] (lenOf pd5 rfl) rfl rfl (Nat.le_of_eq rfl) (hb hby at_58) ?_
    intro v T L' X hQ
    obtain ⟨h, eT⟩ : ∃ z, T.heap = z := ⟨_, rfl⟩
    rw [eT] at hQ
    obtain ⟨rfl, N', K', F_held_b34, F_heldByClients_b34, F_heldByGroups_b34, V_d⟩ := hQ
    have N := Fr.app N N'
    have K := K.trans K' (own_all2 (Or.inr z_b34) (Or.inr z_d))
    have E_b34 := E_b34.keep K'
    show Go p e below s _ _ T (mkF m 61 #[.val (.int x1), .val (.int x2), .val (.int x3), .val (.int x4), .val (.int va), .val (.int vb), .val (.int vc), .val (.int (0 : Int32)), .val (.ref b34), .unset, .unset] [])
    refine Go.of (fun _ kq => XS.aload X.here hx rfl (hb hby at_61) rfl rfl kq) ?_
    show Go p e below s _ _ T (mkF m 63 #[.val (.int x1), .val (.int x2), .val (.int x3), .val (.int x4), .val (.int va), .val (.int vb), .val (.int vc), .val (.int (0 : Int32)), .val (.ref b34), .unset, .unset] [(.ref b34)])
    refine Go.of (fun _ kq => XS.iload X.here hx rfl (hb hby at_63) rfl kq) ?_
    show Go p e below s _ _ T (mkF m 65 #[.val (.int x1), .val (.int x2), .val (.int x3), .val (.int x4), .val (.int va), .val (.int vb), .val (.int vc), .val (.int (0 : Int32)), .val (.ref b34), .unset, .unset] [(.int vb), (.ref b34)])
    refine Go.virtual (a := b34) X hx hZ hown (hw _ (List.mem_of_getElem? (i := 66) rfl)) (hw _ (List.mem_of_getElem? (i := 67) rfl)) (notFace_of_selects (args := #[]) (mvT hZ (hw _ (List.mem_of_getElem? (i := 69) rfl)))) (hw _ (List.mem_of_getElem? (i := 69) rfl)) (hw _ (List.mem_of_getElem? (i := 68) rfl)) (hw _ (List.mem_of_getElem? (i := 2) rfl)) (hw _ (List.mem_of_getElem? (i := 70) rfl)) (by decide) (rmKept hw b34 vb d (own_H (own_H own_H0 va 1) va 1) (own_kc (own_kc (0 : Int32) va 1) va 1) (own_kg (own_kg (0 : Int32) va 1) va 1) _ n0 g_b34 g_d ne_b34_d i_vb E_b34 F_held_b34 F_heldByClients_b34 F_heldByGroups_b34 V_d) eT E_b34 0 (by decide) (by decide) (by decide) (by decide) (by rw [hml]; rfl) (argsL := [(.int vb)]) [] (lenOf pd5 rfl) rfl rfl (Nat.le_of_eq rfl) (hb hby at_65) ?_
    intro v T L' X hQ
    obtain ⟨h, eT⟩ : ∃ z, T.heap = z := ⟨_, rfl⟩
    rw [eT] at hQ
    obtain ⟨rfl, N', K', F_held_b34, F_heldByClients_b34, F_heldByGroups_b34, V_d⟩ := hQ
    have N := Fr.app N N'
    have K := K.trans K' (own_all2 (Or.inr z_b34) (Or.inr z_d))
    have E_b34 := E_b34.keep K'
    show Go p e below s _ _ T (mkF m 68 #[.val (.int x1), .val (.int x2), .val (.int x3), .val (.int x4), .val (.int va), .val (.int vb), .val (.int vc), .val (.int (0 : Int32)), .val (.ref b34), .unset, .unset] [])
    refine Go.of (fun _ kq => XS.aload X.here hx rfl (hb hby at_68) rfl rfl kq) ?_
    show Go p e below s _ _ T (mkF m 70 #[.val (.int x1), .val (.int x2), .val (.int x3), .val (.int x4), .val (.int va), .val (.int vb), .val (.int vc), .val (.int (0 : Int32)), .val (.ref b34), .unset, .unset] [(.ref b34)])
    refine Go.of (fun _ kq => XS.iload X.here hx rfl (hb hby at_70) rfl kq) ?_
    show Go p e below s _ _ T (mkF m 72 #[.val (.int x1), .val (.int x2), .val (.int x3), .val (.int x4), .val (.int va), .val (.int vb), .val (.int vc), .val (.int (0 : Int32)), .val (.ref b34), .unset, .unset] [(.int va), (.ref b34)])
    refine Go.virtual (a := b34) X hx hZ hown (hw _ (List.mem_of_getElem? (i := 73) rfl)) (hw _ (List.mem_of_getElem? (i := 74) rfl)) (notFace_of_selects (args := #[]) (mvT hZ (hw _ (List.mem_of_getElem? (i := 76) rfl)))) (hw _ (List.mem_of_getElem? (i := 76) rfl)) (hw _ (List.mem_of_getElem? (i := 75) rfl)) (hw _ (List.mem_of_getElem? (i := 2) rfl)) (hw _ (List.mem_of_getElem? (i := 77) rfl)) (by decide) (rmLet hw b34 va d (own_H (own_H (own_H own_H0 va 1) va 1) vb 1) (own_kc (own_kc (own_kc (0 : Int32) va 1) va 1) vb 1) (own_kg (own_kg (own_kg (0 : Int32) va 1) va 1) vb 1) _ n0 g_b34 g_d ne_b34_d i_va E_b34 F_held_b34 F_heldByClients_b34 F_heldByGroups_b34 V_d) eT E_b34 0 (by decide) (by decide) (by decide) (by decide) (by rw [hml]; rfl) (argsL := [(.int va)]) [] (lenOf pd5 rfl) rfl rfl (Nat.le_of_eq rfl) (hb hby at_72) ?_
    intro v T L' X hQ
    obtain ⟨h, eT⟩ : ∃ z, T.heap = z := ⟨_, rfl⟩
    rw [eT] at hQ
    obtain ⟨rfl, N', K', F_held_b34, F_heldByClients_b34, F_heldByGroups_b34, V_d⟩ := hQ
    have N := Fr.app N N'
    have K := K.trans K' (own_all2 (Or.inr z_b34) (Or.inr z_d))
    have E_b34 := E_b34.keep K'
    show Go p e below s _ _ T (mkF m 75 #[.val (.int x1), .val (.int x2), .val (.int x3), .val (.int x4), .val (.int va), .val (.int vb), .val (.int vc), .val (.int (0 : Int32)), .val (.ref b34), .unset, .unset] [])
    refine Go.of (fun _ kq => XS.iload X.here hx rfl (hb hby at_75) rfl kq) ?_
    show Go p e below s _ _ T (mkF m 77 #[.val (.int x1), .val (.int x2), .val (.int x3), .val (.int x4), .val (.int va), .val (.int vb), .val (.int vc), .val (.int (0 : Int32)), .val (.ref b34), .unset, .unset] [(.int (0 : Int32))])
    refine Go.of (fun _ kq => XS.ifYes X.here hx rfl (pc0 := 77) (pc' := 87) rfl (hb hby at_77) rfl ((if0 _ _).trans (teq (by decide)).1) (by decide) (by decide) kq) ?_
    show Go p e below s _ _ T (mkF m 87 #[.val (.int x1), .val (.int x2), .val (.int x3), .val (.int x4), .val (.int va), .val (.int vb), .val (.int vc), .val (.int (0 : Int32)), .val (.ref b34), .unset, .unset] [])
    refine Go.join (fun z1 : Int32 => z1 = if va < 64 then 1 else 0) (fun z1 => (mkF m 99 #[.val (.int x1), .val (.int x2), .val (.int x3), .val (.int x4), .val (.int va), .val (.int vb), .val (.int vc), .val (.int (0 : Int32)), .val (.ref b34), .unset, .unset] [(.int z1)])) ?_ ?_
    · intro z1 hz1
      show Go p e below s _ _ T (mkF m 99 #[.val (.int x1), .val (.int x2), .val (.int x3), .val (.int x4), .val (.int va), .val (.int vb), .val (.int vc), .val (.int (0 : Int32)), .val (.ref b34), .unset, .unset] [(.int z1)])
      refine Go.static X hx hZ hown (hw _ (List.mem_of_getElem? (i := 78) rfl)) (hw _ (List.mem_of_getElem? (i := 79) rfl)) (hw _ (List.mem_of_getElem? (i := 80) rfl)) (hw _ (List.mem_of_getElem? (i := 81) rfl)) (by decide) (rmInd hw z1 _ n0) eT 0 (by decide) (by decide) (by decide) (by decide) (by rw [hml]; rfl) (argsL := [(.int z1)]) [] (lenOf pd0 rfl) rfl rfl (Nat.le_of_eq rfl) (hb hby at_99) ?_
      intro v T L' X hQ
      obtain ⟨rfl, N', eT⟩ := hQ
      have N := Fr.app N N'
      show Go p e below s _ _ T (mkF m 102 #[.val (.int x1), .val (.int x2), .val (.int x3), .val (.int x4), .val (.int va), .val (.int vb), .val (.int vc), .val (.int (0 : Int32)), .val (.ref b34), .unset, .unset] [(.int (own_ind z1))])
      refine Go.join (fun z2 : Int32 => z2 = if vb < 64 then 1 else 0) (fun z2 => (mkF m 114 #[.val (.int x1), .val (.int x2), .val (.int x3), .val (.int x4), .val (.int va), .val (.int vb), .val (.int vc), .val (.int (0 : Int32)), .val (.ref b34), .unset, .unset] [(.int z2), (.int (own_ind z1))])) ?_ ?_
      · intro z2 hz2
        show Go p e below s _ _ T (mkF m 114 #[.val (.int x1), .val (.int x2), .val (.int x3), .val (.int x4), .val (.int va), .val (.int vb), .val (.int vc), .val (.int (0 : Int32)), .val (.ref b34), .unset, .unset] [(.int z2), (.int (own_ind z1))])
        refine Go.static X hx hZ hown (hw _ (List.mem_of_getElem? (i := 78) rfl)) (hw _ (List.mem_of_getElem? (i := 79) rfl)) (hw _ (List.mem_of_getElem? (i := 80) rfl)) (hw _ (List.mem_of_getElem? (i := 81) rfl)) (by decide) (rmInd hw z2 _ n0) eT 1 (by decide) (by decide) (by decide) (by decide) (by rw [hml]; rfl) (argsL := [(.int z2)]) [(.int (own_ind z1))] (lenOf pd0 rfl) rfl rfl (Nat.le_of_eq rfl) (hb hby at_114) ?_
        intro v T L' X hQ
        obtain ⟨rfl, N', eT⟩ := hQ
        have N := Fr.app N N'
        show Go p e below s _ _ T (mkF m 117 #[.val (.int x1), .val (.int x2), .val (.int x3), .val (.int x4), .val (.int va), .val (.int vb), .val (.int vc), .val (.int (0 : Int32)), .val (.ref b34), .unset, .unset] [(.int (own_ind z2)), (.int (own_ind z1))])
        refine Go.of (fun _ kq => XS.iadd X.here hx rfl (hb hby at_117) rfl kq) ?_
        show Go p e below s _ _ T (mkF m 118 #[.val (.int x1), .val (.int x2), .val (.int x3), .val (.int x4), .val (.int va), .val (.int vb), .val (.int vc), .val (.int (0 : Int32)), .val (.ref b34), .unset, .unset] [(.int ((own_ind z1) + (own_ind z2)))])
        refine Go.of (fun _ kq => XS.iload X.here hx rfl (hb hby at_118) rfl kq) ?_
        show Go p e below s _ _ T (mkF m 120 #[.val (.int x1), .val (.int x2), .val (.int x3), .val (.int x4), .val (.int va), .val (.int vb), .val (.int vc), .val (.int (0 : Int32)), .val (.ref b34), .unset, .unset] [(.int (0 : Int32)), (.int ((own_ind z1) + (own_ind z2)))])
        refine Go.of (fun _ kq => XS.ifYes X.here hx rfl (pc0 := 120) (pc' := 134) rfl (hb hby at_120) rfl ((if0 _ _).trans (teq (by decide)).1) (by decide) (by decide) kq) ?_
        show Go p e below s _ _ T (mkF m 134 #[.val (.int x1), .val (.int x2), .val (.int x3), .val (.int x4), .val (.int va), .val (.int vb), .val (.int vc), .val (.int (0 : Int32)), .val (.ref b34), .unset, .unset] [(.int ((own_ind z1) + (own_ind z2)))])
        refine Go.of (fun _ kq => XS.iconst X.here hx rfl (hb hby at_134) kq) ?_
        show Go p e below s _ _ T (mkF m 135 #[.val (.int x1), .val (.int x2), .val (.int x3), .val (.int x4), .val (.int va), .val (.int vb), .val (.int vc), .val (.int (0 : Int32)), .val (.ref b34), .unset, .unset] [(.int (0 : Int32)), (.int ((own_ind z1) + (own_ind z2)))])
        refine Go.static X hx hZ hown (hw _ (List.mem_of_getElem? (i := 78) rfl)) (hw _ (List.mem_of_getElem? (i := 79) rfl)) (hw _ (List.mem_of_getElem? (i := 80) rfl)) (hw _ (List.mem_of_getElem? (i := 81) rfl)) (by decide) (rmInd hw (0 : Int32) _ n0) eT 1 (by decide) (by decide) (by decide) (by decide) (by rw [hml]; rfl) (argsL := [(.int (0 : Int32))]) [(.int ((own_ind z1) + (own_ind z2)))] (lenOf pd0 rfl) rfl rfl (Nat.le_of_eq rfl) (hb hby at_135) ?_
        intro v T L' X hQ
        obtain ⟨rfl, N', eT⟩ := hQ
        have N := Fr.app N N'
        show Go p e below s _ _ T (mkF m 138 #[.val (.int x1), .val (.int x2), .val (.int x3), .val (.int x4), .val (.int va), .val (.int vb), .val (.int vc), .val (.int (0 : Int32)), .val (.ref b34), .unset, .unset] [(.int (own_ind (0 : Int32))), (.int ((own_ind z1) + (own_ind z2)))])
        refine Go.of (fun _ kq => XS.isub X.here hx rfl (hb hby at_138) rfl kq) ?_
        show Go p e below s _ _ T (mkF m 139 #[.val (.int x1), .val (.int x2), .val (.int x3), .val (.int x4), .val (.int va), .val (.int vb), .val (.int vc), .val (.int (0 : Int32)), .val (.ref b34), .unset, .unset] [(.int (((own_ind z1) + (own_ind z2)) - (own_ind (0 : Int32))))])
        refine Go.of (fun _ kq => XS.istore X.here hx rfl (hb hby at_139) rfl (l' := #[.val (.int x1), .val (.int x2), .val (.int x3), .val (.int x4), .val (.int va), .val (.int vb), .val (.int vc), .val (.int (0 : Int32)), .val (.ref b34), .val (.int (((own_ind z1) + (own_ind z2)) - (own_ind (0 : Int32)))), .unset]) rfl kq) ?_
        show Go p e below s _ _ T (mkF m 141 #[.val (.int x1), .val (.int x2), .val (.int x3), .val (.int x4), .val (.int va), .val (.int vb), .val (.int vc), .val (.int (0 : Int32)), .val (.ref b34), .val (.int (((own_ind z1) + (own_ind z2)) - (own_ind (0 : Int32)))), .unset] [])
        refine Go.join (fun z4 : Int32 => z4 = if va < 64 then 0 else 1) (fun z4 => (mkF m 153 #[.val (.int x1), .val (.int x2), .val (.int x3), .val (.int x4), .val (.int va), .val (.int vb), .val (.int vc), .val (.int (0 : Int32)), .val (.ref b34), .val (.int (((own_ind z1) + (own_ind z2)) - (own_ind (0 : Int32)))), .unset] [(.int z4)])) ?_ ?_
        · intro z4 hz4
          show Go p e below s _ _ T (mkF m 153 #[.val (.int x1), .val (.int x2), .val (.int x3), .val (.int x4), .val (.int va), .val (.int vb), .val (.int vc), .val (.int (0 : Int32)), .val (.ref b34), .val (.int (((own_ind z1) + (own_ind z2)) - (own_ind (0 : Int32)))), .unset] [(.int z4)])
          refine Go.static X hx hZ hown (hw _ (List.mem_of_getElem? (i := 78) rfl)) (hw _ (List.mem_of_getElem? (i := 79) rfl)) (hw _ (List.mem_of_getElem? (i := 80) rfl)) (hw _ (List.mem_of_getElem? (i := 81) rfl)) (by decide) (rmInd hw z4 _ n0) eT 0 (by decide) (by decide) (by decide) (by decide) (by rw [hml]; rfl) (argsL := [(.int z4)]) [] (lenOf pd0 rfl) rfl rfl (Nat.le_of_eq rfl) (hb hby at_153) ?_
          intro v T L' X hQ
          obtain ⟨rfl, N', eT⟩ := hQ
          have N := Fr.app N N'
          show Go p e below s _ _ T (mkF m 156 #[.val (.int x1), .val (.int x2), .val (.int x3), .val (.int x4), .val (.int va), .val (.int vb), .val (.int vc), .val (.int (0 : Int32)), .val (.ref b34), .val (.int (((own_ind z1) + (own_ind z2)) - (own_ind (0 : Int32)))), .unset] [(.int (own_ind z4))])
          refine Go.join (fun z5 : Int32 => z5 = if vb < 64 then 0 else 1) (fun z5 => (mkF m 168 #[.val (.int x1), .val (.int x2), .val (.int x3), .val (.int x4), .val (.int va), .val (.int vb), .val (.int vc), .val (.int (0 : Int32)), .val (.ref b34), .val (.int (((own_ind z1) + (own_ind z2)) - (own_ind (0 : Int32)))), .unset] [(.int z5), (.int (own_ind z4))])) ?_ ?_
          · intro z5 hz5
            show Go p e below s _ _ T (mkF m 168 #[.val (.int x1), .val (.int x2), .val (.int x3), .val (.int x4), .val (.int va), .val (.int vb), .val (.int vc), .val (.int (0 : Int32)), .val (.ref b34), .val (.int (((own_ind z1) + (own_ind z2)) - (own_ind (0 : Int32)))), .unset] [(.int z5), (.int (own_ind z4))])
            refine Go.static X hx hZ hown (hw _ (List.mem_of_getElem? (i := 78) rfl)) (hw _ (List.mem_of_getElem? (i := 79) rfl)) (hw _ (List.mem_of_getElem? (i := 80) rfl)) (hw _ (List.mem_of_getElem? (i := 81) rfl)) (by decide) (rmInd hw z5 _ n0) eT 1 (by decide) (by decide) (by decide) (by decide) (by rw [hml]; rfl) (argsL := [(.int z5)]) [(.int (own_ind z4))] (lenOf pd0 rfl) rfl rfl (Nat.le_of_eq rfl) (hb hby at_168) ?_
            intro v T L' X hQ
            obtain ⟨rfl, N', eT⟩ := hQ
            have N := Fr.app N N'
            show Go p e below s _ _ T (mkF m 171 #[.val (.int x1), .val (.int x2), .val (.int x3), .val (.int x4), .val (.int va), .val (.int vb), .val (.int vc), .val (.int (0 : Int32)), .val (.ref b34), .val (.int (((own_ind z1) + (own_ind z2)) - (own_ind (0 : Int32)))), .unset] [(.int (own_ind z5)), (.int (own_ind z4))])
            refine Go.of (fun _ kq => XS.iadd X.here hx rfl (hb hby at_171) rfl kq) ?_
            show Go p e below s _ _ T (mkF m 172 #[.val (.int x1), .val (.int x2), .val (.int x3), .val (.int x4), .val (.int va), .val (.int vb), .val (.int vc), .val (.int (0 : Int32)), .val (.ref b34), .val (.int (((own_ind z1) + (own_ind z2)) - (own_ind (0 : Int32)))), .unset] [(.int ((own_ind z4) + (own_ind z5)))])
            refine Go.of (fun _ kq => XS.iload X.here hx rfl (hb hby at_172) rfl kq) ?_
            show Go p e below s _ _ T (mkF m 174 #[.val (.int x1), .val (.int x2), .val (.int x3), .val (.int x4), .val (.int va), .val (.int vb), .val (.int vc), .val (.int (0 : Int32)), .val (.ref b34), .val (.int (((own_ind z1) + (own_ind z2)) - (own_ind (0 : Int32)))), .unset] [(.int (0 : Int32)), (.int ((own_ind z4) + (own_ind z5)))])
            refine Go.of (fun _ kq => XS.ifYes X.here hx rfl (pc0 := 174) (pc' := 188) rfl (hb hby at_174) rfl ((if0 _ _).trans (teq (by decide)).1) (by decide) (by decide) kq) ?_
            show Go p e below s _ _ T (mkF m 188 #[.val (.int x1), .val (.int x2), .val (.int x3), .val (.int x4), .val (.int va), .val (.int vb), .val (.int vc), .val (.int (0 : Int32)), .val (.ref b34), .val (.int (((own_ind z1) + (own_ind z2)) - (own_ind (0 : Int32)))), .unset] [(.int ((own_ind z4) + (own_ind z5)))])
            refine Go.of (fun _ kq => XS.iconst X.here hx rfl (hb hby at_188) kq) ?_
            show Go p e below s _ _ T (mkF m 189 #[.val (.int x1), .val (.int x2), .val (.int x3), .val (.int x4), .val (.int va), .val (.int vb), .val (.int vc), .val (.int (0 : Int32)), .val (.ref b34), .val (.int (((own_ind z1) + (own_ind z2)) - (own_ind (0 : Int32)))), .unset] [(.int (0 : Int32)), (.int ((own_ind z4) + (own_ind z5)))])
            refine Go.static X hx hZ hown (hw _ (List.mem_of_getElem? (i := 78) rfl)) (hw _ (List.mem_of_getElem? (i := 79) rfl)) (hw _ (List.mem_of_getElem? (i := 80) rfl)) (hw _ (List.mem_of_getElem? (i := 81) rfl)) (by decide) (rmInd hw (0 : Int32) _ n0) eT 1 (by decide) (by decide) (by decide) (by decide) (by rw [hml]; rfl) (argsL := [(.int (0 : Int32))]) [(.int ((own_ind z4) + (own_ind z5)))] (lenOf pd0 rfl) rfl rfl (Nat.le_of_eq rfl) (hb hby at_189) ?_
            intro v T L' X hQ
            obtain ⟨rfl, N', eT⟩ := hQ
            have N := Fr.app N N'
            show Go p e below s _ _ T (mkF m 192 #[.val (.int x1), .val (.int x2), .val (.int x3), .val (.int x4), .val (.int va), .val (.int vb), .val (.int vc), .val (.int (0 : Int32)), .val (.ref b34), .val (.int (((own_ind z1) + (own_ind z2)) - (own_ind (0 : Int32)))), .unset] [(.int (own_ind (0 : Int32))), (.int ((own_ind z4) + (own_ind z5)))])
            refine Go.of (fun _ kq => XS.isub X.here hx rfl (hb hby at_192) rfl kq) ?_
            show Go p e below s _ _ T (mkF m 193 #[.val (.int x1), .val (.int x2), .val (.int x3), .val (.int x4), .val (.int va), .val (.int vb), .val (.int vc), .val (.int (0 : Int32)), .val (.ref b34), .val (.int (((own_ind z1) + (own_ind z2)) - (own_ind (0 : Int32)))), .unset] [(.int (((own_ind z4) + (own_ind z5)) - (own_ind (0 : Int32))))])
            refine Go.of (fun _ kq => XS.istore X.here hx rfl (hb hby at_193) rfl (l' := #[.val (.int x1), .val (.int x2), .val (.int x3), .val (.int x4), .val (.int va), .val (.int vb), .val (.int vc), .val (.int (0 : Int32)), .val (.ref b34), .val (.int (((own_ind z1) + (own_ind z2)) - (own_ind (0 : Int32)))), .val (.int (((own_ind z4) + (own_ind z5)) - (own_ind (0 : Int32))))]) rfl kq) ?_
            show Go p e below s _ _ T (mkF m 195 #[.val (.int x1), .val (.int x2), .val (.int x3), .val (.int x4), .val (.int va), .val (.int vb), .val (.int vc), .val (.int (0 : Int32)), .val (.ref b34), .val (.int (((own_ind z1) + (own_ind z2)) - (own_ind (0 : Int32)))), .val (.int (((own_ind z4) + (own_ind z5)) - (own_ind (0 : Int32))))] [])
            refine Go.of (fun _ kq => XS.aload X.here hx rfl (hb hby at_195) rfl rfl kq) ?_
            show Go p e below s _ _ T (mkF m 197 #[.val (.int x1), .val (.int x2), .val (.int x3), .val (.int x4), .val (.int va), .val (.int vb), .val (.int vc), .val (.int (0 : Int32)), .val (.ref b34), .val (.int (((own_ind z1) + (own_ind z2)) - (own_ind (0 : Int32)))), .val (.int (((own_ind z4) + (own_ind z5)) - (own_ind (0 : Int32))))] [(.ref b34)])
            refine Go.of (fun _ kq => XS.iload X.here hx rfl (hb hby at_197) rfl kq) ?_
            show Go p e below s _ _ T (mkF m 199 #[.val (.int x1), .val (.int x2), .val (.int x3), .val (.int x4), .val (.int va), .val (.int vb), .val (.int vc), .val (.int (0 : Int32)), .val (.ref b34), .val (.int (((own_ind z1) + (own_ind z2)) - (own_ind (0 : Int32)))), .val (.int (((own_ind z4) + (own_ind z5)) - (own_ind (0 : Int32))))] [(.int va), (.ref b34)])
            refine Go.virtual (a := b34) X hx hZ hown (hw _ (List.mem_of_getElem? (i := 82) rfl)) (hw _ (List.mem_of_getElem? (i := 83) rfl)) (notFace_of_selects (args := #[]) (mvT hZ (hw _ (List.mem_of_getElem? (i := 85) rfl)))) (hw _ (List.mem_of_getElem? (i := 85) rfl)) (hw _ (List.mem_of_getElem? (i := 84) rfl)) (hw _ (List.mem_of_getElem? (i := 2) rfl)) (hw _ (List.mem_of_getElem? (i := 86) rfl)) (by decide) (rmHeld hw b34 va d (own_H (own_H (own_H (own_H own_H0 va 1) va 1) vb 1) va (-1)) _ n0 i_va F_held_b34 V_d) eT E_b34 0 (by decide) (by decide) (by decide) (by decide) (by rw [hml]; rfl) (argsL := [(.int va)]) [] (lenOf pd6 rfl) rfl rfl (Nat.le_of_eq rfl) (hb hby at_199) ?_
            intro v T L' X hQ
            obtain ⟨rfl, N', eT⟩ := hQ
            have N := Fr.app N N'
            show Go p e below s _ _ T (mkF m 202 #[.val (.int x1), .val (.int x2), .val (.int x3), .val (.int x4), .val (.int va), .val (.int vb), .val (.int vc), .val (.int (0 : Int32)), .val (.ref b34), .val (.int (((own_ind z1) + (own_ind z2)) - (own_ind (0 : Int32)))), .val (.int (((own_ind z4) + (own_ind z5)) - (own_ind (0 : Int32))))] [(.int ((own_H (own_H (own_H (own_H own_H0 va 1) va 1) vb 1) va (-1)) va.toNatClampNeg))])
            refine Go.of (fun _ kq => XS.iload X.here hx rfl (hb hby at_202) rfl kq) ?_
            show Go p e below s _ _ T (mkF m 204 #[.val (.int x1), .val (.int x2), .val (.int x3), .val (.int x4), .val (.int va), .val (.int vb), .val (.int vc), .val (.int (0 : Int32)), .val (.ref b34), .val (.int (((own_ind z1) + (own_ind z2)) - (own_ind (0 : Int32)))), .val (.int (((own_ind z4) + (own_ind z5)) - (own_ind (0 : Int32))))] [(.int va), (.int ((own_H (own_H (own_H (own_H own_H0 va 1) va 1) vb 1) va (-1)) va.toNatClampNeg))])
            refine Go.of (fun _ kq => XS.iload X.here hx rfl (hb hby at_204) rfl kq) ?_
            show Go p e below s _ _ T (mkF m 206 #[.val (.int x1), .val (.int x2), .val (.int x3), .val (.int x4), .val (.int va), .val (.int vb), .val (.int vc), .val (.int (0 : Int32)), .val (.ref b34), .val (.int (((own_ind z1) + (own_ind z2)) - (own_ind (0 : Int32)))), .val (.int (((own_ind z4) + (own_ind z5)) - (own_ind (0 : Int32))))] [(.int va), (.int va), (.int ((own_H (own_H (own_H (own_H own_H0 va 1) va 1) vb 1) va (-1)) va.toNatClampNeg))])
            refine Go.of (fun _ kq => XS.iload X.here hx rfl (hb hby at_206) rfl kq) ?_
            show Go p e below s _ _ T (mkF m 208 #[.val (.int x1), .val (.int x2), .val (.int x3), .val (.int x4), .val (.int va), .val (.int vb), .val (.int vc), .val (.int (0 : Int32)), .val (.ref b34), .val (.int (((own_ind z1) + (own_ind z2)) - (own_ind (0 : Int32)))), .val (.int (((own_ind z4) + (own_ind z5)) - (own_ind (0 : Int32))))] [(.int vb), (.int va), (.int va), (.int ((own_H (own_H (own_H (own_H own_H0 va 1) va 1) vb 1) va (-1)) va.toNatClampNeg))])
            refine Go.of (fun _ kq => XS.iload X.here hx rfl (hb hby at_208) rfl kq) ?_
            show Go p e below s _ _ T (mkF m 210 #[.val (.int x1), .val (.int x2), .val (.int x3), .val (.int x4), .val (.int va), .val (.int vb), .val (.int vc), .val (.int (0 : Int32)), .val (.ref b34), .val (.int (((own_ind z1) + (own_ind z2)) - (own_ind (0 : Int32)))), .val (.int (((own_ind z4) + (own_ind z5)) - (own_ind (0 : Int32))))] [(.int (0 : Int32)), (.int vb), (.int va), (.int va), (.int ((own_H (own_H (own_H (own_H own_H0 va 1) va 1) vb 1) va (-1)) va.toNatClampNeg))])
            refine Go.static X hx hZ hown (hw _ (List.mem_of_getElem? (i := 87) rfl)) (hw _ (List.mem_of_getElem? (i := 88) rfl)) (hw _ (List.mem_of_getElem? (i := 80) rfl)) (hw _ (List.mem_of_getElem? (i := 89) rfl)) (by decide) (rmExp hw va va vb (0 : Int32) _ n0) eT 1 (by decide) (by decide) (by decide) (by decide) (by rw [hml]; rfl) (argsL := [(.int va), (.int va), (.int vb), (.int (0 : Int32))]) [(.int ((own_H (own_H (own_H (own_H own_H0 va 1) va 1) vb 1) va (-1)) va.toNatClampNeg))] (lenOf pd7 rfl) rfl rfl (Nat.le_of_eq rfl) (hb hby at_210) ?_
            intro v T L' X hQ
            obtain ⟨rfl, N', eT⟩ := hQ
            have N := Fr.app N N'
            show Go p e below s _ _ T (mkF m 213 #[.val (.int x1), .val (.int x2), .val (.int x3), .val (.int x4), .val (.int va), .val (.int vb), .val (.int vc), .val (.int (0 : Int32)), .val (.ref b34), .val (.int (((own_ind z1) + (own_ind z2)) - (own_ind (0 : Int32)))), .val (.int (((own_ind z4) + (own_ind z5)) - (own_ind (0 : Int32))))] [(.int (own_exp va va vb (0 : Int32))), (.int ((own_H (own_H (own_H (own_H own_H0 va 1) va 1) vb 1) va (-1)) va.toNatClampNeg))])
            refine Go.of (fun _ kq => XS.icmpNo X.here hx rfl (hb hby at_213) rfl (teq (own_h4 i_va i_vb i_va)).2 kq) ?_
            show Go p e below s _ _ T (mkF m 216 #[.val (.int x1), .val (.int x2), .val (.int x3), .val (.int x4), .val (.int va), .val (.int vb), .val (.int vc), .val (.int (0 : Int32)), .val (.ref b34), .val (.int (((own_ind z1) + (own_ind z2)) - (own_ind (0 : Int32)))), .val (.int (((own_ind z4) + (own_ind z5)) - (own_ind (0 : Int32))))] [])
            refine Go.of (fun _ kq => XS.aload X.here hx rfl (hb hby at_216) rfl rfl kq) ?_
            show Go p e below s _ _ T (mkF m 218 #[.val (.int x1), .val (.int x2), .val (.int x3), .val (.int x4), .val (.int va), .val (.int vb), .val (.int vc), .val (.int (0 : Int32)), .val (.ref b34), .val (.int (((own_ind z1) + (own_ind z2)) - (own_ind (0 : Int32)))), .val (.int (((own_ind z4) + (own_ind z5)) - (own_ind (0 : Int32))))] [(.ref b34)])
            refine Go.of (fun _ kq => XS.iload X.here hx rfl (hb hby at_218) rfl kq) ?_
            show Go p e below s _ _ T (mkF m 220 #[.val (.int x1), .val (.int x2), .val (.int x3), .val (.int x4), .val (.int va), .val (.int vb), .val (.int vc), .val (.int (0 : Int32)), .val (.ref b34), .val (.int (((own_ind z1) + (own_ind z2)) - (own_ind (0 : Int32)))), .val (.int (((own_ind z4) + (own_ind z5)) - (own_ind (0 : Int32))))] [(.int vb), (.ref b34)])
            refine Go.virtual (a := b34) X hx hZ hown (hw _ (List.mem_of_getElem? (i := 82) rfl)) (hw _ (List.mem_of_getElem? (i := 83) rfl)) (notFace_of_selects (args := #[]) (mvT hZ (hw _ (List.mem_of_getElem? (i := 85) rfl)))) (hw _ (List.mem_of_getElem? (i := 85) rfl)) (hw _ (List.mem_of_getElem? (i := 84) rfl)) (hw _ (List.mem_of_getElem? (i := 2) rfl)) (hw _ (List.mem_of_getElem? (i := 86) rfl)) (by decide) (rmHeld hw b34 vb d (own_H (own_H (own_H (own_H own_H0 va 1) va 1) vb 1) va (-1)) _ n0 i_vb F_held_b34 V_d) eT E_b34 0 (by decide) (by decide) (by decide) (by decide) (by rw [hml]; rfl) (argsL := [(.int vb)]) [] (lenOf pd6 rfl) rfl rfl (Nat.le_of_eq rfl) (hb hby at_220) ?_
            intro v T L' X hQ
            obtain ⟨rfl, N', eT⟩ := hQ
            have N := Fr.app N N'
            show Go p e below s _ _ T (mkF m 223 #[.val (.int x1), .val (.int x2), .val (.int x3), .val (.int x4), .val (.int va), .val (.int vb), .val (.int vc), .val (.int (0 : Int32)), .val (.ref b34), .val (.int (((own_ind z1) + (own_ind z2)) - (own_ind (0 : Int32)))), .val (.int (((own_ind z4) + (own_ind z5)) - (own_ind (0 : Int32))))] [(.int ((own_H (own_H (own_H (own_H own_H0 va 1) va 1) vb 1) va (-1)) vb.toNatClampNeg))])
            refine Go.of (fun _ kq => XS.iload X.here hx rfl (hb hby at_223) rfl kq) ?_
            show Go p e below s _ _ T (mkF m 225 #[.val (.int x1), .val (.int x2), .val (.int x3), .val (.int x4), .val (.int va), .val (.int vb), .val (.int vc), .val (.int (0 : Int32)), .val (.ref b34), .val (.int (((own_ind z1) + (own_ind z2)) - (own_ind (0 : Int32)))), .val (.int (((own_ind z4) + (own_ind z5)) - (own_ind (0 : Int32))))] [(.int vb), (.int ((own_H (own_H (own_H (own_H own_H0 va 1) va 1) vb 1) va (-1)) vb.toNatClampNeg))])
            refine Go.of (fun _ kq => XS.iload X.here hx rfl (hb hby at_225) rfl kq) ?_
            show Go p e below s _ _ T (mkF m 227 #[.val (.int x1), .val (.int x2), .val (.int x3), .val (.int x4), .val (.int va), .val (.int vb), .val (.int vc), .val (.int (0 : Int32)), .val (.ref b34), .val (.int (((own_ind z1) + (own_ind z2)) - (own_ind (0 : Int32)))), .val (.int (((own_ind z4) + (own_ind z5)) - (own_ind (0 : Int32))))] [(.int va), (.int vb), (.int ((own_H (own_H (own_H (own_H own_H0 va 1) va 1) vb 1) va (-1)) vb.toNatClampNeg))])
            refine Go.of (fun _ kq => XS.iload X.here hx rfl (hb hby at_227) rfl kq) ?_
            show Go p e below s _ _ T (mkF m 229 #[.val (.int x1), .val (.int x2), .val (.int x3), .val (.int x4), .val (.int va), .val (.int vb), .val (.int vc), .val (.int (0 : Int32)), .val (.ref b34), .val (.int (((own_ind z1) + (own_ind z2)) - (own_ind (0 : Int32)))), .val (.int (((own_ind z4) + (own_ind z5)) - (own_ind (0 : Int32))))] [(.int vb), (.int va), (.int vb), (.int ((own_H (own_H (own_H (own_H own_H0 va 1) va 1) vb 1) va (-1)) vb.toNatClampNeg))])
            refine Go.of (fun _ kq => XS.iload X.here hx rfl (hb hby at_229) rfl kq) ?_
            show Go p e below s _ _ T (mkF m 231 #[.val (.int x1), .val (.int x2), .val (.int x3), .val (.int x4), .val (.int va), .val (.int vb), .val (.int vc), .val (.int (0 : Int32)), .val (.ref b34), .val (.int (((own_ind z1) + (own_ind z2)) - (own_ind (0 : Int32)))), .val (.int (((own_ind z4) + (own_ind z5)) - (own_ind (0 : Int32))))] [(.int (0 : Int32)), (.int vb), (.int va), (.int vb), (.int ((own_H (own_H (own_H (own_H own_H0 va 1) va 1) vb 1) va (-1)) vb.toNatClampNeg))])
            refine Go.static X hx hZ hown (hw _ (List.mem_of_getElem? (i := 87) rfl)) (hw _ (List.mem_of_getElem? (i := 88) rfl)) (hw _ (List.mem_of_getElem? (i := 80) rfl)) (hw _ (List.mem_of_getElem? (i := 89) rfl)) (by decide) (rmExp hw vb va vb (0 : Int32) _ n0) eT 1 (by decide) (by decide) (by decide) (by decide) (by rw [hml]; rfl) (argsL := [(.int vb), (.int va), (.int vb), (.int (0 : Int32))]) [(.int ((own_H (own_H (own_H (own_H own_H0 va 1) va 1) vb 1) va (-1)) vb.toNatClampNeg))] (lenOf pd7 rfl) rfl rfl (Nat.le_of_eq rfl) (hb hby at_231) ?_
            intro v T L' X hQ
            obtain ⟨rfl, N', eT⟩ := hQ
            have N := Fr.app N N'
            show Go p e below s _ _ T (mkF m 234 #[.val (.int x1), .val (.int x2), .val (.int x3), .val (.int x4), .val (.int va), .val (.int vb), .val (.int vc), .val (.int (0 : Int32)), .val (.ref b34), .val (.int (((own_ind z1) + (own_ind z2)) - (own_ind (0 : Int32)))), .val (.int (((own_ind z4) + (own_ind z5)) - (own_ind (0 : Int32))))] [(.int (own_exp vb va vb (0 : Int32))), (.int ((own_H (own_H (own_H (own_H own_H0 va 1) va 1) vb 1) va (-1)) vb.toNatClampNeg))])
            refine Go.of (fun _ kq => XS.icmpNo X.here hx rfl (hb hby at_234) rfl (teq (own_h4 i_va i_vb i_vb)).2 kq) ?_
            show Go p e below s _ _ T (mkF m 237 #[.val (.int x1), .val (.int x2), .val (.int x3), .val (.int x4), .val (.int va), .val (.int vb), .val (.int vc), .val (.int (0 : Int32)), .val (.ref b34), .val (.int (((own_ind z1) + (own_ind z2)) - (own_ind (0 : Int32)))), .val (.int (((own_ind z4) + (own_ind z5)) - (own_ind (0 : Int32))))] [])
            refine Go.of (fun _ kq => XS.aload X.here hx rfl (hb hby at_237) rfl rfl kq) ?_
            show Go p e below s _ _ T (mkF m 239 #[.val (.int x1), .val (.int x2), .val (.int x3), .val (.int x4), .val (.int va), .val (.int vb), .val (.int vc), .val (.int (0 : Int32)), .val (.ref b34), .val (.int (((own_ind z1) + (own_ind z2)) - (own_ind (0 : Int32)))), .val (.int (((own_ind z4) + (own_ind z5)) - (own_ind (0 : Int32))))] [(.ref b34)])
            refine Go.of (fun _ kq => XS.iload X.here hx rfl (hb hby at_239) rfl kq) ?_
            show Go p e below s _ _ T (mkF m 241 #[.val (.int x1), .val (.int x2), .val (.int x3), .val (.int x4), .val (.int va), .val (.int vb), .val (.int vc), .val (.int (0 : Int32)), .val (.ref b34), .val (.int (((own_ind z1) + (own_ind z2)) - (own_ind (0 : Int32)))), .val (.int (((own_ind z4) + (own_ind z5)) - (own_ind (0 : Int32))))] [(.int vc), (.ref b34)])
            refine Go.virtual (a := b34) X hx hZ hown (hw _ (List.mem_of_getElem? (i := 82) rfl)) (hw _ (List.mem_of_getElem? (i := 83) rfl)) (notFace_of_selects (args := #[]) (mvT hZ (hw _ (List.mem_of_getElem? (i := 85) rfl)))) (hw _ (List.mem_of_getElem? (i := 85) rfl)) (hw _ (List.mem_of_getElem? (i := 84) rfl)) (hw _ (List.mem_of_getElem? (i := 2) rfl)) (hw _ (List.mem_of_getElem? (i := 86) rfl)) (by decide) (rmHeld hw b34 vc d (own_H (own_H (own_H (own_H own_H0 va 1) va 1) vb 1) va (-1)) _ n0 i_vc F_held_b34 V_d) eT E_b34 0 (by decide) (by decide) (by decide) (by decide) (by rw [hml]; rfl) (argsL := [(.int vc)]) [] (lenOf pd6 rfl) rfl rfl (Nat.le_of_eq rfl) (hb hby at_241) ?_
            intro v T L' X hQ
            obtain ⟨rfl, N', eT⟩ := hQ
            have N := Fr.app N N'
            show Go p e below s _ _ T (mkF m 244 #[.val (.int x1), .val (.int x2), .val (.int x3), .val (.int x4), .val (.int va), .val (.int vb), .val (.int vc), .val (.int (0 : Int32)), .val (.ref b34), .val (.int (((own_ind z1) + (own_ind z2)) - (own_ind (0 : Int32)))), .val (.int (((own_ind z4) + (own_ind z5)) - (own_ind (0 : Int32))))] [(.int ((own_H (own_H (own_H (own_H own_H0 va 1) va 1) vb 1) va (-1)) vc.toNatClampNeg))])
            refine Go.of (fun _ kq => XS.iload X.here hx rfl (hb hby at_244) rfl kq) ?_
            show Go p e below s _ _ T (mkF m 246 #[.val (.int x1), .val (.int x2), .val (.int x3), .val (.int x4), .val (.int va), .val (.int vb), .val (.int vc), .val (.int (0 : Int32)), .val (.ref b34), .val (.int (((own_ind z1) + (own_ind z2)) - (own_ind (0 : Int32)))), .val (.int (((own_ind z4) + (own_ind z5)) - (own_ind (0 : Int32))))] [(.int vc), (.int ((own_H (own_H (own_H (own_H own_H0 va 1) va 1) vb 1) va (-1)) vc.toNatClampNeg))])
            refine Go.of (fun _ kq => XS.iload X.here hx rfl (hb hby at_246) rfl kq) ?_
            show Go p e below s _ _ T (mkF m 248 #[.val (.int x1), .val (.int x2), .val (.int x3), .val (.int x4), .val (.int va), .val (.int vb), .val (.int vc), .val (.int (0 : Int32)), .val (.ref b34), .val (.int (((own_ind z1) + (own_ind z2)) - (own_ind (0 : Int32)))), .val (.int (((own_ind z4) + (own_ind z5)) - (own_ind (0 : Int32))))] [(.int va), (.int vc), (.int ((own_H (own_H (own_H (own_H own_H0 va 1) va 1) vb 1) va (-1)) vc.toNatClampNeg))])
            refine Go.of (fun _ kq => XS.iload X.here hx rfl (hb hby at_248) rfl kq) ?_
            show Go p e below s _ _ T (mkF m 250 #[.val (.int x1), .val (.int x2), .val (.int x3), .val (.int x4), .val (.int va), .val (.int vb), .val (.int vc), .val (.int (0 : Int32)), .val (.ref b34), .val (.int (((own_ind z1) + (own_ind z2)) - (own_ind (0 : Int32)))), .val (.int (((own_ind z4) + (own_ind z5)) - (own_ind (0 : Int32))))] [(.int vb), (.int va), (.int vc), (.int ((own_H (own_H (own_H (own_H own_H0 va 1) va 1) vb 1) va (-1)) vc.toNatClampNeg))])
            refine Go.of (fun _ kq => XS.iload X.here hx rfl (hb hby at_250) rfl kq) ?_
            show Go p e below s _ _ T (mkF m 252 #[.val (.int x1), .val (.int x2), .val (.int x3), .val (.int x4), .val (.int va), .val (.int vb), .val (.int vc), .val (.int (0 : Int32)), .val (.ref b34), .val (.int (((own_ind z1) + (own_ind z2)) - (own_ind (0 : Int32)))), .val (.int (((own_ind z4) + (own_ind z5)) - (own_ind (0 : Int32))))] [(.int (0 : Int32)), (.int vb), (.int va), (.int vc), (.int ((own_H (own_H (own_H (own_H own_H0 va 1) va 1) vb 1) va (-1)) vc.toNatClampNeg))])
            refine Go.static X hx hZ hown (hw _ (List.mem_of_getElem? (i := 87) rfl)) (hw _ (List.mem_of_getElem? (i := 88) rfl)) (hw _ (List.mem_of_getElem? (i := 80) rfl)) (hw _ (List.mem_of_getElem? (i := 89) rfl)) (by decide) (rmExp hw vc va vb (0 : Int32) _ n0) eT 1 (by decide) (by decide) (by decide) (by decide) (by rw [hml]; rfl) (argsL := [(.int vc), (.int va), (.int vb), (.int (0 : Int32))]) [(.int ((own_H (own_H (own_H (own_H own_H0 va 1) va 1) vb 1) va (-1)) vc.toNatClampNeg))] (lenOf pd7 rfl) rfl rfl (Nat.le_of_eq rfl) (hb hby at_252) ?_
            intro v T L' X hQ
            obtain ⟨rfl, N', eT⟩ := hQ
            have N := Fr.app N N'
            show Go p e below s _ _ T (mkF m 255 #[.val (.int x1), .val (.int x2), .val (.int x3), .val (.int x4), .val (.int va), .val (.int vb), .val (.int vc), .val (.int (0 : Int32)), .val (.ref b34), .val (.int (((own_ind z1) + (own_ind z2)) - (own_ind (0 : Int32)))), .val (.int (((own_ind z4) + (own_ind z5)) - (own_ind (0 : Int32))))] [(.int (own_exp vc va vb (0 : Int32))), (.int ((own_H (own_H (own_H (own_H own_H0 va 1) va 1) vb 1) va (-1)) vc.toNatClampNeg))])
            refine Go.of (fun _ kq => XS.icmpNo X.here hx rfl (hb hby at_255) rfl (teq (own_h4 i_va i_vb i_vc)).2 kq) ?_
            show Go p e below s _ _ T (mkF m 258 #[.val (.int x1), .val (.int x2), .val (.int x3), .val (.int x4), .val (.int va), .val (.int vb), .val (.int vc), .val (.int (0 : Int32)), .val (.ref b34), .val (.int (((own_ind z1) + (own_ind z2)) - (own_ind (0 : Int32)))), .val (.int (((own_ind z4) + (own_ind z5)) - (own_ind (0 : Int32))))] [])
            refine Go.of (fun _ kq => XS.aload X.here hx rfl (hb hby at_258) rfl rfl kq) ?_
            show Go p e below s _ _ T (mkF m 260 #[.val (.int x1), .val (.int x2), .val (.int x3), .val (.int x4), .val (.int va), .val (.int vb), .val (.int vc), .val (.int (0 : Int32)), .val (.ref b34), .val (.int (((own_ind z1) + (own_ind z2)) - (own_ind (0 : Int32)))), .val (.int (((own_ind z4) + (own_ind z5)) - (own_ind (0 : Int32))))] [(.ref b34)])
            refine Go.virtual (a := b34) X hx hZ hown (hw _ (List.mem_of_getElem? (i := 90) rfl)) (hw _ (List.mem_of_getElem? (i := 91) rfl)) (notFace_of_selects (args := #[]) (mvT hZ (hw _ (List.mem_of_getElem? (i := 93) rfl)))) (hw _ (List.mem_of_getElem? (i := 93) rfl)) (hw _ (List.mem_of_getElem? (i := 92) rfl)) (hw _ (List.mem_of_getElem? (i := 2) rfl)) (hw _ (List.mem_of_getElem? (i := 94) rfl)) (by decide) (rmHC hw b34 _ _ n0 F_heldByClients_b34) eT E_b34 0 (by decide) (by decide) (by decide) (by decide) (by rw [hml]; rfl) (argsL := []) [] (lenOf pd8 rfl) rfl rfl (Nat.le_of_eq rfl) (hb hby at_260) ?_
            intro v T L' X hQ
            obtain ⟨rfl, N', eT⟩ := hQ
            have N := Fr.app N N'
            show Go p e below s _ _ T (mkF m 263 #[.val (.int x1), .val (.int x2), .val (.int x3), .val (.int x4), .val (.int va), .val (.int vb), .val (.int vc), .val (.int (0 : Int32)), .val (.ref b34), .val (.int (((own_ind z1) + (own_ind z2)) - (own_ind (0 : Int32)))), .val (.int (((own_ind z4) + (own_ind z5)) - (own_ind (0 : Int32))))] [(.int (own_kc (own_kc (own_kc (own_kc (0 : Int32) va 1) va 1) vb 1) va (-1)))])
            refine Go.of (fun _ kq => XS.iload X.here hx rfl (hb hby at_263) rfl kq) ?_
            show Go p e below s _ _ T (mkF m 265 #[.val (.int x1), .val (.int x2), .val (.int x3), .val (.int x4), .val (.int va), .val (.int vb), .val (.int vc), .val (.int (0 : Int32)), .val (.ref b34), .val (.int (((own_ind z1) + (own_ind z2)) - (own_ind (0 : Int32)))), .val (.int (((own_ind z4) + (own_ind z5)) - (own_ind (0 : Int32))))] [(.int (((own_ind z1) + (own_ind z2)) - (own_ind (0 : Int32)))), (.int (own_kc (own_kc (own_kc (own_kc (0 : Int32) va 1) va 1) vb 1) va (-1)))])
            refine Go.of (fun _ kq => XS.icmpNo X.here hx rfl (hb hby at_265) rfl (teq (by rw [hz1, hz2]; exact own_c4 va vb)).2 kq) ?_
            show Go p e below s _ _ T (mkF m 268 #[.val (.int x1), .val (.int x2), .val (.int x3), .val (.int x4), .val (.int va), .val (.int vb), .val (.int vc), .val (.int (0 : Int32)), .val (.ref b34), .val (.int (((own_ind z1) + (own_ind z2)) - (own_ind (0 : Int32)))), .val (.int (((own_ind z4) + (own_ind z5)) - (own_ind (0 : Int32))))] [])
            refine Go.of (fun _ kq => XS.aload X.here hx rfl (hb hby at_268) rfl rfl kq) ?_
            show Go p e below s _ _ T (mkF m 270 #[.val (.int x1), .val (.int x2), .val (.int x3), .val (.int x4), .val (.int va), .val (.int vb), .val (.int vc), .val (.int (0 : Int32)), .val (.ref b34), .val (.int (((own_ind z1) + (own_ind z2)) - (own_ind (0 : Int32)))), .val (.int (((own_ind z4) + (own_ind z5)) - (own_ind (0 : Int32))))] [(.ref b34)])
            refine Go.virtual (a := b34) X hx hZ hown (hw _ (List.mem_of_getElem? (i := 95) rfl)) (hw _ (List.mem_of_getElem? (i := 96) rfl)) (notFace_of_selects (args := #[]) (mvT hZ (hw _ (List.mem_of_getElem? (i := 98) rfl)))) (hw _ (List.mem_of_getElem? (i := 98) rfl)) (hw _ (List.mem_of_getElem? (i := 97) rfl)) (hw _ (List.mem_of_getElem? (i := 2) rfl)) (hw _ (List.mem_of_getElem? (i := 99) rfl)) (by decide) (rmHG hw b34 _ _ n0 F_heldByGroups_b34) eT E_b34 0 (by decide) (by decide) (by decide) (by decide) (by rw [hml]; rfl) (argsL := []) [] (lenOf pd8 rfl) rfl rfl (Nat.le_of_eq rfl) (hb hby at_270) ?_
            intro v T L' X hQ
            obtain ⟨rfl, N', eT⟩ := hQ
            have N := Fr.app N N'
            show Go p e below s _ _ T (mkF m 273 #[.val (.int x1), .val (.int x2), .val (.int x3), .val (.int x4), .val (.int va), .val (.int vb), .val (.int vc), .val (.int (0 : Int32)), .val (.ref b34), .val (.int (((own_ind z1) + (own_ind z2)) - (own_ind (0 : Int32)))), .val (.int (((own_ind z4) + (own_ind z5)) - (own_ind (0 : Int32))))] [(.int (own_kg (own_kg (own_kg (own_kg (0 : Int32) va 1) va 1) vb 1) va (-1)))])
            refine Go.of (fun _ kq => XS.iload X.here hx rfl (hb hby at_273) rfl kq) ?_
            show Go p e below s _ _ T (mkF m 275 #[.val (.int x1), .val (.int x2), .val (.int x3), .val (.int x4), .val (.int va), .val (.int vb), .val (.int vc), .val (.int (0 : Int32)), .val (.ref b34), .val (.int (((own_ind z1) + (own_ind z2)) - (own_ind (0 : Int32)))), .val (.int (((own_ind z4) + (own_ind z5)) - (own_ind (0 : Int32))))] [(.int (((own_ind z4) + (own_ind z5)) - (own_ind (0 : Int32)))), (.int (own_kg (own_kg (own_kg (own_kg (0 : Int32) va 1) va 1) vb 1) va (-1)))])
            refine Go.of (fun _ kq => XS.icmpNo X.here hx rfl (hb hby at_275) rfl (teq (by rw [hz4, hz5]; exact own_g4 va vb)).2 kq) ?_
            show Go p e below s _ _ T (mkF m 278 #[.val (.int x1), .val (.int x2), .val (.int x3), .val (.int x4), .val (.int va), .val (.int vb), .val (.int vc), .val (.int (0 : Int32)), .val (.ref b34), .val (.int (((own_ind z1) + (own_ind z2)) - (own_ind (0 : Int32)))), .val (.int (((own_ind z4) + (own_ind z5)) - (own_ind (0 : Int32))))] [])
            refine Go.of (fun _ kq => XS.iconst X.here hx rfl (hb hby at_278) kq) ?_
            show Go p e below s _ _ T (mkF m 279 #[.val (.int x1), .val (.int x2), .val (.int x3), .val (.int x4), .val (.int va), .val (.int vb), .val (.int vc), .val (.int (0 : Int32)), .val (.ref b34), .val (.int (((own_ind z1) + (own_ind z2)) - (own_ind (0 : Int32)))), .val (.int (((own_ind z4) + (own_ind z5)) - (own_ind (0 : Int32))))] [(.int (1 : Int32))])
            refine Go.of (fun _ kq => XS.goto X.here hx rfl (pc0 := 279) (pc' := 283) rfl (hb hby at_279) (by decide) (by decide) kq) ?_
            show Go p e below s _ _ T (mkF m 283 #[.val (.int x1), .val (.int x2), .val (.int x3), .val (.int x4), .val (.int va), .val (.int vb), .val (.int vc), .val (.int (0 : Int32)), .val (.ref b34), .val (.int (((own_ind z1) + (own_ind z2)) - (own_ind (0 : Int32)))), .val (.int (((own_ind z4) + (own_ind z5)) - (own_ind (0 : Int32))))] [(.int (1 : Int32))])
            refine Go.retN X hx hret (by simp) hlk (hb hby at_283) (by decide) (by decide) ?_
            try rw [eT]
            exact ⟨rfl, N⟩
          · intro jn168
            show Go p e below s _ _ T (mkF m 156 #[.val (.int x1), .val (.int x2), .val (.int x3), .val (.int x4), .val (.int va), .val (.int vb), .val (.int vc), .val (.int (0 : Int32)), .val (.ref b34), .val (.int (((own_ind z1) + (own_ind z2)) - (own_ind (0 : Int32)))), .unset] [(.int (own_ind z4))])
            refine Go.of (fun _ kq => XS.iload X.here hx rfl (hb hby at_156) rfl kq) ?_
            show Go p e below s _ _ T (mkF m 158 #[.val (.int x1), .val (.int x2), .val (.int x3), .val (.int x4), .val (.int va), .val (.int vb), .val (.int vc), .val (.int (0 : Int32)), .val (.ref b34), .val (.int (((own_ind z1) + (own_ind z2)) - (own_ind (0 : Int32)))), .unset] [(.int vb), (.int (own_ind z4))])
            refine Go.of (fun _ kq => XS.bipush X.here hx rfl (hb hby at_158) kq) ?_
            show Go p e below s _ _ T (mkF m 160 #[.val (.int x1), .val (.int x2), .val (.int x3), .val (.int x4), .val (.int va), .val (.int vb), .val (.int vc), .val (.int (0 : Int32)), .val (.ref b34), .val (.int (((own_ind z1) + (own_ind z2)) - (own_ind (0 : Int32)))), .unset] [(.int (64 : Int32)), (.int vb), (.int (own_ind z4))])
            by_cases hc160 : vb < (64 : Int32)
            · refine Go.of (fun _ kq => XS.icmpYes X.here hx rfl (pc0 := 160) (pc' := 167) rfl (hb hby at_160) rfl (tlt hc160).1 (by decide) (by decide) kq) ?_
              show Go p e below s _ _ T (mkF m 167 #[.val (.int x1), .val (.int x2), .val (.int x3), .val (.int x4), .val (.int va), .val (.int vb), .val (.int vc), .val (.int (0 : Int32)), .val (.ref b34), .val (.int (((own_ind z1) + (own_ind z2)) - (own_ind (0 : Int32)))), .unset] [(.int (own_ind z4))])
              refine Go.of (fun _ kq => XS.iconst X.here hx rfl (hb hby at_167) kq) ?_
              show Go p e below s _ _ T (mkF m 168 #[.val (.int x1), .val (.int x2), .val (.int x3), .val (.int x4), .val (.int va), .val (.int vb), .val (.int vc), .val (.int (0 : Int32)), .val (.ref b34), .val (.int (((own_ind z1) + (own_ind z2)) - (own_ind (0 : Int32)))), .unset] [(.int (0 : Int32)), (.int (own_ind z4))])
              exact jn168 _ (by rw [if_pos hc160])
            · refine Go.of (fun _ kq => XS.icmpNo X.here hx rfl (hb hby at_160) rfl (flt hc160).1 kq) ?_
              show Go p e below s _ _ T (mkF m 163 #[.val (.int x1), .val (.int x2), .val (.int x3), .val (.int x4), .val (.int va), .val (.int vb), .val (.int vc), .val (.int (0 : Int32)), .val (.ref b34), .val (.int (((own_ind z1) + (own_ind z2)) - (own_ind (0 : Int32)))), .unset] [(.int (own_ind z4))])
              refine Go.of (fun _ kq => XS.iconst X.here hx rfl (hb hby at_163) kq) ?_
              show Go p e below s _ _ T (mkF m 164 #[.val (.int x1), .val (.int x2), .val (.int x3), .val (.int x4), .val (.int va), .val (.int vb), .val (.int vc), .val (.int (0 : Int32)), .val (.ref b34), .val (.int (((own_ind z1) + (own_ind z2)) - (own_ind (0 : Int32)))), .unset] [(.int (1 : Int32)), (.int (own_ind z4))])
              refine Go.of (fun _ kq => XS.goto X.here hx rfl (pc0 := 164) (pc' := 168) rfl (hb hby at_164) (by decide) (by decide) kq) ?_
              show Go p e below s _ _ T (mkF m 168 #[.val (.int x1), .val (.int x2), .val (.int x3), .val (.int x4), .val (.int va), .val (.int vb), .val (.int vc), .val (.int (0 : Int32)), .val (.ref b34), .val (.int (((own_ind z1) + (own_ind z2)) - (own_ind (0 : Int32)))), .unset] [(.int (1 : Int32)), (.int (own_ind z4))])
              exact jn168 _ (by rw [if_neg hc160])
        · intro jn153
          show Go p e below s _ _ T (mkF m 141 #[.val (.int x1), .val (.int x2), .val (.int x3), .val (.int x4), .val (.int va), .val (.int vb), .val (.int vc), .val (.int (0 : Int32)), .val (.ref b34), .val (.int (((own_ind z1) + (own_ind z2)) - (own_ind (0 : Int32)))), .unset] [])
          refine Go.of (fun _ kq => XS.iload X.here hx rfl (hb hby at_141) rfl kq) ?_
          show Go p e below s _ _ T (mkF m 143 #[.val (.int x1), .val (.int x2), .val (.int x3), .val (.int x4), .val (.int va), .val (.int vb), .val (.int vc), .val (.int (0 : Int32)), .val (.ref b34), .val (.int (((own_ind z1) + (own_ind z2)) - (own_ind (0 : Int32)))), .unset] [(.int va)])
          refine Go.of (fun _ kq => XS.bipush X.here hx rfl (hb hby at_143) kq) ?_
          show Go p e below s _ _ T (mkF m 145 #[.val (.int x1), .val (.int x2), .val (.int x3), .val (.int x4), .val (.int va), .val (.int vb), .val (.int vc), .val (.int (0 : Int32)), .val (.ref b34), .val (.int (((own_ind z1) + (own_ind z2)) - (own_ind (0 : Int32)))), .unset] [(.int (64 : Int32)), (.int va)])
          by_cases hc145 : va < (64 : Int32)
          · refine Go.of (fun _ kq => XS.icmpYes X.here hx rfl (pc0 := 145) (pc' := 152) rfl (hb hby at_145) rfl (tlt hc145).1 (by decide) (by decide) kq) ?_
            show Go p e below s _ _ T (mkF m 152 #[.val (.int x1), .val (.int x2), .val (.int x3), .val (.int x4), .val (.int va), .val (.int vb), .val (.int vc), .val (.int (0 : Int32)), .val (.ref b34), .val (.int (((own_ind z1) + (own_ind z2)) - (own_ind (0 : Int32)))), .unset] [])
            refine Go.of (fun _ kq => XS.iconst X.here hx rfl (hb hby at_152) kq) ?_
            show Go p e below s _ _ T (mkF m 153 #[.val (.int x1), .val (.int x2), .val (.int x3), .val (.int x4), .val (.int va), .val (.int vb), .val (.int vc), .val (.int (0 : Int32)), .val (.ref b34), .val (.int (((own_ind z1) + (own_ind z2)) - (own_ind (0 : Int32)))), .unset] [(.int (0 : Int32))])
            exact jn153 _ (by rw [if_pos hc145])
          · refine Go.of (fun _ kq => XS.icmpNo X.here hx rfl (hb hby at_145) rfl (flt hc145).1 kq) ?_
            show Go p e below s _ _ T (mkF m 148 #[.val (.int x1), .val (.int x2), .val (.int x3), .val (.int x4), .val (.int va), .val (.int vb), .val (.int vc), .val (.int (0 : Int32)), .val (.ref b34), .val (.int (((own_ind z1) + (own_ind z2)) - (own_ind (0 : Int32)))), .unset] [])
            refine Go.of (fun _ kq => XS.iconst X.here hx rfl (hb hby at_148) kq) ?_
            show Go p e below s _ _ T (mkF m 149 #[.val (.int x1), .val (.int x2), .val (.int x3), .val (.int x4), .val (.int va), .val (.int vb), .val (.int vc), .val (.int (0 : Int32)), .val (.ref b34), .val (.int (((own_ind z1) + (own_ind z2)) - (own_ind (0 : Int32)))), .unset] [(.int (1 : Int32))])
            refine Go.of (fun _ kq => XS.goto X.here hx rfl (pc0 := 149) (pc' := 153) rfl (hb hby at_149) (by decide) (by decide) kq) ?_
            show Go p e below s _ _ T (mkF m 153 #[.val (.int x1), .val (.int x2), .val (.int x3), .val (.int x4), .val (.int va), .val (.int vb), .val (.int vc), .val (.int (0 : Int32)), .val (.ref b34), .val (.int (((own_ind z1) + (own_ind z2)) - (own_ind (0 : Int32)))), .unset] [(.int (1 : Int32))])
            exact jn153 _ (by rw [if_neg hc145])
      · intro jn114
        show Go p e below s _ _ T (mkF m 102 #[.val (.int x1), .val (.int x2), .val (.int x3), .val (.int x4), .val (.int va), .val (.int vb), .val (.int vc), .val (.int (0 : Int32)), .val (.ref b34), .unset, .unset] [(.int (own_ind z1))])
        refine Go.of (fun _ kq => XS.iload X.here hx rfl (hb hby at_102) rfl kq) ?_
        show Go p e below s _ _ T (mkF m 104 #[.val (.int x1), .val (.int x2), .val (.int x3), .val (.int x4), .val (.int va), .val (.int vb), .val (.int vc), .val (.int (0 : Int32)), .val (.ref b34), .unset, .unset] [(.int vb), (.int (own_ind z1))])
        refine Go.of (fun _ kq => XS.bipush X.here hx rfl (hb hby at_104) kq) ?_
        show Go p e below s _ _ T (mkF m 106 #[.val (.int x1), .val (.int x2), .val (.int x3), .val (.int x4), .val (.int va), .val (.int vb), .val (.int vc), .val (.int (0 : Int32)), .val (.ref b34), .unset, .unset] [(.int (64 : Int32)), (.int vb), (.int (own_ind z1))])
        by_cases hc106 : vb < (64 : Int32)
        · refine Go.of (fun _ kq => XS.icmpNo X.here hx rfl (hb hby at_106) rfl (tlt hc106).2.1 kq) ?_
          show Go p e below s _ _ T (mkF m 109 #[.val (.int x1), .val (.int x2), .val (.int x3), .val (.int x4), .val (.int va), .val (.int vb), .val (.int vc), .val (.int (0 : Int32)), .val (.ref b34), .unset, .unset] [(.int (own_ind z1))])
          refine Go.of (fun _ kq => XS.iconst X.here hx rfl (hb hby at_109) kq) ?_
          show Go p e below s _ _ T (mkF m 110 #[.val (.int x1), .val (.int x2), .val (.int x3), .val (.int x4), .val (.int va), .val (.int vb), .val (.int vc), .val (.int (0 : Int32)), .val (.ref b34), .unset, .unset] [(.int (1 : Int32)), (.int (own_ind z1))])
          refine Go.of (fun _ kq => XS.goto X.here hx rfl (pc0 := 110) (pc' := 114) rfl (hb hby at_110) (by decide) (by decide) kq) ?_
          show Go p e below s _ _ T (mkF m 114 #[.val (.int x1), .val (.int x2), .val (.int x3), .val (.int x4), .val (.int va), .val (.int vb), .val (.int vc), .val (.int (0 : Int32)), .val (.ref b34), .unset, .unset] [(.int (1 : Int32)), (.int (own_ind z1))])
          exact jn114 _ (by rw [if_pos hc106])
        · refine Go.of (fun _ kq => XS.icmpYes X.here hx rfl (pc0 := 106) (pc' := 113) rfl (hb hby at_106) rfl (flt hc106).2.1 (by decide) (by decide) kq) ?_
          show Go p e below s _ _ T (mkF m 113 #[.val (.int x1), .val (.int x2), .val (.int x3), .val (.int x4), .val (.int va), .val (.int vb), .val (.int vc), .val (.int (0 : Int32)), .val (.ref b34), .unset, .unset] [(.int (own_ind z1))])
          refine Go.of (fun _ kq => XS.iconst X.here hx rfl (hb hby at_113) kq) ?_
          show Go p e below s _ _ T (mkF m 114 #[.val (.int x1), .val (.int x2), .val (.int x3), .val (.int x4), .val (.int va), .val (.int vb), .val (.int vc), .val (.int (0 : Int32)), .val (.ref b34), .unset, .unset] [(.int (0 : Int32)), (.int (own_ind z1))])
          exact jn114 _ (by rw [if_neg hc106])
    · intro jn99
      show Go p e below s _ _ T (mkF m 87 #[.val (.int x1), .val (.int x2), .val (.int x3), .val (.int x4), .val (.int va), .val (.int vb), .val (.int vc), .val (.int (0 : Int32)), .val (.ref b34), .unset, .unset] [])
      refine Go.of (fun _ kq => XS.iload X.here hx rfl (hb hby at_87) rfl kq) ?_
      show Go p e below s _ _ T (mkF m 89 #[.val (.int x1), .val (.int x2), .val (.int x3), .val (.int x4), .val (.int va), .val (.int vb), .val (.int vc), .val (.int (0 : Int32)), .val (.ref b34), .unset, .unset] [(.int va)])
      refine Go.of (fun _ kq => XS.bipush X.here hx rfl (hb hby at_89) kq) ?_
      show Go p e below s _ _ T (mkF m 91 #[.val (.int x1), .val (.int x2), .val (.int x3), .val (.int x4), .val (.int va), .val (.int vb), .val (.int vc), .val (.int (0 : Int32)), .val (.ref b34), .unset, .unset] [(.int (64 : Int32)), (.int va)])
      by_cases hc91 : va < (64 : Int32)
      · refine Go.of (fun _ kq => XS.icmpNo X.here hx rfl (hb hby at_91) rfl (tlt hc91).2.1 kq) ?_
        show Go p e below s _ _ T (mkF m 94 #[.val (.int x1), .val (.int x2), .val (.int x3), .val (.int x4), .val (.int va), .val (.int vb), .val (.int vc), .val (.int (0 : Int32)), .val (.ref b34), .unset, .unset] [])
        refine Go.of (fun _ kq => XS.iconst X.here hx rfl (hb hby at_94) kq) ?_
        show Go p e below s _ _ T (mkF m 95 #[.val (.int x1), .val (.int x2), .val (.int x3), .val (.int x4), .val (.int va), .val (.int vb), .val (.int vc), .val (.int (0 : Int32)), .val (.ref b34), .unset, .unset] [(.int (1 : Int32))])
        refine Go.of (fun _ kq => XS.goto X.here hx rfl (pc0 := 95) (pc' := 99) rfl (hb hby at_95) (by decide) (by decide) kq) ?_
        show Go p e below s _ _ T (mkF m 99 #[.val (.int x1), .val (.int x2), .val (.int x3), .val (.int x4), .val (.int va), .val (.int vb), .val (.int vc), .val (.int (0 : Int32)), .val (.ref b34), .unset, .unset] [(.int (1 : Int32))])
        exact jn99 _ (by rw [if_pos hc91])
      · refine Go.of (fun _ kq => XS.icmpYes X.here hx rfl (pc0 := 91) (pc' := 98) rfl (hb hby at_91) rfl (flt hc91).2.1 (by decide) (by decide) kq) ?_
        show Go p e below s _ _ T (mkF m 98 #[.val (.int x1), .val (.int x2), .val (.int x3), .val (.int x4), .val (.int va), .val (.int vb), .val (.int vc), .val (.int (0 : Int32)), .val (.ref b34), .unset, .unset] [])
        refine Go.of (fun _ kq => XS.iconst X.here hx rfl (hb hby at_98) kq) ?_
        show Go p e below s _ _ T (mkF m 99 #[.val (.int x1), .val (.int x2), .val (.int x3), .val (.int x4), .val (.int va), .val (.int vb), .val (.int vc), .val (.int (0 : Int32)), .val (.ref b34), .unset, .unset] [(.int (0 : Int32))])
        exact jn99 _ (by rw [if_neg hc91])
  · refine Go.of (fun _ kq => XS.ifNo X.here hx rfl (hb hby at_24) rfl ((if0 _ _).trans (feq hc24).1) kq) ?_
    show Go p e below s _ _ T (mkF m 27 #[.val (.int x1), .val (.int x2), .val (.int x3), .val (.int x4), .val (.int (x1 &&& (4095 : Int32))), .val (.int (x2 &&& (4095 : Int32))), .val (.int (x3 &&& (4095 : Int32))), .unset, .unset, .unset, .unset] [])
    refine Go.of (fun _ kq => XS.iconst X.here hx rfl (hb hby at_27) kq) ?_
    show Go p e below s _ _ T (mkF m 28 #[.val (.int x1), .val (.int x2), .val (.int x3), .val (.int x4), .val (.int (x1 &&& (4095 : Int32))), .val (.int (x2 &&& (4095 : Int32))), .val (.int (x3 &&& (4095 : Int32))), .unset, .unset, .unset, .unset] [(.int (1 : Int32))])
    refine Go.of (fun _ kq => XS.goto X.here hx rfl (pc0 := 28) (pc' := 32) rfl (hb hby at_28) (by decide) (by decide) kq) ?_
    show Go p e below s _ _ T (mkF m 32 #[.val (.int x1), .val (.int x2), .val (.int x3), .val (.int x4), .val (.int (x1 &&& (4095 : Int32))), .val (.int (x2 &&& (4095 : Int32))), .val (.int (x3 &&& (4095 : Int32))), .unset, .unset, .unset, .unset] [(.int (1 : Int32))])
    refine Go.of (fun _ kq => XS.istore X.here hx rfl (hb hby at_32) rfl (l' := #[.val (.int x1), .val (.int x2), .val (.int x3), .val (.int x4), .val (.int (x1 &&& (4095 : Int32))), .val (.int (x2 &&& (4095 : Int32))), .val (.int (x3 &&& (4095 : Int32))), .val (.int (1 : Int32)), .unset, .unset, .unset]) rfl kq) ?_
    show Go p e below s _ _ T (mkF m 34 #[.val (.int x1), .val (.int x2), .val (.int x3), .val (.int x4), .val (.int (x1 &&& (4095 : Int32))), .val (.int (x2 &&& (4095 : Int32))), .val (.int (x3 &&& (4095 : Int32))), .val (.int (1 : Int32)), .unset, .unset, .unset] [])
    obtain ⟨va, h_va⟩ : ∃ z : Int32, z = (x1 &&& (4095 : Int32)) := ⟨_, rfl⟩
    rw [← h_va]
    have i_va : Inb va 4096 := by rw [h_va]; exact own_mask12 _
    obtain ⟨vb, h_vb⟩ : ∃ z : Int32, z = (x2 &&& (4095 : Int32)) := ⟨_, rfl⟩
    rw [← h_vb]
    have i_vb : Inb vb 4096 := by rw [h_vb]; exact own_mask12 _
    obtain ⟨vc, h_vc⟩ : ∃ z : Int32, z = (x3 &&& (4095 : Int32)) := ⟨_, rfl⟩
    rw [← h_vc]
    have i_vc : Inb vc 4096 := by rw [h_vc]; exact own_mask12 _
    refine Go.newO X hx hZ hown (hw _ (List.mem_of_getElem? (i := 0) rfl)) (hw _ (List.mem_of_getElem? (i := 1) rfl)) (hw _ (List.mem_of_getElem? (i := 2) rfl)) eT (hb hby at_34) (by decide) (by decide) ?_
    intro T h b34 X eT E ha E_b34 D_b34
    have z_b34 : h0.size ≤ b34 := by rw [ha]; exact K.1
    have g_b34 : n0 ≤ b34 := Nat.le_trans Z0 z_b34
    have K := K.ext E
    have F_clients_b34 : Fld Z h b34 "com/example/credence/credence/oauth1/Owners" "clients" "[I" .null := D_b34 (Or.inr (hw _ (List.mem_of_getElem? (i := 11) rfl))) (ty := (.array .int)) (by decide)
    have F_held_b34 : Fld Z h b34 "com/example/credence/credence/oauth1/Owners" "held" "[I" .null := D_b34 (Or.inr (hw _ (List.mem_of_getElem? (i := 13) rfl))) (ty := (.array .int)) (by decide)
    have F_credited_b34 : Fld Z h b34 "com/example/credence/credence/oauth1/Owners" "credited" "[I" .null := D_b34 (Or.inr (hw _ (List.mem_of_getElem? (i := 15) rfl))) (ty := (.array .int)) (by decide)
    have F_credits_b34 : Fld Z h b34 "com/example/credence/credence/oauth1/Owners" "credits" "[I" .null := D_b34 (Or.inr (hw _ (List.mem_of_getElem? (i := 17) rfl))) (ty := (.array .int)) (by decide)
    have F_counted_b34 : Fld Z h b34 "com/example/credence/credence/oauth1/Owners" "counted" "[I" .null := D_b34 (Or.inr (hw _ (List.mem_of_getElem? (i := 19) rfl))) (ty := (.array .int)) (by decide)
    have F_grouped_b34 : Fld Z h b34 "com/example/credence/credence/oauth1/Owners" "grouped" "[I" .null := D_b34 (Or.inr (hw _ (List.mem_of_getElem? (i := 21) rfl))) (ty := (.array .int)) (by decide)
    have F_firsts_b34 : Fld Z h b34 "com/example/credence/credence/oauth1/Owners" "firsts" "[J" .null := D_b34 (Or.inr (hw _ (List.mem_of_getElem? (i := 24) rfl))) (ty := (.array .long)) (by decide)
    have F_lasts_b34 : Fld Z h b34 "com/example/credence/credence/oauth1/Owners" "lasts" "[J" .null := D_b34 (Or.inr (hw _ (List.mem_of_getElem? (i := 26) rfl))) (ty := (.array .long)) (by decide)
    have F_maxOfGroups_b34 : Fld Z h b34 "com/example/credence/credence/oauth1/Owners" "maxOfGroups" "I" (.int (0 : Int32)) := D_b34 (Or.inr (hw _ (List.mem_of_getElem? (i := 28) rfl))) (ty := .int) (by decide)
    have F_share_b34 : Fld Z h b34 "com/example/credence/credence/oauth1/Owners" "share" "I" (.int (0 : Int32)) := D_b34 (Or.inr (hw _ (List.mem_of_getElem? (i := 34) rfl))) (ty := .int) (by decide)
    have F_recent_b34 : Fld Z h b34 "com/example/credence/credence/oauth1/Owners" "recent" "Lcom/example/credence/credence/oauth1/HeavyHitters;" .null := D_b34 (Or.inr (hw _ (List.mem_of_getElem? (i := 59) rfl))) (ty := (.object "com/example/credence/credence/oauth1/HeavyHitters")) (by decide)
    have F_heldByClients_b34 : Fld Z h b34 "com/example/credence/credence/oauth1/Owners" "heldByClients" "I" (.int (0 : Int32)) := D_b34 (Or.inl (hw _ (List.mem_of_getElem? (i := 72) rfl))) (ty := .int) (by decide)
    have F_heldByGroups_b34 : Fld Z h b34 "com/example/credence/credence/oauth1/Owners" "heldByGroups" "I" (.int (0 : Int32)) := D_b34 (Or.inl (hw _ (List.mem_of_getElem? (i := 101) rfl))) (ty := .int) (by decide)
    show Go p e below s _ _ T (mkF m 37 #[.val (.int x1), .val (.int x2), .val (.int x3), .val (.int x4), .val (.int va), .val (.int vb), .val (.int vc), .val (.int (1 : Int32)), .unset, .unset, .unset] [(.ref b34)])
    refine Go.of (fun _ kq => XS.dup X.here hx rfl (hb hby at_37) rfl rfl kq) ?_
    show Go p e below s _ _ T (mkF m 38 #[.val (.int x1), .val (.int x2), .val (.int x3), .val (.int x4), .val (.int va), .val (.int vb), .val (.int vc), .val (.int (1 : Int32)), .unset, .unset, .unset] [(.ref b34), (.ref b34)])
    refine Go.of (fun _ kq => XS.bipush X.here hx rfl (hb hby at_38) kq) ?_
    show Go p e below s _ _ T (mkF m 40 #[.val (.int x1), .val (.int x2), .val (.int x3), .val (.int x4), .val (.int va), .val (.int vb), .val (.int vc), .val (.int (1 : Int32)), .unset, .unset, .unset] [(.int (64 : Int32)), (.ref b34), (.ref b34)])
    refine Go.of (fun _ kq => XS.lconst X.here hx rfl (hb hby at_40) kq) ?_
    show Go p e below s _ _ T (mkF m 41 #[.val (.int x1), .val (.int x2), .val (.int x3), .val (.int x4), .val (.int va), .val (.int vb), .val (.int vc), .val (.int (1 : Int32)), .unset, .unset, .unset] [(.long (1 : Int64)), (.int (64 : Int32)), (.ref b34), (.ref b34)])
    refine Go.of (fun _ kq => XS.lconst X.here hx rfl (hb hby at_41) kq) ?_
    show Go p e below s _ _ T (mkF m 42 #[.val (.int x1), .val (.int x2), .val (.int x3), .val (.int x4), .val (.int va), .val (.int vb), .val (.int vc), .val (.int (1 : Int32)), .unset, .unset, .unset] [(.long (0 : Int64)), (.long (1 : Int64)), (.int (64 : Int32)), (.ref b34), (.ref b34)])
    refine Go.special (a := b34) X hx hZ hown rfl (hw _ (List.mem_of_getElem? (i := 3) rfl)) (hw _ (List.mem_of_getElem? (i := 4) rfl)) (hw _ (List.mem_of_getElem? (i := 2) rfl)) (hw _ (List.mem_of_getElem? (i := 5) rfl)) (by decide) (rmOw hw b34 (64 : Int32) (1 : Int64) (0 : Int64) _ n0 (Nat.le_trans Z0 K.1) g_b34 E_b34 F_clients_b34 F_held_b34 F_credited_b34 F_credits_b34 F_counted_b34 F_grouped_b34 F_firsts_b34 F_lasts_b34 F_maxOfGroups_b34 F_share_b34 F_recent_b34 F_heldByClients_b34 F_heldByGroups_b34) eT 1 (by decide) (by decide) (by decide) (by decide) (by rw [hml]; rfl) (argsL := [(.int (64 : Int32)), (.long (1 : Int64)), (.long (0 : Int64))]) [(.ref b34)] (lenOf pd4 rfl) rfl rfl (Nat.le_of_eq rfl) (hb hby at_42) ?_
    intro v T L' X hQ
    obtain ⟨h, eT⟩ : ∃ z, T.heap = z := ⟨_, rfl⟩
    rw [eT] at hQ
    obtain ⟨rfl, N', K', d, zd, ne_b34_d, F_held_b34, F_heldByClients_b34, F_heldByGroups_b34, V_d⟩ := hQ
    have N := Fr.app N N'
    have z_d := Nat.le_trans K.1 zd
    have g_d := Nat.le_trans Z0 z_d
    have K := K.trans K' (own_all1 (Or.inr z_b34))
    have E_b34 := E_b34.keep K'
    show Go p e below s _ _ T (mkF m 45 #[.val (.int x1), .val (.int x2), .val (.int x3), .val (.int x4), .val (.int va), .val (.int vb), .val (.int vc), .val (.int (1 : Int32)), .unset, .unset, .unset] [(.ref b34)])
    refine Go.of (fun _ kq => XS.astore X.here hx rfl (hb hby at_45) rfl rfl (l' := #[.val (.int x1), .val (.int x2), .val (.int x3), .val (.int x4), .val (.int va), .val (.int vb), .val (.int vc), .val (.int (1 : Int32)), .val (.ref b34), .unset, .unset]) rfl kq) ?_
    show Go p e below s _ _ T (mkF m 47 #[.val (.int x1), .val (.int x2), .val (.int x3), .val (.int x4), .val (.int va), .val (.int vb), .val (.int vc), .val (.int (1 : Int32)), .val (.ref b34), .unset, .unset] [])
    refine Go.of (fun _ kq => XS.aload X.here hx rfl (hb hby at_47) rfl rfl kq) ?_
    show Go p e below s _ _ T (mkF m 49 #[.val (.int x1), .val (.int x2), .val (.int x3), .val (.int x4), .val (.int va), .val (.int vb), .val (.int vc), .val (.int (1 : Int32)), .val (.ref b34), .unset, .unset] [(.ref b34)])
    refine Go.of (fun _ kq => XS.iload X.here hx rfl (hb hby at_49) rfl kq) ?_
    show Go p e below s _ _ T (mkF m 51 #[.val (.int x1), .val (.int x2), .val (.int x3), .val (.int x4), .val (.int va), .val (.int vb), .val (.int vc), .val (.int (1 : Int32)), .val (.ref b34), .unset, .unset] [(.int va), (.ref b34)])
    refine Go.virtual (a := b34) X hx hZ hown (hw _ (List.mem_of_getElem? (i := 66) rfl)) (hw _ (List.mem_of_getElem? (i := 67) rfl)) (notFace_of_selects (args := #[]) (mvT hZ (hw _ (List.mem_of_getElem? (i := 69) rfl)))) (hw _ (List.mem_of_getElem? (i := 69) rfl)) (hw _ (List.mem_of_getElem? (i := 68) rfl)) (hw _ (List.mem_of_getElem? (i := 2) rfl)) (hw _ (List.mem_of_getElem? (i := 70) rfl)) (by decide) (rmKept hw b34 va d own_H0 (0 : Int32) (0 : Int32) _ n0 g_b34 g_d ne_b34_d i_va E_b34 F_held_b34 F_heldByClients_b34 F_heldByGroups_b34 V_d) eT E_b34 0 (by decide) (by decide) (by decide) (by decide) (by rw [hml]; rfl) (argsL := [(.int va)]) [] (lenOf pd5 rfl) rfl rfl (Nat.le_of_eq rfl) (hb hby at_51) ?_
    intro v T L' X hQ
    obtain ⟨h, eT⟩ : ∃ z, T.heap = z := ⟨_, rfl⟩
    rw [eT] at hQ
    obtain ⟨rfl, N', K', F_held_b34, F_heldByClients_b34, F_heldByGroups_b34, V_d⟩ := hQ
    have N := Fr.app N N'
    have K := K.trans K' (own_all2 (Or.inr z_b34) (Or.inr z_d))
    have E_b34 := E_b34.keep K'
    show Go p e below s _ _ T (mkF m 54 #[.val (.int x1), .val (.int x2), .val (.int x3), .val (.int x4), .val (.int va), .val (.int vb), .val (.int vc), .val (.int (1 : Int32)), .val (.ref b34), .unset, .unset] [])
    refine Go.of (fun _ kq => XS.aload X.here hx rfl (hb hby at_54) rfl rfl kq) ?_
    show Go p e below s _ _ T (mkF m 56 #[.val (.int x1), .val (.int x2), .val (.int x3), .val (.int x4), .val (.int va), .val (.int vb), .val (.int vc), .val (.int (1 : Int32)), .val (.ref b34), .unset, .unset] [(.ref b34)])
    refine Go.of (fun _ kq => XS.iload X.here hx rfl (hb hby at_56) rfl kq) ?_
    show Go p e below s _ _ T (mkF m 58 #[.val (.int x1), .val (.int x2), .val (.int x3), .val (.int x4), .val (.int va), .val (.int vb), .val (.int vc), .val (.int (1 : Int32)), .val (.ref b34), .unset, .unset] [(.int va), (.ref b34)])
    refine Go.virtual (a := b34) X hx hZ hown (hw _ (List.mem_of_getElem? (i := 66) rfl)) (hw _ (List.mem_of_getElem? (i := 67) rfl)) (notFace_of_selects (args := #[]) (mvT hZ (hw _ (List.mem_of_getElem? (i := 69) rfl)))) (hw _ (List.mem_of_getElem? (i := 69) rfl)) (hw _ (List.mem_of_getElem? (i := 68) rfl)) (hw _ (List.mem_of_getElem? (i := 2) rfl)) (hw _ (List.mem_of_getElem? (i := 70) rfl)) (by decide) (rmKept hw b34 va d (own_H own_H0 va 1) (own_kc (0 : Int32) va 1) (own_kg (0 : Int32) va 1) _ n0 g_b34 g_d ne_b34_d i_va E_b34 F_held_b34 F_heldByClients_b34 F_heldByGroups_b34 V_d) eT E_b34 0 (by decide) (by decide) (by decide) (by decide) (by rw [hml]; rfl) (argsL := [(.int va)]) [] (lenOf pd5 rfl) rfl rfl (Nat.le_of_eq rfl) (hb hby at_58) ?_
    intro v T L' X hQ
    obtain ⟨h, eT⟩ : ∃ z, T.heap = z := ⟨_, rfl⟩
    rw [eT] at hQ
    obtain ⟨rfl, N', K', F_held_b34, F_heldByClients_b34, F_heldByGroups_b34, V_d⟩ := hQ
    have N := Fr.app N N'
    have K := K.trans K' (own_all2 (Or.inr z_b34) (Or.inr z_d))
    have E_b34 := E_b34.keep K'
    show Go p e below s _ _ T (mkF m 61 #[.val (.int x1), .val (.int x2), .val (.int x3), .val (.int x4), .val (.int va), .val (.int vb), .val (.int vc), .val (.int (1 : Int32)), .val (.ref b34), .unset, .unset] [])
    refine Go.of (fun _ kq => XS.aload X.here hx rfl (hb hby at_61) rfl rfl kq) ?_
    show Go p e below s _ _ T (mkF m 63 #[.val (.int x1), .val (.int x2), .val (.int x3), .val (.int x4), .val (.int va), .val (.int vb), .val (.int vc), .val (.int (1 : Int32)), .val (.ref b34), .unset, .unset] [(.ref b34)])
    refine Go.of (fun _ kq => XS.iload X.here hx rfl (hb hby at_63) rfl kq) ?_
    show Go p e below s _ _ T (mkF m 65 #[.val (.int x1), .val (.int x2), .val (.int x3), .val (.int x4), .val (.int va), .val (.int vb), .val (.int vc), .val (.int (1 : Int32)), .val (.ref b34), .unset, .unset] [(.int vb), (.ref b34)])
    refine Go.virtual (a := b34) X hx hZ hown (hw _ (List.mem_of_getElem? (i := 66) rfl)) (hw _ (List.mem_of_getElem? (i := 67) rfl)) (notFace_of_selects (args := #[]) (mvT hZ (hw _ (List.mem_of_getElem? (i := 69) rfl)))) (hw _ (List.mem_of_getElem? (i := 69) rfl)) (hw _ (List.mem_of_getElem? (i := 68) rfl)) (hw _ (List.mem_of_getElem? (i := 2) rfl)) (hw _ (List.mem_of_getElem? (i := 70) rfl)) (by decide) (rmKept hw b34 vb d (own_H (own_H own_H0 va 1) va 1) (own_kc (own_kc (0 : Int32) va 1) va 1) (own_kg (own_kg (0 : Int32) va 1) va 1) _ n0 g_b34 g_d ne_b34_d i_vb E_b34 F_held_b34 F_heldByClients_b34 F_heldByGroups_b34 V_d) eT E_b34 0 (by decide) (by decide) (by decide) (by decide) (by rw [hml]; rfl) (argsL := [(.int vb)]) [] (lenOf pd5 rfl) rfl rfl (Nat.le_of_eq rfl) (hb hby at_65) ?_
    intro v T L' X hQ
    obtain ⟨h, eT⟩ : ∃ z, T.heap = z := ⟨_, rfl⟩
    rw [eT] at hQ
    obtain ⟨rfl, N', K', F_held_b34, F_heldByClients_b34, F_heldByGroups_b34, V_d⟩ := hQ
    have N := Fr.app N N'
    have K := K.trans K' (own_all2 (Or.inr z_b34) (Or.inr z_d))
    have E_b34 := E_b34.keep K'
    show Go p e below s _ _ T (mkF m 68 #[.val (.int x1), .val (.int x2), .val (.int x3), .val (.int x4), .val (.int va), .val (.int vb), .val (.int vc), .val (.int (1 : Int32)), .val (.ref b34), .unset, .unset] [])
    refine Go.of (fun _ kq => XS.aload X.here hx rfl (hb hby at_68) rfl rfl kq) ?_
    show Go p e below s _ _ T (mkF m 70 #[.val (.int x1), .val (.int x2), .val (.int x3), .val (.int x4), .val (.int va), .val (.int vb), .val (.int vc), .val (.int (1 : Int32)), .val (.ref b34), .unset, .unset] [(.ref b34)])
    refine Go.of (fun _ kq => XS.iload X.here hx rfl (hb hby at_70) rfl kq) ?_
    show Go p e below s _ _ T (mkF m 72 #[.val (.int x1), .val (.int x2), .val (.int x3), .val (.int x4), .val (.int va), .val (.int vb), .val (.int vc), .val (.int (1 : Int32)), .val (.ref b34), .unset, .unset] [(.int va), (.ref b34)])
    refine Go.virtual (a := b34) X hx hZ hown (hw _ (List.mem_of_getElem? (i := 73) rfl)) (hw _ (List.mem_of_getElem? (i := 74) rfl)) (notFace_of_selects (args := #[]) (mvT hZ (hw _ (List.mem_of_getElem? (i := 76) rfl)))) (hw _ (List.mem_of_getElem? (i := 76) rfl)) (hw _ (List.mem_of_getElem? (i := 75) rfl)) (hw _ (List.mem_of_getElem? (i := 2) rfl)) (hw _ (List.mem_of_getElem? (i := 77) rfl)) (by decide) (rmLet hw b34 va d (own_H (own_H (own_H own_H0 va 1) va 1) vb 1) (own_kc (own_kc (own_kc (0 : Int32) va 1) va 1) vb 1) (own_kg (own_kg (own_kg (0 : Int32) va 1) va 1) vb 1) _ n0 g_b34 g_d ne_b34_d i_va E_b34 F_held_b34 F_heldByClients_b34 F_heldByGroups_b34 V_d) eT E_b34 0 (by decide) (by decide) (by decide) (by decide) (by rw [hml]; rfl) (argsL := [(.int va)]) [] (lenOf pd5 rfl) rfl rfl (Nat.le_of_eq rfl) (hb hby at_72) ?_
    intro v T L' X hQ
    obtain ⟨h, eT⟩ : ∃ z, T.heap = z := ⟨_, rfl⟩
    rw [eT] at hQ
    obtain ⟨rfl, N', K', F_held_b34, F_heldByClients_b34, F_heldByGroups_b34, V_d⟩ := hQ
    have N := Fr.app N N'
    have K := K.trans K' (own_all2 (Or.inr z_b34) (Or.inr z_d))
    have E_b34 := E_b34.keep K'
    show Go p e below s _ _ T (mkF m 75 #[.val (.int x1), .val (.int x2), .val (.int x3), .val (.int x4), .val (.int va), .val (.int vb), .val (.int vc), .val (.int (1 : Int32)), .val (.ref b34), .unset, .unset] [])
    refine Go.of (fun _ kq => XS.iload X.here hx rfl (hb hby at_75) rfl kq) ?_
    show Go p e below s _ _ T (mkF m 77 #[.val (.int x1), .val (.int x2), .val (.int x3), .val (.int x4), .val (.int va), .val (.int vb), .val (.int vc), .val (.int (1 : Int32)), .val (.ref b34), .unset, .unset] [(.int (1 : Int32))])
    refine Go.of (fun _ kq => XS.ifNo X.here hx rfl (hb hby at_77) rfl ((if0 _ _).trans (feq (by decide)).1) kq) ?_
    show Go p e below s _ _ T (mkF m 80 #[.val (.int x1), .val (.int x2), .val (.int x3), .val (.int x4), .val (.int va), .val (.int vb), .val (.int vc), .val (.int (1 : Int32)), .val (.ref b34), .unset, .unset] [])
    refine Go.of (fun _ kq => XS.aload X.here hx rfl (hb hby at_80) rfl rfl kq) ?_
    show Go p e below s _ _ T (mkF m 82 #[.val (.int x1), .val (.int x2), .val (.int x3), .val (.int x4), .val (.int va), .val (.int vb), .val (.int vc), .val (.int (1 : Int32)), .val (.ref b34), .unset, .unset] [(.ref b34)])
    refine Go.of (fun _ kq => XS.iload X.here hx rfl (hb hby at_82) rfl kq) ?_
    show Go p e below s _ _ T (mkF m 84 #[.val (.int x1), .val (.int x2), .val (.int x3), .val (.int x4), .val (.int va), .val (.int vb), .val (.int vc), .val (.int (1 : Int32)), .val (.ref b34), .unset, .unset] [(.int vb), (.ref b34)])
    refine Go.virtual (a := b34) X hx hZ hown (hw _ (List.mem_of_getElem? (i := 73) rfl)) (hw _ (List.mem_of_getElem? (i := 74) rfl)) (notFace_of_selects (args := #[]) (mvT hZ (hw _ (List.mem_of_getElem? (i := 76) rfl)))) (hw _ (List.mem_of_getElem? (i := 76) rfl)) (hw _ (List.mem_of_getElem? (i := 75) rfl)) (hw _ (List.mem_of_getElem? (i := 2) rfl)) (hw _ (List.mem_of_getElem? (i := 77) rfl)) (by decide) (rmLet hw b34 vb d (own_H (own_H (own_H (own_H own_H0 va 1) va 1) vb 1) va (-1)) (own_kc (own_kc (own_kc (own_kc (0 : Int32) va 1) va 1) vb 1) va (-1)) (own_kg (own_kg (own_kg (own_kg (0 : Int32) va 1) va 1) vb 1) va (-1)) _ n0 g_b34 g_d ne_b34_d i_vb E_b34 F_held_b34 F_heldByClients_b34 F_heldByGroups_b34 V_d) eT E_b34 0 (by decide) (by decide) (by decide) (by decide) (by rw [hml]; rfl) (argsL := [(.int vb)]) [] (lenOf pd5 rfl) rfl rfl (Nat.le_of_eq rfl) (hb hby at_84) ?_
    intro v T L' X hQ
    obtain ⟨h, eT⟩ : ∃ z, T.heap = z := ⟨_, rfl⟩
    rw [eT] at hQ
    obtain ⟨rfl, N', K', F_held_b34, F_heldByClients_b34, F_heldByGroups_b34, V_d⟩ := hQ
    have N := Fr.app N N'
    have K := K.trans K' (own_all2 (Or.inr z_b34) (Or.inr z_d))
    have E_b34 := E_b34.keep K'
    show Go p e below s _ _ T (mkF m 87 #[.val (.int x1), .val (.int x2), .val (.int x3), .val (.int x4), .val (.int va), .val (.int vb), .val (.int vc), .val (.int (1 : Int32)), .val (.ref b34), .unset, .unset] [])
    refine Go.join (fun z1 : Int32 => z1 = if va < 64 then 1 else 0) (fun z1 => (mkF m 99 #[.val (.int x1), .val (.int x2), .val (.int x3), .val (.int x4), .val (.int va), .val (.int vb), .val (.int vc), .val (.int (1 : Int32)), .val (.ref b34), .unset, .unset] [(.int z1)])) ?_ ?_
    · intro z1 hz1
      show Go p e below s _ _ T (mkF m 99 #[.val (.int x1), .val (.int x2), .val (.int x3), .val (.int x4), .val (.int va), .val (.int vb), .val (.int vc), .val (.int (1 : Int32)), .val (.ref b34), .unset, .unset] [(.int z1)])
      refine Go.static X hx hZ hown (hw _ (List.mem_of_getElem? (i := 78) rfl)) (hw _ (List.mem_of_getElem? (i := 79) rfl)) (hw _ (List.mem_of_getElem? (i := 80) rfl)) (hw _ (List.mem_of_getElem? (i := 81) rfl)) (by decide) (rmInd hw z1 _ n0) eT 0 (by decide) (by decide) (by decide) (by decide) (by rw [hml]; rfl) (argsL := [(.int z1)]) [] (lenOf pd0 rfl) rfl rfl (Nat.le_of_eq rfl) (hb hby at_99) ?_
      intro v T L' X hQ
      obtain ⟨rfl, N', eT⟩ := hQ
      have N := Fr.app N N'
      show Go p e below s _ _ T (mkF m 102 #[.val (.int x1), .val (.int x2), .val (.int x3), .val (.int x4), .val (.int va), .val (.int vb), .val (.int vc), .val (.int (1 : Int32)), .val (.ref b34), .unset, .unset] [(.int (own_ind z1))])
      refine Go.join (fun z2 : Int32 => z2 = if vb < 64 then 1 else 0) (fun z2 => (mkF m 114 #[.val (.int x1), .val (.int x2), .val (.int x3), .val (.int x4), .val (.int va), .val (.int vb), .val (.int vc), .val (.int (1 : Int32)), .val (.ref b34), .unset, .unset] [(.int z2), (.int (own_ind z1))])) ?_ ?_
      · intro z2 hz2
        show Go p e below s _ _ T (mkF m 114 #[.val (.int x1), .val (.int x2), .val (.int x3), .val (.int x4), .val (.int va), .val (.int vb), .val (.int vc), .val (.int (1 : Int32)), .val (.ref b34), .unset, .unset] [(.int z2), (.int (own_ind z1))])
        refine Go.static X hx hZ hown (hw _ (List.mem_of_getElem? (i := 78) rfl)) (hw _ (List.mem_of_getElem? (i := 79) rfl)) (hw _ (List.mem_of_getElem? (i := 80) rfl)) (hw _ (List.mem_of_getElem? (i := 81) rfl)) (by decide) (rmInd hw z2 _ n0) eT 1 (by decide) (by decide) (by decide) (by decide) (by rw [hml]; rfl) (argsL := [(.int z2)]) [(.int (own_ind z1))] (lenOf pd0 rfl) rfl rfl (Nat.le_of_eq rfl) (hb hby at_114) ?_
        intro v T L' X hQ
        obtain ⟨rfl, N', eT⟩ := hQ
        have N := Fr.app N N'
        show Go p e below s _ _ T (mkF m 117 #[.val (.int x1), .val (.int x2), .val (.int x3), .val (.int x4), .val (.int va), .val (.int vb), .val (.int vc), .val (.int (1 : Int32)), .val (.ref b34), .unset, .unset] [(.int (own_ind z2)), (.int (own_ind z1))])
        refine Go.of (fun _ kq => XS.iadd X.here hx rfl (hb hby at_117) rfl kq) ?_
        show Go p e below s _ _ T (mkF m 118 #[.val (.int x1), .val (.int x2), .val (.int x3), .val (.int x4), .val (.int va), .val (.int vb), .val (.int vc), .val (.int (1 : Int32)), .val (.ref b34), .unset, .unset] [(.int ((own_ind z1) + (own_ind z2)))])
        refine Go.of (fun _ kq => XS.iload X.here hx rfl (hb hby at_118) rfl kq) ?_
        show Go p e below s _ _ T (mkF m 120 #[.val (.int x1), .val (.int x2), .val (.int x3), .val (.int x4), .val (.int va), .val (.int vb), .val (.int vc), .val (.int (1 : Int32)), .val (.ref b34), .unset, .unset] [(.int (1 : Int32)), (.int ((own_ind z1) + (own_ind z2)))])
        refine Go.of (fun _ kq => XS.ifNo X.here hx rfl (hb hby at_120) rfl ((if0 _ _).trans (feq (by decide)).1) kq) ?_
        show Go p e below s _ _ T (mkF m 123 #[.val (.int x1), .val (.int x2), .val (.int x3), .val (.int x4), .val (.int va), .val (.int vb), .val (.int vc), .val (.int (1 : Int32)), .val (.ref b34), .unset, .unset] [(.int ((own_ind z1) + (own_ind z2)))])
        refine Go.join (fun z3 : Int32 => z3 = if vb < 64 then 1 else 0) (fun z3 => (mkF m 135 #[.val (.int x1), .val (.int x2), .val (.int x3), .val (.int x4), .val (.int va), .val (.int vb), .val (.int vc), .val (.int (1 : Int32)), .val (.ref b34), .unset, .unset] [(.int z3), (.int ((own_ind z1) + (own_ind z2)))])) ?_ ?_
        · intro z3 hz3
          show Go p e below s _ _ T (mkF m 135 #[.val (.int x1), .val (.int x2), .val (.int x3), .val (.int x4), .val (.int va), .val (.int vb), .val (.int vc), .val (.int (1 : Int32)), .val (.ref b34), .unset, .unset] [(.int z3), (.int ((own_ind z1) + (own_ind z2)))])
          refine Go.static X hx hZ hown (hw _ (List.mem_of_getElem? (i := 78) rfl)) (hw _ (List.mem_of_getElem? (i := 79) rfl)) (hw _ (List.mem_of_getElem? (i := 80) rfl)) (hw _ (List.mem_of_getElem? (i := 81) rfl)) (by decide) (rmInd hw z3 _ n0) eT 1 (by decide) (by decide) (by decide) (by decide) (by rw [hml]; rfl) (argsL := [(.int z3)]) [(.int ((own_ind z1) + (own_ind z2)))] (lenOf pd0 rfl) rfl rfl (Nat.le_of_eq rfl) (hb hby at_135) ?_
          intro v T L' X hQ
          obtain ⟨rfl, N', eT⟩ := hQ
          have N := Fr.app N N'
          show Go p e below s _ _ T (mkF m 138 #[.val (.int x1), .val (.int x2), .val (.int x3), .val (.int x4), .val (.int va), .val (.int vb), .val (.int vc), .val (.int (1 : Int32)), .val (.ref b34), .unset, .unset] [(.int (own_ind z3)), (.int ((own_ind z1) + (own_ind z2)))])
          refine Go.of (fun _ kq => XS.isub X.here hx rfl (hb hby at_138) rfl kq) ?_
          show Go p e below s _ _ T (mkF m 139 #[.val (.int x1), .val (.int x2), .val (.int x3), .val (.int x4), .val (.int va), .val (.int vb), .val (.int vc), .val (.int (1 : Int32)), .val (.ref b34), .unset, .unset] [(.int (((own_ind z1) + (own_ind z2)) - (own_ind z3)))])
          refine Go.of (fun _ kq => XS.istore X.here hx rfl (hb hby at_139) rfl (l' := #[.val (.int x1), .val (.int x2), .val (.int x3), .val (.int x4), .val (.int va), .val (.int vb), .val (.int vc), .val (.int (1 : Int32)), .val (.ref b34), .val (.int (((own_ind z1) + (own_ind z2)) - (own_ind z3))), .unset]) rfl kq) ?_
          show Go p e below s _ _ T (mkF m 141 #[.val (.int x1), .val (.int x2), .val (.int x3), .val (.int x4), .val (.int va), .val (.int vb), .val (.int vc), .val (.int (1 : Int32)), .val (.ref b34), .val (.int (((own_ind z1) + (own_ind z2)) - (own_ind z3))), .unset] [])
          refine Go.join (fun z4 : Int32 => z4 = if va < 64 then 0 else 1) (fun z4 => (mkF m 153 #[.val (.int x1), .val (.int x2), .val (.int x3), .val (.int x4), .val (.int va), .val (.int vb), .val (.int vc), .val (.int (1 : Int32)), .val (.ref b34), .val (.int (((own_ind z1) + (own_ind z2)) - (own_ind z3))), .unset] [(.int z4)])) ?_ ?_
          · intro z4 hz4
            show Go p e below s _ _ T (mkF m 153 #[.val (.int x1), .val (.int x2), .val (.int x3), .val (.int x4), .val (.int va), .val (.int vb), .val (.int vc), .val (.int (1 : Int32)), .val (.ref b34), .val (.int (((own_ind z1) + (own_ind z2)) - (own_ind z3))), .unset] [(.int z4)])
            refine Go.static X hx hZ hown (hw _ (List.mem_of_getElem? (i := 78) rfl)) (hw _ (List.mem_of_getElem? (i := 79) rfl)) (hw _ (List.mem_of_getElem? (i := 80) rfl)) (hw _ (List.mem_of_getElem? (i := 81) rfl)) (by decide) (rmInd hw z4 _ n0) eT 0 (by decide) (by decide) (by decide) (by decide) (by rw [hml]; rfl) (argsL := [(.int z4)]) [] (lenOf pd0 rfl) rfl rfl (Nat.le_of_eq rfl) (hb hby at_153) ?_
            intro v T L' X hQ
            obtain ⟨rfl, N', eT⟩ := hQ
            have N := Fr.app N N'
            show Go p e below s _ _ T (mkF m 156 #[.val (.int x1), .val (.int x2), .val (.int x3), .val (.int x4), .val (.int va), .val (.int vb), .val (.int vc), .val (.int (1 : Int32)), .val (.ref b34), .val (.int (((own_ind z1) + (own_ind z2)) - (own_ind z3))), .unset] [(.int (own_ind z4))])
            refine Go.join (fun z5 : Int32 => z5 = if vb < 64 then 0 else 1) (fun z5 => (mkF m 168 #[.val (.int x1), .val (.int x2), .val (.int x3), .val (.int x4), .val (.int va), .val (.int vb), .val (.int vc), .val (.int (1 : Int32)), .val (.ref b34), .val (.int (((own_ind z1) + (own_ind z2)) - (own_ind z3))), .unset] [(.int z5), (.int (own_ind z4))])) ?_ ?_
            · intro z5 hz5
              show Go p e below s _ _ T (mkF m 168 #[.val (.int x1), .val (.int x2), .val (.int x3), .val (.int x4), .val (.int va), .val (.int vb), .val (.int vc), .val (.int (1 : Int32)), .val (.ref b34), .val (.int (((own_ind z1) + (own_ind z2)) - (own_ind z3))), .unset] [(.int z5), (.int (own_ind z4))])
              refine Go.static X hx hZ hown (hw _ (List.mem_of_getElem? (i := 78) rfl)) (hw _ (List.mem_of_getElem? (i := 79) rfl)) (hw _ (List.mem_of_getElem? (i := 80) rfl)) (hw _ (List.mem_of_getElem? (i := 81) rfl)) (by decide) (rmInd hw z5 _ n0) eT 1 (by decide) (by decide) (by decide) (by decide) (by rw [hml]; rfl) (argsL := [(.int z5)]) [(.int (own_ind z4))] (lenOf pd0 rfl) rfl rfl (Nat.le_of_eq rfl) (hb hby at_168) ?_
              intro v T L' X hQ
              obtain ⟨rfl, N', eT⟩ := hQ
              have N := Fr.app N N'
              show Go p e below s _ _ T (mkF m 171 #[.val (.int x1), .val (.int x2), .val (.int x3), .val (.int x4), .val (.int va), .val (.int vb), .val (.int vc), .val (.int (1 : Int32)), .val (.ref b34), .val (.int (((own_ind z1) + (own_ind z2)) - (own_ind z3))), .unset] [(.int (own_ind z5)), (.int (own_ind z4))])
              refine Go.of (fun _ kq => XS.iadd X.here hx rfl (hb hby at_171) rfl kq) ?_
              show Go p e below s _ _ T (mkF m 172 #[.val (.int x1), .val (.int x2), .val (.int x3), .val (.int x4), .val (.int va), .val (.int vb), .val (.int vc), .val (.int (1 : Int32)), .val (.ref b34), .val (.int (((own_ind z1) + (own_ind z2)) - (own_ind z3))), .unset] [(.int ((own_ind z4) + (own_ind z5)))])
              refine Go.of (fun _ kq => XS.iload X.here hx rfl (hb hby at_172) rfl kq) ?_
              show Go p e below s _ _ T (mkF m 174 #[.val (.int x1), .val (.int x2), .val (.int x3), .val (.int x4), .val (.int va), .val (.int vb), .val (.int vc), .val (.int (1 : Int32)), .val (.ref b34), .val (.int (((own_ind z1) + (own_ind z2)) - (own_ind z3))), .unset] [(.int (1 : Int32)), (.int ((own_ind z4) + (own_ind z5)))])
              refine Go.of (fun _ kq => XS.ifNo X.here hx rfl (hb hby at_174) rfl ((if0 _ _).trans (feq (by decide)).1) kq) ?_
              show Go p e below s _ _ T (mkF m 177 #[.val (.int x1), .val (.int x2), .val (.int x3), .val (.int x4), .val (.int va), .val (.int vb), .val (.int vc), .val (.int (1 : Int32)), .val (.ref b34), .val (.int (((own_ind z1) + (own_ind z2)) - (own_ind z3))), .unset] [(.int ((own_ind z4) + (own_ind z5)))])
              refine Go.join (fun z6 : Int32 => z6 = if vb < 64 then 0 else 1) (fun z6 => (mkF m 189 #[.val (.int x1), .val (.int x2), .val (.int x3), .val (.int x4), .val (.int va), .val (.int vb), .val (.int vc), .val (.int (1 : Int32)), .val (.ref b34), .val (.int (((own_ind z1) + (own_ind z2)) - (own_ind z3))), .unset] [(.int z6), (.int ((own_ind z4) + (own_ind z5)))])) ?_ ?_
              · intro z6 hz6
                show Go p e below s _ _ T (mkF m 189 #[.val (.int x1), .val (.int x2), .val (.int x3), .val (.int x4), .val (.int va), .val (.int vb), .val (.int vc), .val (.int (1 : Int32)), .val (.ref b34), .val (.int (((own_ind z1) + (own_ind z2)) - (own_ind z3))), .unset] [(.int z6), (.int ((own_ind z4) + (own_ind z5)))])
                refine Go.static X hx hZ hown (hw _ (List.mem_of_getElem? (i := 78) rfl)) (hw _ (List.mem_of_getElem? (i := 79) rfl)) (hw _ (List.mem_of_getElem? (i := 80) rfl)) (hw _ (List.mem_of_getElem? (i := 81) rfl)) (by decide) (rmInd hw z6 _ n0) eT 1 (by decide) (by decide) (by decide) (by decide) (by rw [hml]; rfl) (argsL := [(.int z6)]) [(.int ((own_ind z4) + (own_ind z5)))] (lenOf pd0 rfl) rfl rfl (Nat.le_of_eq rfl) (hb hby at_189) ?_
                intro v T L' X hQ
                obtain ⟨rfl, N', eT⟩ := hQ
                have N := Fr.app N N'
                show Go p e below s _ _ T (mkF m 192 #[.val (.int x1), .val (.int x2), .val (.int x3), .val (.int x4), .val (.int va), .val (.int vb), .val (.int vc), .val (.int (1 : Int32)), .val (.ref b34), .val (.int (((own_ind z1) + (own_ind z2)) - (own_ind z3))), .unset] [(.int (own_ind z6)), (.int ((own_ind z4) + (own_ind z5)))])
                refine Go.of (fun _ kq => XS.isub X.here hx rfl (hb hby at_192) rfl kq) ?_
                show Go p e below s _ _ T (mkF m 193 #[.val (.int x1), .val (.int x2), .val (.int x3), .val (.int x4), .val (.int va), .val (.int vb), .val (.int vc), .val (.int (1 : Int32)), .val (.ref b34), .val (.int (((own_ind z1) + (own_ind z2)) - (own_ind z3))), .unset] [(.int (((own_ind z4) + (own_ind z5)) - (own_ind z6)))])
                refine Go.of (fun _ kq => XS.istore X.here hx rfl (hb hby at_193) rfl (l' := #[.val (.int x1), .val (.int x2), .val (.int x3), .val (.int x4), .val (.int va), .val (.int vb), .val (.int vc), .val (.int (1 : Int32)), .val (.ref b34), .val (.int (((own_ind z1) + (own_ind z2)) - (own_ind z3))), .val (.int (((own_ind z4) + (own_ind z5)) - (own_ind z6)))]) rfl kq) ?_
                show Go p e below s _ _ T (mkF m 195 #[.val (.int x1), .val (.int x2), .val (.int x3), .val (.int x4), .val (.int va), .val (.int vb), .val (.int vc), .val (.int (1 : Int32)), .val (.ref b34), .val (.int (((own_ind z1) + (own_ind z2)) - (own_ind z3))), .val (.int (((own_ind z4) + (own_ind z5)) - (own_ind z6)))] [])
                refine Go.of (fun _ kq => XS.aload X.here hx rfl (hb hby at_195) rfl rfl kq) ?_
                show Go p e below s _ _ T (mkF m 197 #[.val (.int x1), .val (.int x2), .val (.int x3), .val (.int x4), .val (.int va), .val (.int vb), .val (.int vc), .val (.int (1 : Int32)), .val (.ref b34), .val (.int (((own_ind z1) + (own_ind z2)) - (own_ind z3))), .val (.int (((own_ind z4) + (own_ind z5)) - (own_ind z6)))] [(.ref b34)])
                refine Go.of (fun _ kq => XS.iload X.here hx rfl (hb hby at_197) rfl kq) ?_
                show Go p e below s _ _ T (mkF m 199 #[.val (.int x1), .val (.int x2), .val (.int x3), .val (.int x4), .val (.int va), .val (.int vb), .val (.int vc), .val (.int (1 : Int32)), .val (.ref b34), .val (.int (((own_ind z1) + (own_ind z2)) - (own_ind z3))), .val (.int (((own_ind z4) + (own_ind z5)) - (own_ind z6)))] [(.int va), (.ref b34)])
                refine Go.virtual (a := b34) X hx hZ hown (hw _ (List.mem_of_getElem? (i := 82) rfl)) (hw _ (List.mem_of_getElem? (i := 83) rfl)) (notFace_of_selects (args := #[]) (mvT hZ (hw _ (List.mem_of_getElem? (i := 85) rfl)))) (hw _ (List.mem_of_getElem? (i := 85) rfl)) (hw _ (List.mem_of_getElem? (i := 84) rfl)) (hw _ (List.mem_of_getElem? (i := 2) rfl)) (hw _ (List.mem_of_getElem? (i := 86) rfl)) (by decide) (rmHeld hw b34 va d (own_H (own_H (own_H (own_H (own_H own_H0 va 1) va 1) vb 1) va (-1)) vb (-1)) _ n0 i_va F_held_b34 V_d) eT E_b34 0 (by decide) (by decide) (by decide) (by decide) (by rw [hml]; rfl) (argsL := [(.int va)]) [] (lenOf pd6 rfl) rfl rfl (Nat.le_of_eq rfl) (hb hby at_199) ?_
                intro v T L' X hQ
                obtain ⟨rfl, N', eT⟩ := hQ
                have N := Fr.app N N'
                show Go p e below s _ _ T (mkF m 202 #[.val (.int x1), .val (.int x2), .val (.int x3), .val (.int x4), .val (.int va), .val (.int vb), .val (.int vc), .val (.int (1 : Int32)), .val (.ref b34), .val (.int (((own_ind z1) + (own_ind z2)) - (own_ind z3))), .val (.int (((own_ind z4) + (own_ind z5)) - (own_ind z6)))] [(.int ((own_H (own_H (own_H (own_H (own_H own_H0 va 1) va 1) vb 1) va (-1)) vb (-1)) va.toNatClampNeg))])
                refine Go.of (fun _ kq => XS.iload X.here hx rfl (hb hby at_202) rfl kq) ?_
                show Go p e below s _ _ T (mkF m 204 #[.val (.int x1), .val (.int x2), .val (.int x3), .val (.int x4), .val (.int va), .val (.int vb), .val (.int vc), .val (.int (1 : Int32)), .val (.ref b34), .val (.int (((own_ind z1) + (own_ind z2)) - (own_ind z3))), .val (.int (((own_ind z4) + (own_ind z5)) - (own_ind z6)))] [(.int va), (.int ((own_H (own_H (own_H (own_H (own_H own_H0 va 1) va 1) vb 1) va (-1)) vb (-1)) va.toNatClampNeg))])
                refine Go.of (fun _ kq => XS.iload X.here hx rfl (hb hby at_204) rfl kq) ?_
                show Go p e below s _ _ T (mkF m 206 #[.val (.int x1), .val (.int x2), .val (.int x3), .val (.int x4), .val (.int va), .val (.int vb), .val (.int vc), .val (.int (1 : Int32)), .val (.ref b34), .val (.int (((own_ind z1) + (own_ind z2)) - (own_ind z3))), .val (.int (((own_ind z4) + (own_ind z5)) - (own_ind z6)))] [(.int va), (.int va), (.int ((own_H (own_H (own_H (own_H (own_H own_H0 va 1) va 1) vb 1) va (-1)) vb (-1)) va.toNatClampNeg))])
                refine Go.of (fun _ kq => XS.iload X.here hx rfl (hb hby at_206) rfl kq) ?_
                show Go p e below s _ _ T (mkF m 208 #[.val (.int x1), .val (.int x2), .val (.int x3), .val (.int x4), .val (.int va), .val (.int vb), .val (.int vc), .val (.int (1 : Int32)), .val (.ref b34), .val (.int (((own_ind z1) + (own_ind z2)) - (own_ind z3))), .val (.int (((own_ind z4) + (own_ind z5)) - (own_ind z6)))] [(.int vb), (.int va), (.int va), (.int ((own_H (own_H (own_H (own_H (own_H own_H0 va 1) va 1) vb 1) va (-1)) vb (-1)) va.toNatClampNeg))])
                refine Go.of (fun _ kq => XS.iload X.here hx rfl (hb hby at_208) rfl kq) ?_
                show Go p e below s _ _ T (mkF m 210 #[.val (.int x1), .val (.int x2), .val (.int x3), .val (.int x4), .val (.int va), .val (.int vb), .val (.int vc), .val (.int (1 : Int32)), .val (.ref b34), .val (.int (((own_ind z1) + (own_ind z2)) - (own_ind z3))), .val (.int (((own_ind z4) + (own_ind z5)) - (own_ind z6)))] [(.int (1 : Int32)), (.int vb), (.int va), (.int va), (.int ((own_H (own_H (own_H (own_H (own_H own_H0 va 1) va 1) vb 1) va (-1)) vb (-1)) va.toNatClampNeg))])
                refine Go.static X hx hZ hown (hw _ (List.mem_of_getElem? (i := 87) rfl)) (hw _ (List.mem_of_getElem? (i := 88) rfl)) (hw _ (List.mem_of_getElem? (i := 80) rfl)) (hw _ (List.mem_of_getElem? (i := 89) rfl)) (by decide) (rmExp hw va va vb (1 : Int32) _ n0) eT 1 (by decide) (by decide) (by decide) (by decide) (by rw [hml]; rfl) (argsL := [(.int va), (.int va), (.int vb), (.int (1 : Int32))]) [(.int ((own_H (own_H (own_H (own_H (own_H own_H0 va 1) va 1) vb 1) va (-1)) vb (-1)) va.toNatClampNeg))] (lenOf pd7 rfl) rfl rfl (Nat.le_of_eq rfl) (hb hby at_210) ?_
                intro v T L' X hQ
                obtain ⟨rfl, N', eT⟩ := hQ
                have N := Fr.app N N'
                show Go p e below s _ _ T (mkF m 213 #[.val (.int x1), .val (.int x2), .val (.int x3), .val (.int x4), .val (.int va), .val (.int vb), .val (.int vc), .val (.int (1 : Int32)), .val (.ref b34), .val (.int (((own_ind z1) + (own_ind z2)) - (own_ind z3))), .val (.int (((own_ind z4) + (own_ind z5)) - (own_ind z6)))] [(.int (own_exp va va vb (1 : Int32))), (.int ((own_H (own_H (own_H (own_H (own_H own_H0 va 1) va 1) vb 1) va (-1)) vb (-1)) va.toNatClampNeg))])
                refine Go.of (fun _ kq => XS.icmpNo X.here hx rfl (hb hby at_213) rfl (teq (own_h5 i_va i_vb i_va)).2 kq) ?_
                show Go p e below s _ _ T (mkF m 216 #[.val (.int x1), .val (.int x2), .val (.int x3), .val (.int x4), .val (.int va), .val (.int vb), .val (.int vc), .val (.int (1 : Int32)), .val (.ref b34), .val (.int (((own_ind z1) + (own_ind z2)) - (own_ind z3))), .val (.int (((own_ind z4) + (own_ind z5)) - (own_ind z6)))] [])
                refine Go.of (fun _ kq => XS.aload X.here hx rfl (hb hby at_216) rfl rfl kq) ?_
                show Go p e below s _ _ T (mkF m 218 #[.val (.int x1), .val (.int x2), .val (.int x3), .val (.int x4), .val (.int va), .val (.int vb), .val (.int vc), .val (.int (1 : Int32)), .val (.ref b34), .val (.int (((own_ind z1) + (own_ind z2)) - (own_ind z3))), .val (.int (((own_ind z4) + (own_ind z5)) - (own_ind z6)))] [(.ref b34)])
                refine Go.of (fun _ kq => XS.iload X.here hx rfl (hb hby at_218) rfl kq) ?_
                show Go p e below s _ _ T (mkF m 220 #[.val (.int x1), .val (.int x2), .val (.int x3), .val (.int x4), .val (.int va), .val (.int vb), .val (.int vc), .val (.int (1 : Int32)), .val (.ref b34), .val (.int (((own_ind z1) + (own_ind z2)) - (own_ind z3))), .val (.int (((own_ind z4) + (own_ind z5)) - (own_ind z6)))] [(.int vb), (.ref b34)])
                refine Go.virtual (a := b34) X hx hZ hown (hw _ (List.mem_of_getElem? (i := 82) rfl)) (hw _ (List.mem_of_getElem? (i := 83) rfl)) (notFace_of_selects (args := #[]) (mvT hZ (hw _ (List.mem_of_getElem? (i := 85) rfl)))) (hw _ (List.mem_of_getElem? (i := 85) rfl)) (hw _ (List.mem_of_getElem? (i := 84) rfl)) (hw _ (List.mem_of_getElem? (i := 2) rfl)) (hw _ (List.mem_of_getElem? (i := 86) rfl)) (by decide) (rmHeld hw b34 vb d (own_H (own_H (own_H (own_H (own_H own_H0 va 1) va 1) vb 1) va (-1)) vb (-1)) _ n0 i_vb F_held_b34 V_d) eT E_b34 0 (by decide) (by decide) (by decide) (by decide) (by rw [hml]; rfl) (argsL := [(.int vb)]) [] (lenOf pd6 rfl) rfl rfl (Nat.le_of_eq rfl) (hb hby at_220) ?_
                intro v T L' X hQ
                obtain ⟨rfl, N', eT⟩ := hQ
                have N := Fr.app N N'
                show Go p e below s _ _ T (mkF m 223 #[.val (.int x1), .val (.int x2), .val (.int x3), .val (.int x4), .val (.int va), .val (.int vb), .val (.int vc), .val (.int (1 : Int32)), .val (.ref b34), .val (.int (((own_ind z1) + (own_ind z2)) - (own_ind z3))), .val (.int (((own_ind z4) + (own_ind z5)) - (own_ind z6)))] [(.int ((own_H (own_H (own_H (own_H (own_H own_H0 va 1) va 1) vb 1) va (-1)) vb (-1)) vb.toNatClampNeg))])
                refine Go.of (fun _ kq => XS.iload X.here hx rfl (hb hby at_223) rfl kq) ?_
                show Go p e below s _ _ T (mkF m 225 #[.val (.int x1), .val (.int x2), .val (.int x3), .val (.int x4), .val (.int va), .val (.int vb), .val (.int vc), .val (.int (1 : Int32)), .val (.ref b34), .val (.int (((own_ind z1) + (own_ind z2)) - (own_ind z3))), .val (.int (((own_ind z4) + (own_ind z5)) - (own_ind z6)))] [(.int vb), (.int ((own_H (own_H (own_H (own_H (own_H own_H0 va 1) va 1) vb 1) va (-1)) vb (-1)) vb.toNatClampNeg))])
                refine Go.of (fun _ kq => XS.iload X.here hx rfl (hb hby at_225) rfl kq) ?_
                show Go p e below s _ _ T (mkF m 227 #[.val (.int x1), .val (.int x2), .val (.int x3), .val (.int x4), .val (.int va), .val (.int vb), .val (.int vc), .val (.int (1 : Int32)), .val (.ref b34), .val (.int (((own_ind z1) + (own_ind z2)) - (own_ind z3))), .val (.int (((own_ind z4) + (own_ind z5)) - (own_ind z6)))] [(.int va), (.int vb), (.int ((own_H (own_H (own_H (own_H (own_H own_H0 va 1) va 1) vb 1) va (-1)) vb (-1)) vb.toNatClampNeg))])
                refine Go.of (fun _ kq => XS.iload X.here hx rfl (hb hby at_227) rfl kq) ?_
                show Go p e below s _ _ T (mkF m 229 #[.val (.int x1), .val (.int x2), .val (.int x3), .val (.int x4), .val (.int va), .val (.int vb), .val (.int vc), .val (.int (1 : Int32)), .val (.ref b34), .val (.int (((own_ind z1) + (own_ind z2)) - (own_ind z3))), .val (.int (((own_ind z4) + (own_ind z5)) - (own_ind z6)))] [(.int vb), (.int va), (.int vb), (.int ((own_H (own_H (own_H (own_H (own_H own_H0 va 1) va 1) vb 1) va (-1)) vb (-1)) vb.toNatClampNeg))])
                refine Go.of (fun _ kq => XS.iload X.here hx rfl (hb hby at_229) rfl kq) ?_
                show Go p e below s _ _ T (mkF m 231 #[.val (.int x1), .val (.int x2), .val (.int x3), .val (.int x4), .val (.int va), .val (.int vb), .val (.int vc), .val (.int (1 : Int32)), .val (.ref b34), .val (.int (((own_ind z1) + (own_ind z2)) - (own_ind z3))), .val (.int (((own_ind z4) + (own_ind z5)) - (own_ind z6)))] [(.int (1 : Int32)), (.int vb), (.int va), (.int vb), (.int ((own_H (own_H (own_H (own_H (own_H own_H0 va 1) va 1) vb 1) va (-1)) vb (-1)) vb.toNatClampNeg))])
                refine Go.static X hx hZ hown (hw _ (List.mem_of_getElem? (i := 87) rfl)) (hw _ (List.mem_of_getElem? (i := 88) rfl)) (hw _ (List.mem_of_getElem? (i := 80) rfl)) (hw _ (List.mem_of_getElem? (i := 89) rfl)) (by decide) (rmExp hw vb va vb (1 : Int32) _ n0) eT 1 (by decide) (by decide) (by decide) (by decide) (by rw [hml]; rfl) (argsL := [(.int vb), (.int va), (.int vb), (.int (1 : Int32))]) [(.int ((own_H (own_H (own_H (own_H (own_H own_H0 va 1) va 1) vb 1) va (-1)) vb (-1)) vb.toNatClampNeg))] (lenOf pd7 rfl) rfl rfl (Nat.le_of_eq rfl) (hb hby at_231) ?_
                intro v T L' X hQ
                obtain ⟨rfl, N', eT⟩ := hQ
                have N := Fr.app N N'
                show Go p e below s _ _ T (mkF m 234 #[.val (.int x1), .val (.int x2), .val (.int x3), .val (.int x4), .val (.int va), .val (.int vb), .val (.int vc), .val (.int (1 : Int32)), .val (.ref b34), .val (.int (((own_ind z1) + (own_ind z2)) - (own_ind z3))), .val (.int (((own_ind z4) + (own_ind z5)) - (own_ind z6)))] [(.int (own_exp vb va vb (1 : Int32))), (.int ((own_H (own_H (own_H (own_H (own_H own_H0 va 1) va 1) vb 1) va (-1)) vb (-1)) vb.toNatClampNeg))])
                refine Go.of (fun _ kq => XS.icmpNo X.here hx rfl (hb hby at_234) rfl (teq (own_h5 i_va i_vb i_vb)).2 kq) ?_
                show Go p e below s _ _ T (mkF m 237 #[.val (.int x1), .val (.int x2), .val (.int x3), .val (.int x4), .val (.int va), .val (.int vb), .val (.int vc), .val (.int (1 : Int32)), .val (.ref b34), .val (.int (((own_ind z1) + (own_ind z2)) - (own_ind z3))), .val (.int (((own_ind z4) + (own_ind z5)) - (own_ind z6)))] [])
                refine Go.of (fun _ kq => XS.aload X.here hx rfl (hb hby at_237) rfl rfl kq) ?_
                show Go p e below s _ _ T (mkF m 239 #[.val (.int x1), .val (.int x2), .val (.int x3), .val (.int x4), .val (.int va), .val (.int vb), .val (.int vc), .val (.int (1 : Int32)), .val (.ref b34), .val (.int (((own_ind z1) + (own_ind z2)) - (own_ind z3))), .val (.int (((own_ind z4) + (own_ind z5)) - (own_ind z6)))] [(.ref b34)])
                refine Go.of (fun _ kq => XS.iload X.here hx rfl (hb hby at_239) rfl kq) ?_
                show Go p e below s _ _ T (mkF m 241 #[.val (.int x1), .val (.int x2), .val (.int x3), .val (.int x4), .val (.int va), .val (.int vb), .val (.int vc), .val (.int (1 : Int32)), .val (.ref b34), .val (.int (((own_ind z1) + (own_ind z2)) - (own_ind z3))), .val (.int (((own_ind z4) + (own_ind z5)) - (own_ind z6)))] [(.int vc), (.ref b34)])
                refine Go.virtual (a := b34) X hx hZ hown (hw _ (List.mem_of_getElem? (i := 82) rfl)) (hw _ (List.mem_of_getElem? (i := 83) rfl)) (notFace_of_selects (args := #[]) (mvT hZ (hw _ (List.mem_of_getElem? (i := 85) rfl)))) (hw _ (List.mem_of_getElem? (i := 85) rfl)) (hw _ (List.mem_of_getElem? (i := 84) rfl)) (hw _ (List.mem_of_getElem? (i := 2) rfl)) (hw _ (List.mem_of_getElem? (i := 86) rfl)) (by decide) (rmHeld hw b34 vc d (own_H (own_H (own_H (own_H (own_H own_H0 va 1) va 1) vb 1) va (-1)) vb (-1)) _ n0 i_vc F_held_b34 V_d) eT E_b34 0 (by decide) (by decide) (by decide) (by decide) (by rw [hml]; rfl) (argsL := [(.int vc)]) [] (lenOf pd6 rfl) rfl rfl (Nat.le_of_eq rfl) (hb hby at_241) ?_
                intro v T L' X hQ
                obtain ⟨rfl, N', eT⟩ := hQ
                have N := Fr.app N N'
                show Go p e below s _ _ T (mkF m 244 #[.val (.int x1), .val (.int x2), .val (.int x3), .val (.int x4), .val (.int va), .val (.int vb), .val (.int vc), .val (.int (1 : Int32)), .val (.ref b34), .val (.int (((own_ind z1) + (own_ind z2)) - (own_ind z3))), .val (.int (((own_ind z4) + (own_ind z5)) - (own_ind z6)))] [(.int ((own_H (own_H (own_H (own_H (own_H own_H0 va 1) va 1) vb 1) va (-1)) vb (-1)) vc.toNatClampNeg))])
                refine Go.of (fun _ kq => XS.iload X.here hx rfl (hb hby at_244) rfl kq) ?_
                show Go p e below s _ _ T (mkF m 246 #[.val (.int x1), .val (.int x2), .val (.int x3), .val (.int x4), .val (.int va), .val (.int vb), .val (.int vc), .val (.int (1 : Int32)), .val (.ref b34), .val (.int (((own_ind z1) + (own_ind z2)) - (own_ind z3))), .val (.int (((own_ind z4) + (own_ind z5)) - (own_ind z6)))] [(.int vc), (.int ((own_H (own_H (own_H (own_H (own_H own_H0 va 1) va 1) vb 1) va (-1)) vb (-1)) vc.toNatClampNeg))])
                refine Go.of (fun _ kq => XS.iload X.here hx rfl (hb hby at_246) rfl kq) ?_
                show Go p e below s _ _ T (mkF m 248 #[.val (.int x1), .val (.int x2), .val (.int x3), .val (.int x4), .val (.int va), .val (.int vb), .val (.int vc), .val (.int (1 : Int32)), .val (.ref b34), .val (.int (((own_ind z1) + (own_ind z2)) - (own_ind z3))), .val (.int (((own_ind z4) + (own_ind z5)) - (own_ind z6)))] [(.int va), (.int vc), (.int ((own_H (own_H (own_H (own_H (own_H own_H0 va 1) va 1) vb 1) va (-1)) vb (-1)) vc.toNatClampNeg))])
                refine Go.of (fun _ kq => XS.iload X.here hx rfl (hb hby at_248) rfl kq) ?_
                show Go p e below s _ _ T (mkF m 250 #[.val (.int x1), .val (.int x2), .val (.int x3), .val (.int x4), .val (.int va), .val (.int vb), .val (.int vc), .val (.int (1 : Int32)), .val (.ref b34), .val (.int (((own_ind z1) + (own_ind z2)) - (own_ind z3))), .val (.int (((own_ind z4) + (own_ind z5)) - (own_ind z6)))] [(.int vb), (.int va), (.int vc), (.int ((own_H (own_H (own_H (own_H (own_H own_H0 va 1) va 1) vb 1) va (-1)) vb (-1)) vc.toNatClampNeg))])
                refine Go.of (fun _ kq => XS.iload X.here hx rfl (hb hby at_250) rfl kq) ?_
                show Go p e below s _ _ T (mkF m 252 #[.val (.int x1), .val (.int x2), .val (.int x3), .val (.int x4), .val (.int va), .val (.int vb), .val (.int vc), .val (.int (1 : Int32)), .val (.ref b34), .val (.int (((own_ind z1) + (own_ind z2)) - (own_ind z3))), .val (.int (((own_ind z4) + (own_ind z5)) - (own_ind z6)))] [(.int (1 : Int32)), (.int vb), (.int va), (.int vc), (.int ((own_H (own_H (own_H (own_H (own_H own_H0 va 1) va 1) vb 1) va (-1)) vb (-1)) vc.toNatClampNeg))])
                refine Go.static X hx hZ hown (hw _ (List.mem_of_getElem? (i := 87) rfl)) (hw _ (List.mem_of_getElem? (i := 88) rfl)) (hw _ (List.mem_of_getElem? (i := 80) rfl)) (hw _ (List.mem_of_getElem? (i := 89) rfl)) (by decide) (rmExp hw vc va vb (1 : Int32) _ n0) eT 1 (by decide) (by decide) (by decide) (by decide) (by rw [hml]; rfl) (argsL := [(.int vc), (.int va), (.int vb), (.int (1 : Int32))]) [(.int ((own_H (own_H (own_H (own_H (own_H own_H0 va 1) va 1) vb 1) va (-1)) vb (-1)) vc.toNatClampNeg))] (lenOf pd7 rfl) rfl rfl (Nat.le_of_eq rfl) (hb hby at_252) ?_
                intro v T L' X hQ
                obtain ⟨rfl, N', eT⟩ := hQ
                have N := Fr.app N N'
                show Go p e below s _ _ T (mkF m 255 #[.val (.int x1), .val (.int x2), .val (.int x3), .val (.int x4), .val (.int va), .val (.int vb), .val (.int vc), .val (.int (1 : Int32)), .val (.ref b34), .val (.int (((own_ind z1) + (own_ind z2)) - (own_ind z3))), .val (.int (((own_ind z4) + (own_ind z5)) - (own_ind z6)))] [(.int (own_exp vc va vb (1 : Int32))), (.int ((own_H (own_H (own_H (own_H (own_H own_H0 va 1) va 1) vb 1) va (-1)) vb (-1)) vc.toNatClampNeg))])
                refine Go.of (fun _ kq => XS.icmpNo X.here hx rfl (hb hby at_255) rfl (teq (own_h5 i_va i_vb i_vc)).2 kq) ?_
                show Go p e below s _ _ T (mkF m 258 #[.val (.int x1), .val (.int x2), .val (.int x3), .val (.int x4), .val (.int va), .val (.int vb), .val (.int vc), .val (.int (1 : Int32)), .val (.ref b34), .val (.int (((own_ind z1) + (own_ind z2)) - (own_ind z3))), .val (.int (((own_ind z4) + (own_ind z5)) - (own_ind z6)))] [])
                refine Go.of (fun _ kq => XS.aload X.here hx rfl (hb hby at_258) rfl rfl kq) ?_
                show Go p e below s _ _ T (mkF m 260 #[.val (.int x1), .val (.int x2), .val (.int x3), .val (.int x4), .val (.int va), .val (.int vb), .val (.int vc), .val (.int (1 : Int32)), .val (.ref b34), .val (.int (((own_ind z1) + (own_ind z2)) - (own_ind z3))), .val (.int (((own_ind z4) + (own_ind z5)) - (own_ind z6)))] [(.ref b34)])
                refine Go.virtual (a := b34) X hx hZ hown (hw _ (List.mem_of_getElem? (i := 90) rfl)) (hw _ (List.mem_of_getElem? (i := 91) rfl)) (notFace_of_selects (args := #[]) (mvT hZ (hw _ (List.mem_of_getElem? (i := 93) rfl)))) (hw _ (List.mem_of_getElem? (i := 93) rfl)) (hw _ (List.mem_of_getElem? (i := 92) rfl)) (hw _ (List.mem_of_getElem? (i := 2) rfl)) (hw _ (List.mem_of_getElem? (i := 94) rfl)) (by decide) (rmHC hw b34 _ _ n0 F_heldByClients_b34) eT E_b34 0 (by decide) (by decide) (by decide) (by decide) (by rw [hml]; rfl) (argsL := []) [] (lenOf pd8 rfl) rfl rfl (Nat.le_of_eq rfl) (hb hby at_260) ?_
                intro v T L' X hQ
                obtain ⟨rfl, N', eT⟩ := hQ
                have N := Fr.app N N'
                show Go p e below s _ _ T (mkF m 263 #[.val (.int x1), .val (.int x2), .val (.int x3), .val (.int x4), .val (.int va), .val (.int vb), .val (.int vc), .val (.int (1 : Int32)), .val (.ref b34), .val (.int (((own_ind z1) + (own_ind z2)) - (own_ind z3))), .val (.int (((own_ind z4) + (own_ind z5)) - (own_ind z6)))] [(.int (own_kc (own_kc (own_kc (own_kc (own_kc (0 : Int32) va 1) va 1) vb 1) va (-1)) vb (-1)))])
                refine Go.of (fun _ kq => XS.iload X.here hx rfl (hb hby at_263) rfl kq) ?_
                show Go p e below s _ _ T (mkF m 265 #[.val (.int x1), .val (.int x2), .val (.int x3), .val (.int x4), .val (.int va), .val (.int vb), .val (.int vc), .val (.int (1 : Int32)), .val (.ref b34), .val (.int (((own_ind z1) + (own_ind z2)) - (own_ind z3))), .val (.int (((own_ind z4) + (own_ind z5)) - (own_ind z6)))] [(.int (((own_ind z1) + (own_ind z2)) - (own_ind z3))), (.int (own_kc (own_kc (own_kc (own_kc (own_kc (0 : Int32) va 1) va 1) vb 1) va (-1)) vb (-1)))])
                refine Go.of (fun _ kq => XS.icmpNo X.here hx rfl (hb hby at_265) rfl (teq (by rw [hz1, hz2, hz3]; exact own_c5 va vb)).2 kq) ?_
                show Go p e below s _ _ T (mkF m 268 #[.val (.int x1), .val (.int x2), .val (.int x3), .val (.int x4), .val (.int va), .val (.int vb), .val (.int vc), .val (.int (1 : Int32)), .val (.ref b34), .val (.int (((own_ind z1) + (own_ind z2)) - (own_ind z3))), .val (.int (((own_ind z4) + (own_ind z5)) - (own_ind z6)))] [])
                refine Go.of (fun _ kq => XS.aload X.here hx rfl (hb hby at_268) rfl rfl kq) ?_
                show Go p e below s _ _ T (mkF m 270 #[.val (.int x1), .val (.int x2), .val (.int x3), .val (.int x4), .val (.int va), .val (.int vb), .val (.int vc), .val (.int (1 : Int32)), .val (.ref b34), .val (.int (((own_ind z1) + (own_ind z2)) - (own_ind z3))), .val (.int (((own_ind z4) + (own_ind z5)) - (own_ind z6)))] [(.ref b34)])
                refine Go.virtual (a := b34) X hx hZ hown (hw _ (List.mem_of_getElem? (i := 95) rfl)) (hw _ (List.mem_of_getElem? (i := 96) rfl)) (notFace_of_selects (args := #[]) (mvT hZ (hw _ (List.mem_of_getElem? (i := 98) rfl)))) (hw _ (List.mem_of_getElem? (i := 98) rfl)) (hw _ (List.mem_of_getElem? (i := 97) rfl)) (hw _ (List.mem_of_getElem? (i := 2) rfl)) (hw _ (List.mem_of_getElem? (i := 99) rfl)) (by decide) (rmHG hw b34 _ _ n0 F_heldByGroups_b34) eT E_b34 0 (by decide) (by decide) (by decide) (by decide) (by rw [hml]; rfl) (argsL := []) [] (lenOf pd8 rfl) rfl rfl (Nat.le_of_eq rfl) (hb hby at_270) ?_
                intro v T L' X hQ
                obtain ⟨rfl, N', eT⟩ := hQ
                have N := Fr.app N N'
                show Go p e below s _ _ T (mkF m 273 #[.val (.int x1), .val (.int x2), .val (.int x3), .val (.int x4), .val (.int va), .val (.int vb), .val (.int vc), .val (.int (1 : Int32)), .val (.ref b34), .val (.int (((own_ind z1) + (own_ind z2)) - (own_ind z3))), .val (.int (((own_ind z4) + (own_ind z5)) - (own_ind z6)))] [(.int (own_kg (own_kg (own_kg (own_kg (own_kg (0 : Int32) va 1) va 1) vb 1) va (-1)) vb (-1)))])
                refine Go.of (fun _ kq => XS.iload X.here hx rfl (hb hby at_273) rfl kq) ?_
                show Go p e below s _ _ T (mkF m 275 #[.val (.int x1), .val (.int x2), .val (.int x3), .val (.int x4), .val (.int va), .val (.int vb), .val (.int vc), .val (.int (1 : Int32)), .val (.ref b34), .val (.int (((own_ind z1) + (own_ind z2)) - (own_ind z3))), .val (.int (((own_ind z4) + (own_ind z5)) - (own_ind z6)))] [(.int (((own_ind z4) + (own_ind z5)) - (own_ind z6))), (.int (own_kg (own_kg (own_kg (own_kg (own_kg (0 : Int32) va 1) va 1) vb 1) va (-1)) vb (-1)))])
                refine Go.of (fun _ kq => XS.icmpNo X.here hx rfl (hb hby at_275) rfl (teq (by rw [hz4, hz5, hz6]; exact own_g5 va vb)).2 kq) ?_
                show Go p e below s _ _ T (mkF m 278 #[.val (.int x1), .val (.int x2), .val (.int x3), .val (.int x4), .val (.int va), .val (.int vb), .val (.int vc), .val (.int (1 : Int32)), .val (.ref b34), .val (.int (((own_ind z1) + (own_ind z2)) - (own_ind z3))), .val (.int (((own_ind z4) + (own_ind z5)) - (own_ind z6)))] [])
                refine Go.of (fun _ kq => XS.iconst X.here hx rfl (hb hby at_278) kq) ?_
                show Go p e below s _ _ T (mkF m 279 #[.val (.int x1), .val (.int x2), .val (.int x3), .val (.int x4), .val (.int va), .val (.int vb), .val (.int vc), .val (.int (1 : Int32)), .val (.ref b34), .val (.int (((own_ind z1) + (own_ind z2)) - (own_ind z3))), .val (.int (((own_ind z4) + (own_ind z5)) - (own_ind z6)))] [(.int (1 : Int32))])
                refine Go.of (fun _ kq => XS.goto X.here hx rfl (pc0 := 279) (pc' := 283) rfl (hb hby at_279) (by decide) (by decide) kq) ?_
                show Go p e below s _ _ T (mkF m 283 #[.val (.int x1), .val (.int x2), .val (.int x3), .val (.int x4), .val (.int va), .val (.int vb), .val (.int vc), .val (.int (1 : Int32)), .val (.ref b34), .val (.int (((own_ind z1) + (own_ind z2)) - (own_ind z3))), .val (.int (((own_ind z4) + (own_ind z5)) - (own_ind z6)))] [(.int (1 : Int32))])
                refine Go.retN X hx hret (by simp) hlk (hb hby at_283) (by decide) (by decide) ?_
                try rw [eT]
                exact ⟨rfl, N⟩
              · intro jn189
                show Go p e below s _ _ T (mkF m 177 #[.val (.int x1), .val (.int x2), .val (.int x3), .val (.int x4), .val (.int va), .val (.int vb), .val (.int vc), .val (.int (1 : Int32)), .val (.ref b34), .val (.int (((own_ind z1) + (own_ind z2)) - (own_ind z3))), .unset] [(.int ((own_ind z4) + (own_ind z5)))])
                refine Go.of (fun _ kq => XS.iload X.here hx rfl (hb hby at_177) rfl kq) ?_
                show Go p e below s _ _ T (mkF m 179 #[.val (.int x1), .val (.int x2), .val (.int x3), .val (.int x4), .val (.int va), .val (.int vb), .val (.int vc), .val (.int (1 : Int32)), .val (.ref b34), .val (.int (((own_ind z1) + (own_ind z2)) - (own_ind z3))), .unset] [(.int vb), (.int ((own_ind z4) + (own_ind z5)))])
                refine Go.of (fun _ kq => XS.bipush X.here hx rfl (hb hby at_179) kq) ?_
                show Go p e below s _ _ T (mkF m 181 #[.val (.int x1), .val (.int x2), .val (.int x3), .val (.int x4), .val (.int va), .val (.int vb), .val (.int vc), .val (.int (1 : Int32)), .val (.ref b34), .val (.int (((own_ind z1) + (own_ind z2)) - (own_ind z3))), .unset] [(.int (64 : Int32)), (.int vb), (.int ((own_ind z4) + (own_ind z5)))])
                by_cases hc181 : vb < (64 : Int32)
                · refine Go.of (fun _ kq => XS.icmpYes X.here hx rfl (pc0 := 181) (pc' := 188) rfl (hb hby at_181) rfl (tlt hc181).1 (by decide) (by decide) kq) ?_
                  show Go p e below s _ _ T (mkF m 188 #[.val (.int x1), .val (.int x2), .val (.int x3), .val (.int x4), .val (.int va), .val (.int vb), .val (.int vc), .val (.int (1 : Int32)), .val (.ref b34), .val (.int (((own_ind z1) + (own_ind z2)) - (own_ind z3))), .unset] [(.int ((own_ind z4) + (own_ind z5)))])
                  refine Go.of (fun _ kq => XS.iconst X.here hx rfl (hb hby at_188) kq) ?_
                  show Go p e below s _ _ T (mkF m 189 #[.val (.int x1), .val (.int x2), .val (.int x3), .val (.int x4), .val (.int va), .val (.int vb), .val (.int vc), .val (.int (1 : Int32)), .val (.ref b34), .val (.int (((own_ind z1) + (own_ind z2)) - (own_ind z3))), .unset] [(.int (0 : Int32)), (.int ((own_ind z4) + (own_ind z5)))])
                  exact jn189 _ (by rw [if_pos hc181])
                · refine Go.of (fun _ kq => XS.icmpNo X.here hx rfl (hb hby at_181) rfl (flt hc181).1 kq) ?_
                  show Go p e below s _ _ T (mkF m 184 #[.val (.int x1), .val (.int x2), .val (.int x3), .val (.int x4), .val (.int va), .val (.int vb), .val (.int vc), .val (.int (1 : Int32)), .val (.ref b34), .val (.int (((own_ind z1) + (own_ind z2)) - (own_ind z3))), .unset] [(.int ((own_ind z4) + (own_ind z5)))])
                  refine Go.of (fun _ kq => XS.iconst X.here hx rfl (hb hby at_184) kq) ?_
                  show Go p e below s _ _ T (mkF m 185 #[.val (.int x1), .val (.int x2), .val (.int x3), .val (.int x4), .val (.int va), .val (.int vb), .val (.int vc), .val (.int (1 : Int32)), .val (.ref b34), .val (.int (((own_ind z1) + (own_ind z2)) - (own_ind z3))), .unset] [(.int (1 : Int32)), (.int ((own_ind z4) + (own_ind z5)))])
                  refine Go.of (fun _ kq => XS.goto X.here hx rfl (pc0 := 185) (pc' := 189) rfl (hb hby at_185) (by decide) (by decide) kq) ?_
                  show Go p e below s _ _ T (mkF m 189 #[.val (.int x1), .val (.int x2), .val (.int x3), .val (.int x4), .val (.int va), .val (.int vb), .val (.int vc), .val (.int (1 : Int32)), .val (.ref b34), .val (.int (((own_ind z1) + (own_ind z2)) - (own_ind z3))), .unset] [(.int (1 : Int32)), (.int ((own_ind z4) + (own_ind z5)))])
                  exact jn189 _ (by rw [if_neg hc181])
            · intro jn168
              show Go p e below s _ _ T (mkF m 156 #[.val (.int x1), .val (.int x2), .val (.int x3), .val (.int x4), .val (.int va), .val (.int vb), .val (.int vc), .val (.int (1 : Int32)), .val (.ref b34), .val (.int (((own_ind z1) + (own_ind z2)) - (own_ind z3))), .unset] [(.int (own_ind z4))])
              refine Go.of (fun _ kq => XS.iload X.here hx rfl (hb hby at_156) rfl kq) ?_
              show Go p e below s _ _ T (mkF m 158 #[.val (.int x1), .val (.int x2), .val (.int x3), .val (.int x4), .val (.int va), .val (.int vb), .val (.int vc), .val (.int (1 : Int32)), .val (.ref b34), .val (.int (((own_ind z1) + (own_ind z2)) - (own_ind z3))), .unset] [(.int vb), (.int (own_ind z4))])
              refine Go.of (fun _ kq => XS.bipush X.here hx rfl (hb hby at_158) kq) ?_
              show Go p e below s _ _ T (mkF m 160 #[.val (.int x1), .val (.int x2), .val (.int x3), .val (.int x4), .val (.int va), .val (.int vb), .val (.int vc), .val (.int (1 : Int32)), .val (.ref b34), .val (.int (((own_ind z1) + (own_ind z2)) - (own_ind z3))), .unset] [(.int (64 : Int32)), (.int vb), (.int (own_ind z4))])
              by_cases hc160 : vb < (64 : Int32)
              · refine Go.of (fun _ kq => XS.icmpYes X.here hx rfl (pc0 := 160) (pc' := 167) rfl (hb hby at_160) rfl (tlt hc160).1 (by decide) (by decide) kq) ?_
                show Go p e below s _ _ T (mkF m 167 #[.val (.int x1), .val (.int x2), .val (.int x3), .val (.int x4), .val (.int va), .val (.int vb), .val (.int vc), .val (.int (1 : Int32)), .val (.ref b34), .val (.int (((own_ind z1) + (own_ind z2)) - (own_ind z3))), .unset] [(.int (own_ind z4))])
                refine Go.of (fun _ kq => XS.iconst X.here hx rfl (hb hby at_167) kq) ?_
                show Go p e below s _ _ T (mkF m 168 #[.val (.int x1), .val (.int x2), .val (.int x3), .val (.int x4), .val (.int va), .val (.int vb), .val (.int vc), .val (.int (1 : Int32)), .val (.ref b34), .val (.int (((own_ind z1) + (own_ind z2)) - (own_ind z3))), .unset] [(.int (0 : Int32)), (.int (own_ind z4))])
                exact jn168 _ (by rw [if_pos hc160])
              · refine Go.of (fun _ kq => XS.icmpNo X.here hx rfl (hb hby at_160) rfl (flt hc160).1 kq) ?_
                show Go p e below s _ _ T (mkF m 163 #[.val (.int x1), .val (.int x2), .val (.int x3), .val (.int x4), .val (.int va), .val (.int vb), .val (.int vc), .val (.int (1 : Int32)), .val (.ref b34), .val (.int (((own_ind z1) + (own_ind z2)) - (own_ind z3))), .unset] [(.int (own_ind z4))])
                refine Go.of (fun _ kq => XS.iconst X.here hx rfl (hb hby at_163) kq) ?_
                show Go p e below s _ _ T (mkF m 164 #[.val (.int x1), .val (.int x2), .val (.int x3), .val (.int x4), .val (.int va), .val (.int vb), .val (.int vc), .val (.int (1 : Int32)), .val (.ref b34), .val (.int (((own_ind z1) + (own_ind z2)) - (own_ind z3))), .unset] [(.int (1 : Int32)), (.int (own_ind z4))])
                refine Go.of (fun _ kq => XS.goto X.here hx rfl (pc0 := 164) (pc' := 168) rfl (hb hby at_164) (by decide) (by decide) kq) ?_
                show Go p e below s _ _ T (mkF m 168 #[.val (.int x1), .val (.int x2), .val (.int x3), .val (.int x4), .val (.int va), .val (.int vb), .val (.int vc), .val (.int (1 : Int32)), .val (.ref b34), .val (.int (((own_ind z1) + (own_ind z2)) - (own_ind z3))), .unset] [(.int (1 : Int32)), (.int (own_ind z4))])
                exact jn168 _ (by rw [if_neg hc160])
          · intro jn153
            show Go p e below s _ _ T (mkF m 141 #[.val (.int x1), .val (.int x2), .val (.int x3), .val (.int x4), .val (.int va), .val (.int vb), .val (.int vc), .val (.int (1 : Int32)), .val (.ref b34), .val (.int (((own_ind z1) + (own_ind z2)) - (own_ind z3))), .unset] [])
            refine Go.of (fun _ kq => XS.iload X.here hx rfl (hb hby at_141) rfl kq) ?_
            show Go p e below s _ _ T (mkF m 143 #[.val (.int x1), .val (.int x2), .val (.int x3), .val (.int x4), .val (.int va), .val (.int vb), .val (.int vc), .val (.int (1 : Int32)), .val (.ref b34), .val (.int (((own_ind z1) + (own_ind z2)) - (own_ind z3))), .unset] [(.int va)])
            refine Go.of (fun _ kq => XS.bipush X.here hx rfl (hb hby at_143) kq) ?_
            show Go p e below s _ _ T (mkF m 145 #[.val (.int x1), .val (.int x2), .val (.int x3), .val (.int x4), .val (.int va), .val (.int vb), .val (.int vc), .val (.int (1 : Int32)), .val (.ref b34), .val (.int (((own_ind z1) + (own_ind z2)) - (own_ind z3))), .unset] [(.int (64 : Int32)), (.int va)])
            by_cases hc145 : va < (64 : Int32)
            · refine Go.of (fun _ kq => XS.icmpYes X.here hx rfl (pc0 := 145) (pc' := 152) rfl (hb hby at_145) rfl (tlt hc145).1 (by decide) (by decide) kq) ?_
              show Go p e below s _ _ T (mkF m 152 #[.val (.int x1), .val (.int x2), .val (.int x3), .val (.int x4), .val (.int va), .val (.int vb), .val (.int vc), .val (.int (1 : Int32)), .val (.ref b34), .val (.int (((own_ind z1) + (own_ind z2)) - (own_ind z3))), .unset] [])
              refine Go.of (fun _ kq => XS.iconst X.here hx rfl (hb hby at_152) kq) ?_
              show Go p e below s _ _ T (mkF m 153 #[.val (.int x1), .val (.int x2), .val (.int x3), .val (.int x4), .val (.int va), .val (.int vb), .val (.int vc), .val (.int (1 : Int32)), .val (.ref b34), .val (.int (((own_ind z1) + (own_ind z2)) - (own_ind z3))), .unset] [(.int (0 : Int32))])
              exact jn153 _ (by rw [if_pos hc145])
            · refine Go.of (fun _ kq => XS.icmpNo X.here hx rfl (hb hby at_145) rfl (flt hc145).1 kq) ?_
              show Go p e below s _ _ T (mkF m 148 #[.val (.int x1), .val (.int x2), .val (.int x3), .val (.int x4), .val (.int va), .val (.int vb), .val (.int vc), .val (.int (1 : Int32)), .val (.ref b34), .val (.int (((own_ind z1) + (own_ind z2)) - (own_ind z3))), .unset] [])
              refine Go.of (fun _ kq => XS.iconst X.here hx rfl (hb hby at_148) kq) ?_
              show Go p e below s _ _ T (mkF m 149 #[.val (.int x1), .val (.int x2), .val (.int x3), .val (.int x4), .val (.int va), .val (.int vb), .val (.int vc), .val (.int (1 : Int32)), .val (.ref b34), .val (.int (((own_ind z1) + (own_ind z2)) - (own_ind z3))), .unset] [(.int (1 : Int32))])
              refine Go.of (fun _ kq => XS.goto X.here hx rfl (pc0 := 149) (pc' := 153) rfl (hb hby at_149) (by decide) (by decide) kq) ?_
              show Go p e below s _ _ T (mkF m 153 #[.val (.int x1), .val (.int x2), .val (.int x3), .val (.int x4), .val (.int va), .val (.int vb), .val (.int vc), .val (.int (1 : Int32)), .val (.ref b34), .val (.int (((own_ind z1) + (own_ind z2)) - (own_ind z3))), .unset] [(.int (1 : Int32))])
              exact jn153 _ (by rw [if_neg hc145])
        · intro jn135
          show Go p e below s _ _ T (mkF m 123 #[.val (.int x1), .val (.int x2), .val (.int x3), .val (.int x4), .val (.int va), .val (.int vb), .val (.int vc), .val (.int (1 : Int32)), .val (.ref b34), .unset, .unset] [(.int ((own_ind z1) + (own_ind z2)))])
          refine Go.of (fun _ kq => XS.iload X.here hx rfl (hb hby at_123) rfl kq) ?_
          show Go p e below s _ _ T (mkF m 125 #[.val (.int x1), .val (.int x2), .val (.int x3), .val (.int x4), .val (.int va), .val (.int vb), .val (.int vc), .val (.int (1 : Int32)), .val (.ref b34), .unset, .unset] [(.int vb), (.int ((own_ind z1) + (own_ind z2)))])
          refine Go.of (fun _ kq => XS.bipush X.here hx rfl (hb hby at_125) kq) ?_
          show Go p e below s _ _ T (mkF m 127 #[.val (.int x1), .val (.int x2), .val (.int x3), .val (.int x4), .val (.int va), .val (.int vb), .val (.int vc), .val (.int (1 : Int32)), .val (.ref b34), .unset, .unset] [(.int (64 : Int32)), (.int vb), (.int ((own_ind z1) + (own_ind z2)))])
          by_cases hc127 : vb < (64 : Int32)
          · refine Go.of (fun _ kq => XS.icmpNo X.here hx rfl (hb hby at_127) rfl (tlt hc127).2.1 kq) ?_
            show Go p e below s _ _ T (mkF m 130 #[.val (.int x1), .val (.int x2), .val (.int x3), .val (.int x4), .val (.int va), .val (.int vb), .val (.int vc), .val (.int (1 : Int32)), .val (.ref b34), .unset, .unset] [(.int ((own_ind z1) + (own_ind z2)))])
            refine Go.of (fun _ kq => XS.iconst X.here hx rfl (hb hby at_130) kq) ?_
            show Go p e below s _ _ T (mkF m 131 #[.val (.int x1), .val (.int x2), .val (.int x3), .val (.int x4), .val (.int va), .val (.int vb), .val (.int vc), .val (.int (1 : Int32)), .val (.ref b34), .unset, .unset] [(.int (1 : Int32)), (.int ((own_ind z1) + (own_ind z2)))])
            refine Go.of (fun _ kq => XS.goto X.here hx rfl (pc0 := 131) (pc' := 135) rfl (hb hby at_131) (by decide) (by decide) kq) ?_
            show Go p e below s _ _ T (mkF m 135 #[.val (.int x1), .val (.int x2), .val (.int x3), .val (.int x4), .val (.int va), .val (.int vb), .val (.int vc), .val (.int (1 : Int32)), .val (.ref b34), .unset, .unset] [(.int (1 : Int32)), (.int ((own_ind z1) + (own_ind z2)))])
            exact jn135 _ (by rw [if_pos hc127])
          · refine Go.of (fun _ kq => XS.icmpYes X.here hx rfl (pc0 := 127) (pc' := 134) rfl (hb hby at_127) rfl (flt hc127).2.1 (by decide) (by decide) kq) ?_
            show Go p e below s _ _ T (mkF m 134 #[.val (.int x1), .val (.int x2), .val (.int x3), .val (.int x4), .val (.int va), .val (.int vb), .val (.int vc), .val (.int (1 : Int32)), .val (.ref b34), .unset, .unset] [(.int ((own_ind z1) + (own_ind z2)))])
            refine Go.of (fun _ kq => XS.iconst X.here hx rfl (hb hby at_134) kq) ?_
            show Go p e below s _ _ T (mkF m 135 #[.val (.int x1), .val (.int x2), .val (.int x3), .val (.int x4), .val (.int va), .val (.int vb), .val (.int vc), .val (.int (1 : Int32)), .val (.ref b34), .unset, .unset] [(.int (0 : Int32)), (.int ((own_ind z1) + (own_ind z2)))])
            exact jn135 _ (by rw [if_neg hc127])
      · intro jn114
        show Go p e below s _ _ T (mkF m 102 #[.val (.int x1), .val (.int x2), .val (.int x3), .val (.int x4), .val (.int va), .val (.int vb), .val (.int vc), .val (.int (1 : Int32)), .val (.ref b34), .unset, .unset] [(.int (own_ind z1))])
        refine Go.of (fun _ kq => XS.iload X.here hx rfl (hb hby at_102) rfl kq) ?_
        show Go p e below s _ _ T (mkF m 104 #[.val (.int x1), .val (.int x2), .val (.int x3), .val (.int x4), .val (.int va), .val (.int vb), .val (.int vc), .val (.int (1 : Int32)), .val (.ref b34), .unset, .unset] [(.int vb), (.int (own_ind z1))])
        refine Go.of (fun _ kq => XS.bipush X.here hx rfl (hb hby at_104) kq) ?_
        show Go p e below s _ _ T (mkF m 106 #[.val (.int x1), .val (.int x2), .val (.int x3), .val (.int x4), .val (.int va), .val (.int vb), .val (.int vc), .val (.int (1 : Int32)), .val (.ref b34), .unset, .unset] [(.int (64 : Int32)), (.int vb), (.int (own_ind z1))])
        by_cases hc106 : vb < (64 : Int32)
        · refine Go.of (fun _ kq => XS.icmpNo X.here hx rfl (hb hby at_106) rfl (tlt hc106).2.1 kq) ?_
          show Go p e below s _ _ T (mkF m 109 #[.val (.int x1), .val (.int x2), .val (.int x3), .val (.int x4), .val (.int va), .val (.int vb), .val (.int vc), .val (.int (1 : Int32)), .val (.ref b34), .unset, .unset] [(.int (own_ind z1))])
          refine Go.of (fun _ kq => XS.iconst X.here hx rfl (hb hby at_109) kq) ?_
          show Go p e below s _ _ T (mkF m 110 #[.val (.int x1), .val (.int x2), .val (.int x3), .val (.int x4), .val (.int va), .val (.int vb), .val (.int vc), .val (.int (1 : Int32)), .val (.ref b34), .unset, .unset] [(.int (1 : Int32)), (.int (own_ind z1))])
          refine Go.of (fun _ kq => XS.goto X.here hx rfl (pc0 := 110) (pc' := 114) rfl (hb hby at_110) (by decide) (by decide) kq) ?_
          show Go p e below s _ _ T (mkF m 114 #[.val (.int x1), .val (.int x2), .val (.int x3), .val (.int x4), .val (.int va), .val (.int vb), .val (.int vc), .val (.int (1 : Int32)), .val (.ref b34), .unset, .unset] [(.int (1 : Int32)), (.int (own_ind z1))])
          exact jn114 _ (by rw [if_pos hc106])
        · refine Go.of (fun _ kq => XS.icmpYes X.here hx rfl (pc0 := 106) (pc' := 113) rfl (hb hby at_106) rfl (flt hc106).2.1 (by decide) (by decide) kq) ?_
          show Go p e below s _ _ T (mkF m 113 #[.val (.int x1), .val (.int x2), .val (.int x3), .val (.int x4), .val (.int va), .val (.int vb), .val (.int vc), .val (.int (1 : Int32)), .val (.ref b34), .unset, .unset] [(.int (own_ind z1))])
          refine Go.of (fun _ kq => XS.iconst X.here hx rfl (hb hby at_113) kq) ?_
          show Go p e below s _ _ T (mkF m 114 #[.val (.int x1), .val (.int x2), .val (.int x3), .val (.int x4), .val (.int va), .val (.int vb), .val (.int vc), .val (.int (1 : Int32)), .val (.ref b34), .unset, .unset] [(.int (0 : Int32)), (.int (own_ind z1))])
          exact jn114 _ (by rw [if_neg hc106])
    · intro jn99
      show Go p e below s _ _ T (mkF m 87 #[.val (.int x1), .val (.int x2), .val (.int x3), .val (.int x4), .val (.int va), .val (.int vb), .val (.int vc), .val (.int (1 : Int32)), .val (.ref b34), .unset, .unset] [])
      refine Go.of (fun _ kq => XS.iload X.here hx rfl (hb hby at_87) rfl kq) ?_
      show Go p e below s _ _ T (mkF m 89 #[.val (.int x1), .val (.int x2), .val (.int x3), .val (.int x4), .val (.int va), .val (.int vb), .val (.int vc), .val (.int (1 : Int32)), .val (.ref b34), .unset, .unset] [(.int va)])
      refine Go.of (fun _ kq => XS.bipush X.here hx rfl (hb hby at_89) kq) ?_
      show Go p e below s _ _ T (mkF m 91 #[.val (.int x1), .val (.int x2), .val (.int x3), .val (.int x4), .val (.int va), .val (.int vb), .val (.int vc), .val (.int (1 : Int32)), .val (.ref b34), .unset, .unset] [(.int (64 : Int32)), (.int va)])
      by_cases hc91 : va < (64 : Int32)
      · refine Go.of (fun _ kq => XS.icmpNo X.here hx rfl (hb hby at_91) rfl (tlt hc91).2.1 kq) ?_
        show Go p e below s _ _ T (mkF m 94 #[.val (.int x1), .val (.int x2), .val (.int x3), .val (.int x4), .val (.int va), .val (.int vb), .val (.int vc), .val (.int (1 : Int32)), .val (.ref b34), .unset, .unset] [])
        refine Go.of (fun _ kq => XS.iconst X.here hx rfl (hb hby at_94) kq) ?_
        show Go p e below s _ _ T (mkF m 95 #[.val (.int x1), .val (.int x2), .val (.int x3), .val (.int x4), .val (.int va), .val (.int vb), .val (.int vc), .val (.int (1 : Int32)), .val (.ref b34), .unset, .unset] [(.int (1 : Int32))])
        refine Go.of (fun _ kq => XS.goto X.here hx rfl (pc0 := 95) (pc' := 99) rfl (hb hby at_95) (by decide) (by decide) kq) ?_
        show Go p e below s _ _ T (mkF m 99 #[.val (.int x1), .val (.int x2), .val (.int x3), .val (.int x4), .val (.int va), .val (.int vb), .val (.int vc), .val (.int (1 : Int32)), .val (.ref b34), .unset, .unset] [(.int (1 : Int32))])
        exact jn99 _ (by rw [if_pos hc91])
      · refine Go.of (fun _ kq => XS.icmpYes X.here hx rfl (pc0 := 91) (pc' := 98) rfl (hb hby at_91) rfl (flt hc91).2.1 (by decide) (by decide) kq) ?_
        show Go p e below s _ _ T (mkF m 98 #[.val (.int x1), .val (.int x2), .val (.int x3), .val (.int x4), .val (.int va), .val (.int vb), .val (.int vc), .val (.int (1 : Int32)), .val (.ref b34), .unset, .unset] [])
        refine Go.of (fun _ kq => XS.iconst X.here hx rfl (hb hby at_98) kq) ?_
        show Go p e below s _ _ T (mkF m 99 #[.val (.int x1), .val (.int x2), .val (.int x3), .val (.int x4), .val (.int va), .val (.int vb), .val (.int vc), .val (.int (1 : Int32)), .val (.ref b34), .unset, .unset] [(.int (0 : Int32))])
        exact jn99 _ (by rw [if_neg hc91])
set_option maxRecDepth 65536 in
set_option maxHeartbeats 40000000 in
theorem comes_1 {Post : Tables → Env → Array Value → State → Outcome → State → Prop} (hpost : ∀ tb e args s v u, (limb_1_1.after args s (.returned v) u = true ∧ limb_1_2.after args s (.returned v) u = true ∧ True) → FrameEnd s (.returned v) u (Jvm.fieldLocs frame_1_writes args s ++ Jvm.arrayLocs frame_1_arrays args s ++ Jvm.staticLocs frame_1_statics s) 40 27136 → Post tb e args s (.returned v) u) :
    ArmFor flags0 classFile x code maxLocals ret World_1 tables_1 room_1 Calls_1 rest_1 Pre_1 Post := by
  intro l hfl _ _ p e ha hc hk s m args below hf hA hF happ hP
  obtain ⟨hcalls, hrest, hpre⟩ := hP
  obtain ⟨-, -, -, hnamed, -, -, -, hat⟩ := (Spec.applies_iff hf).mp happ
  obtain ⟨hg, hn⟩ := and_e (Cond.before_iff.mp (show (Jvm.Cond.and given_1 narrow_1).before args s = true from hpre))
  obtain ⟨gc, g0⟩ := and_e hg
  obtain ⟨k0, g1⟩ := and_e g0
  obtain ⟨k1, g2⟩ := and_e g1
  obtain ⟨k2, g3⟩ := and_e g2
  obtain ⟨w0, w1, w2, w3, rfl⟩ : ∃ w0 w1 w2 w3 : Value, args = #[w0, w1, w2, w3] := by
    have hs : args.size = 4 := by simpa [Cond.value, given_1] using gc
    obtain ⟨L⟩ := args
    match L, hs with
    | [w0, w1, w2, w3], _ => exact ⟨w0, w1, w2, w3, rfl⟩
  have hw := fun d (hd : d ∈ tables_1) => atoms_spec (ws := Jvm.Cond.code x code maxLocals ret :: tables_1) hat d (List.mem_cons_of_mem _ hd)
  obtain ⟨i0, ei0⟩ := is_v k0
  obtain rfl : w0 = (.int i0) := Option.some.inj ei0
  obtain ⟨i1, ei1⟩ := is_v k1
  obtain rfl : w1 = (.int i1) := Option.some.inj ei1
  obtain ⟨i2, ei2⟩ := is_v k2
  obtain rfl : w2 = (.int i2) := Option.some.inj ei2
  obtain ⟨i3, ei3⟩ := is_v g3
  obtain rfl : w3 = (.int i3) := Option.some.inj ei3
  obtain ⟨n, o, h1, h2, h3, _, L, rfl, ⟨rfl, N⟩, hq⟩ := rm0 (l := l) (Z := s) hw i0 i1 i2 i3 s.heap s.heap.size (Nat.le_refl _) p e ha hc hk s m _ below hf ((Spec.applies_iff_loose hf).mp happ).1 ⟨rfl, State.Warmed39.refl s, rfl⟩ trivial
  refine ⟨n, _, h1, h2, h3, hpost _ _ _ _ _ _ ⟨Cond.after_iff.mpr rfl, Cond.after_iff.mpr (eq_i res_at (Term.int_eval (1)) rfl), trivial⟩ ⟨hq.1, hq.2.1, (hq.2.2.sift fun y hy => Or.inr (N y hy)).mono (by decide) (by decide)⟩⟩
theorem main_1_1 : Claimed_1_1 := comes_1 fun _ _ _ _ _ _ h hF => ⟨h.1, hF⟩
theorem main_1_2 : Claimed_1_2 := comes_1 fun _ _ _ _ _ _ h hF => ⟨h.2.1, hF⟩
end Jvm.Pilot.@@N@@
namespace Jvm.Pilot.@@N@@
open Jvm Jvm.ClassFile Sem Op Lib Jvm.Free Jvm.Stand Jvm.Pilot.@@N@@.Jvm.D
/-! MADE BY PROGRAM (witnessworld.py) out of the Statement's table words and the real class files: 14 classes; the members and pool entries that the words name. The judged class is class 1, her method 3. -/
namespace start1
open Jvm.ClassFile
def u (s : String) : CpInfo := .utf8 (stringToUtf16 s)
/-- a pool by its gaps: so many unusable entries, then the entry; so many at the end -/
def gap : Nat → List CpInfo → List CpInfo
  | 0, r => r
  | n + 1, r => .unusable :: gap n r
def poolList (es : List (Nat × CpInfo)) (last : Nat) : List CpInfo := es.foldr (fun e r => gap e.1 (e.2 :: r)) (gap last [])
def pool (es : List (Nat × CpInfo)) (last : Nat) : Array CpInfo := ⟨poolList es last⟩
def fileOf (pool : Array CpInfo) (this : Nat) (attrs : Array Attribute := #[]) (ms : Array MethodInfo := #[]) (fl : Nat := 33) (sup : Nat := 0) (ifs : Array Nat := #[]) (fds : Array FieldInfo := #[]) : ClassFile where
  minorVersion := 0
  majorVersion := 65
  constantPool := pool
  accessFlags := fl
  thisClass := this
  superClass := sup
  interfaces := ifs
  fields := fds
  methods := ms
  attributes := attrs
def plain (name : String) (sup : Option ClassId) : Class where
  name := name
  kind := .ordinary
  loader := none
  accessFlags := 33
  super := sup
  interfaces := #[]
  cf := none
  fields := #[]
  methods := #[]
  instanceTypes := #[]
  staticTypes := #[]
  resolved := #[]
  callSites := []
  init := .initialized
  statics := none
  mirror := none

def pool0 : Array CpInfo := pool [(5, u "<init>"), (0, u "()V"), (1, .class_ 10), (1, u "java/lang/Object")] 113

def k0c0 : Code := { maxStack := 0, maxLocals := 1, code := object_method_1_code, exceptionTable := #[], attributes := #[] }
def k0m0 : Method := { name := "<init>", desc := "()V", sig := { parameters := [], returnType := none }, accessFlags := 1, code := some k0c0 }
/-- java/lang/Object -/
def k0 : Class := { plain "java/lang/Object" none with
  accessFlags := 33
  interfaces := #[]
  cf := some (fileOf pool0 8 #[] #[{ accessFlags := 1, nameIndex := 5, descriptorIndex := 6, attributes := #[] }] 33 0 #[] #[])
  fields := #[]
  methods := #[k0m0]
  instanceTypes := #[]
  staticTypes := #[]
  resolved := Array.replicate 124 none
  statics := none }

def pool1 : Array CpInfo := pool [(2, .class_ 4), (1, u "java/lang/Object"), (0, u "<init>"), (0, u "()V"), (0, .methodref 8 9), (0, .class_ 10), (0, .nameAndType 11 12), (0, u "com/example/credence/credence/oauth1/OwnersLetGoPinLaw"), (0, u "ind"), (0, u "(Z)I"), (0, .class_ 14), (0, u "com/example/credence/credence/oauth1/Owners"), (0, .methodref 13 16), (0, .nameAndType 5 17), (0, u "(IJJ)V"), (0, .methodref 13 19), (0, .nameAndType 20 21), (0, u "kept"), (0, u "(I)V"), (0, .methodref 13 23), (0, .nameAndType 24 21), (0, u "letGo"), (0, .methodref 13 26), (0, .nameAndType 27 28), (0, u "held"), (0, u "(I)I"), (0, .methodref 8 30), (0, .nameAndType 31 32), (0, u "expectedHeld"), (0, u "(IIIZ)I"), (0, .methodref 13 34), (0, .nameAndType 35 36), (0, u "heldByClients"), (0, u "()I"), (0, .methodref 13 38), (0, .nameAndType 39 36), (0, u "heldByGroups"), (3, u "law"), (0, u "(IIII)Z")] 2

def k1m0 : Method := { name := "<init>", desc := "()V", sig := { parameters := [], returnType := none }, accessFlags := 1, code := none }
def k1c1 : Code := { maxStack := 1, maxLocals := 1, code := method_2_code, exceptionTable := #[], attributes := #[] }
def k1m1 : Method := { name := "ind", desc := "(Z)I", sig := { parameters := [.boolean], returnType := some .int }, accessFlags := 10, code := some k1c1 }
def k1c2 : Code := { maxStack := 3, maxLocals := 4, code := method_3_code, exceptionTable := #[], attributes := #[] }
def k1m2 : Method := { name := "expectedHeld", desc := "(IIIZ)I", sig := { parameters := [.int, .int, .int, .boolean], returnType := some .int }, accessFlags := 10, code := some k1c2 }
def k1c3 : Code := { maxStack := 7, maxLocals := 11, code := code, exceptionTable := #[], attributes := #[] }
def k1m3 : Method := { name := "law", desc := "(IIII)Z", sig := { parameters := [.int, .int, .int, .int], returnType := some .boolean }, accessFlags := 9, code := some k1c3 }
/-- com/example/credence/credence/oauth1/OwnersLetGoPinLaw -/
def k1 : Class := { plain "com/example/credence/credence/oauth1/OwnersLetGoPinLaw" (some 0) with
  accessFlags := 49
  interfaces := #[]
  cf := some (fileOf pool1 8 #[] #[{ accessFlags := 1, nameIndex := 5, descriptorIndex := 6, attributes := #[] }, { accessFlags := 10, nameIndex := 11, descriptorIndex := 12, attributes := #[] }, { accessFlags := 10, nameIndex := 31, descriptorIndex := 32, attributes := #[] }, { accessFlags := 9, nameIndex := 43, descriptorIndex := 44, attributes := #[] }] 49 2 #[] #[])
  fields := #[]
  methods := #[k1m0, k1m1, k1m2, k1m3]
  instanceTypes := #[]
  staticTypes := #[]
  resolved := Array.replicate 47 none
  statics := none }

def pool2 : Array CpInfo := pool [(1, .class_ 2), (0, u "com/example/credence/credence/oauth1/Owners"), (4, .methodref 8 9), (0, .class_ 10), (0, .nameAndType 11 12), (0, u "java/lang/Object"), (0, u "<init>"), (0, u "()V"), (0, .fieldref 1 14), (0, .nameAndType 15 16), (0, u "clients"), (0, u "[I"), (0, .fieldref 1 18), (0, .nameAndType 19 16), (0, u "held"), (0, .class_ 21), (0, u "com/example/credence/credence/oauth1/HeavyHitters"), (0, .fieldref 1 23), (0, .nameAndType 24 16), (0, u "credited"), (0, .fieldref 1 26), (0, .nameAndType 27 16), (0, u "credits"), (0, .fieldref 1 29), (0, .nameAndType 30 16), (0, u "counted"), (0, .fieldref 1 32), (0, .nameAndType 33 16), (0, u "grouped"), (0, .fieldref 1 35), (0, .nameAndType 36 37), (0, u "firsts"), (0, u "[J"), (0, .fieldref 1 39), (0, .nameAndType 40 37), (0, u "lasts"), (0, .fieldref 1 42), (0, .nameAndType 43 44), (0, u "maxOfGroups"), (0, u "I"), (0, .methodref 46 47), (0, .class_ 48), (0, .nameAndType 49 50), (0, u "java/lang/Math"), (0, u "max"), (0, u "(II)I"), (0, .fieldref 1 52), (0, .nameAndType 53 44), (0, u "share"), (0, .methodref 20 55), (0, .nameAndType 11 56), (0, u "(JIJ)V"), (0, .fieldref 1 58), (0, .nameAndType 59 60), (0, u "recent"), (0, u "Lcom/example/credence/credence/oauth1/HeavyHitters;"), (0, .long 9223372036854775807), (1, .methodref 64 65), (0, .class_ 66), (0, .nameAndType 67 68), (0, u "java/util/Arrays"), (0, u "fill"), (0, u "([JJ)V"), (0, .long 9223372036854775808), (11, u "(I)I"), (31, .fieldref 1 114), (0, .nameAndType 115 44), (0, u "heldByClients"), (0, .fieldref 1 117), (0, .nameAndType 118 44), (0, u "heldByGroups"), (8, u "creditedCount"), (42, u "()I"), (28, u "(IJJ)V"), (8, u "BITS"), (2, u "COUNT"), (1, u "CLIENTS"), (1, u "SHARE"), (0, u "KEPT"), (1, u "BYTES"), (1, u "NONE"), (7, u "kept"), (0, u "(I)V"), (0, u "letGo")] 42

def k2c0 : Code := { maxStack := 8, maxLocals := 6, code := prog_14_method_1_code, exceptionTable := #[], attributes := #[] }
def k2m0 : Method := { name := "<init>", desc := "(IJJ)V", sig := { parameters := [.int, .long, .long], returnType := none }, accessFlags := 0, code := some k2c0 }
def k2c1 : Code := { maxStack := 2, maxLocals := 2, code := prog_14_method_10_code, exceptionTable := #[], attributes := #[] }
def k2m1 : Method := { name := "held", desc := "(I)I", sig := { parameters := [.int], returnType := some .int }, accessFlags := 0, code := some k2c1 }
def k2c2 : Code := { maxStack := 1, maxLocals := 1, code := prog_14_method_11_code, exceptionTable := #[], attributes := #[] }
def k2m2 : Method := { name := "heldByClients", desc := "()I", sig := { parameters := [], returnType := some .int }, accessFlags := 0, code := some k2c2 }
def k2c3 : Code := { maxStack := 1, maxLocals := 1, code := prog_14_method_12_code, exceptionTable := #[], attributes := #[] }
def k2m3 : Method := { name := "heldByGroups", desc := "()I", sig := { parameters := [], returnType := some .int }, accessFlags := 0, code := some k2c3 }
def k2c4 : Code := { maxStack := 4, maxLocals := 2, code := prog_14_method_13_code, exceptionTable := #[], attributes := #[] }
def k2m4 : Method := { name := "kept", desc := "(I)V", sig := { parameters := [.int], returnType := none }, accessFlags := 0, code := some k2c4 }
def k2c5 : Code := { maxStack := 4, maxLocals := 2, code := prog_14_method_14_code, exceptionTable := #[], attributes := #[] }
def k2m5 : Method := { name := "letGo", desc := "(I)V", sig := { parameters := [.int], returnType := none }, accessFlags := 0, code := some k2c5 }
/-- com/example/credence/credence/oauth1/Owners -/
def k2 : Class := { plain "com/example/credence/credence/oauth1/Owners" (some 0) with
  accessFlags := 48
  interfaces := #[]
  cf := some (fileOf pool2 1 #[] #[{ accessFlags := 0, nameIndex := 11, descriptorIndex := 199, attributes := #[] }, { accessFlags := 0, nameIndex := 19, descriptorIndex := 81, attributes := #[] }, { accessFlags := 0, nameIndex := 115, descriptorIndex := 170, attributes := #[] }, { accessFlags := 0, nameIndex := 118, descriptorIndex := 170, attributes := #[] }, { accessFlags := 0, nameIndex := 228, descriptorIndex := 229, attributes := #[] }, { accessFlags := 0, nameIndex := 230, descriptorIndex := 229, attributes := #[] }] 48 8 #[] #[{ accessFlags := 24, nameIndex := 208, descriptorIndex := 44, attributes := #[] }, { accessFlags := 24, nameIndex := 211, descriptorIndex := 44, attributes := #[] }, { accessFlags := 24, nameIndex := 213, descriptorIndex := 44, attributes := #[] }, { accessFlags := 26, nameIndex := 215, descriptorIndex := 44, attributes := #[] }, { accessFlags := 24, nameIndex := 216, descriptorIndex := 44, attributes := #[] }, { accessFlags := 24, nameIndex := 218, descriptorIndex := 44, attributes := #[] }, { accessFlags := 26, nameIndex := 220, descriptorIndex := 44, attributes := #[] }, { accessFlags := 18, nameIndex := 43, descriptorIndex := 44, attributes := #[] }, { accessFlags := 18, nameIndex := 53, descriptorIndex := 44, attributes := #[] }, { accessFlags := 18, nameIndex := 59, descriptorIndex := 60, attributes := #[] }, { accessFlags := 18, nameIndex := 15, descriptorIndex := 16, attributes := #[] }, { accessFlags := 18, nameIndex := 19, descriptorIndex := 16, attributes := #[] }, { accessFlags := 2, nameIndex := 115, descriptorIndex := 44, attributes := #[] }, { accessFlags := 2, nameIndex := 118, descriptorIndex := 44, attributes := #[] }, { accessFlags := 18, nameIndex := 24, descriptorIndex := 16, attributes := #[] }, { accessFlags := 18, nameIndex := 27, descriptorIndex := 16, attributes := #[] }, { accessFlags := 2, nameIndex := 127, descriptorIndex := 44, attributes := #[] }, { accessFlags := 18, nameIndex := 30, descriptorIndex := 16, attributes := #[] }, { accessFlags := 18, nameIndex := 33, descriptorIndex := 16, attributes := #[] }, { accessFlags := 18, nameIndex := 36, descriptorIndex := 37, attributes := #[] }, { accessFlags := 18, nameIndex := 40, descriptorIndex := 37, attributes := #[] }])
  fields := #[{ name := "BITS", type := .int, accessFlags := 24, slot := 0, constantValue := 0 }, { name := "COUNT", type := .int, accessFlags := 24, slot := 1, constantValue := 0 }, { name := "CLIENTS", type := .int, accessFlags := 24, slot := 2, constantValue := 0 }, { name := "SHARE", type := .int, accessFlags := 26, slot := 3, constantValue := 0 }, { name := "KEPT", type := .int, accessFlags := 24, slot := 4, constantValue := 0 }, { name := "BYTES", type := .int, accessFlags := 24, slot := 5, constantValue := 0 }, { name := "NONE", type := .int, accessFlags := 26, slot := 6, constantValue := 0 }, { name := "maxOfGroups", type := .int, accessFlags := 18, slot := 0, constantValue := 0 }, { name := "share", type := .int, accessFlags := 18, slot := 1, constantValue := 0 }, { name := "recent", type := (.object "com/example/credence/credence/oauth1/HeavyHitters"), accessFlags := 18, slot := 2, constantValue := 0 }, { name := "clients", type := (.array .int), accessFlags := 18, slot := 3, constantValue := 0 }, { name := "held", type := (.array .int), accessFlags := 18, slot := 4, constantValue := 0 }, { name := "heldByClients", type := .int, accessFlags := 2, slot := 5, constantValue := 0 }, { name := "heldByGroups", type := .int, accessFlags := 2, slot := 6, constantValue := 0 }, { name := "credited", type := (.array .int), accessFlags := 18, slot := 7, constantValue := 0 }, { name := "credits", type := (.array .int), accessFlags := 18, slot := 8, constantValue := 0 }, { name := "creditedCount", type := .int, accessFlags := 2, slot := 9, constantValue := 0 }, { name := "counted", type := (.array .int), accessFlags := 18, slot := 10, constantValue := 0 }, { name := "grouped", type := (.array .int), accessFlags := 18, slot := 11, constantValue := 0 }, { name := "firsts", type := (.array .long), accessFlags := 18, slot := 12, constantValue := 0 }, { name := "lasts", type := (.array .long), accessFlags := 18, slot := 13, constantValue := 0 }]
  methods := #[k2m0, k2m1, k2m2, k2m3, k2m4, k2m5]
  instanceTypes := #[.int, .int, (.object "com/example/credence/credence/oauth1/HeavyHitters"), (.array .int), (.array .int), .int, .int, (.array .int), (.array .int), .int, (.array .int), (.array .int), (.array .long), (.array .long)]
  staticTypes := #[.int, .int, .int, .int, .int, .int, .int]
  resolved := Array.replicate 273 none
  statics := none }

def pool3 : Array CpInfo := pool [(1, .class_ 2), (0, u "java/lang/Math"), (1, .class_ 6), (1, u "java/lang/Object"), (0, u "<init>"), (0, u "()V"), (89, .class_ 100), (1, u "java/lang/Math$RandomNumberGeneratorHolder"), (71, u "negativeZeroFloatBits"), (0, u "J"), (2, u "negativeZeroDoubleBits"), (21, u "max"), (46, u "$assertionsDisabled"), (0, u "Z"), (88, u "(II)I"), (2, u "twoToTheDoubleScaleDown"), (0, u "D"), (4, u "twoToTheDoubleScaleUp"), (9, u "E"), (3, u "PI"), (2, u "TAU"), (2, u "DEGREES_TO_RADIANS"), (0, u "RADIANS_TO_DEGREES")] 94

def k3m0 : Method := { name := "<init>", desc := "()V", sig := { parameters := [], returnType := none }, accessFlags := 2, code := none }
def k3c1 : Code := { maxStack := 2, maxLocals := 2, code := jdk_29_method_65_code, exceptionTable := #[], attributes := #[] }
def k3m1 : Method := { name := "max", desc := "(II)I", sig := { parameters := [.int, .int], returnType := some .int }, accessFlags := 9, code := some k3c1 }
/-- java/lang/Math -/
def k3 : Class := { plain "java/lang/Math" (some 0) with
  accessFlags := 49
  interfaces := #[]
  cf := some (fileOf pool3 1 #[.nestMembers #[98]] #[{ accessFlags := 2, nameIndex := 7, descriptorIndex := 8, attributes := #[] }, { accessFlags := 9, nameIndex := 198, descriptorIndex := 335, attributes := #[] }] 49 4 #[] #[{ accessFlags := 25, nameIndex := 354, descriptorIndex := 339, attributes := #[] }, { accessFlags := 25, nameIndex := 358, descriptorIndex := 339, attributes := #[] }, { accessFlags := 25, nameIndex := 361, descriptorIndex := 339, attributes := #[] }, { accessFlags := 26, nameIndex := 364, descriptorIndex := 339, attributes := #[] }, { accessFlags := 26, nameIndex := 365, descriptorIndex := 339, attributes := #[] }, { accessFlags := 26, nameIndex := 172, descriptorIndex := 173, attributes := #[] }, { accessFlags := 26, nameIndex := 176, descriptorIndex := 173, attributes := #[] }, { accessFlags := 8, nameIndex := 344, descriptorIndex := 339, attributes := #[] }, { accessFlags := 8, nameIndex := 338, descriptorIndex := 339, attributes := #[] }, { accessFlags := 4120, nameIndex := 245, descriptorIndex := 246, attributes := #[] }])
  fields := #[{ name := "E", type := .double, accessFlags := 25, slot := 0, constantValue := 0 }, { name := "PI", type := .double, accessFlags := 25, slot := 1, constantValue := 0 }, { name := "TAU", type := .double, accessFlags := 25, slot := 2, constantValue := 0 }, { name := "DEGREES_TO_RADIANS", type := .double, accessFlags := 26, slot := 3, constantValue := 0 }, { name := "RADIANS_TO_DEGREES", type := .double, accessFlags := 26, slot := 4, constantValue := 0 }, { name := "negativeZeroFloatBits", type := .long, accessFlags := 26, slot := 5, constantValue := 0 }, { name := "negativeZeroDoubleBits", type := .long, accessFlags := 26, slot := 6, constantValue := 0 }, { name := "twoToTheDoubleScaleUp", type := .double, accessFlags := 8, slot := 7, constantValue := 0 }, { name := "twoToTheDoubleScaleDown", type := .double, accessFlags := 8, slot := 8, constantValue := 0 }, { name := "$assertionsDisabled", type := .boolean, accessFlags := 4120, slot := 9, constantValue := 0 }]
  methods := #[k3m0, k3m1]
  instanceTypes := #[]
  staticTypes := #[.double, .double, .double, .double, .double, .long, .long, .double, .double, .boolean]
  resolved := Array.replicate 460 none
  statics := none }

def pool4 : Array CpInfo := pool [(1, .methodref 2 3), (0, .class_ 4), (0, .nameAndType 5 6), (0, u "java/lang/Object"), (0, u "<init>"), (0, u "()V"), (0, .class_ 8), (0, u "com/example/credence/credence/oauth1/HeavyHitters"), (0, .fieldref 7 10), (0, .nameAndType 11 12), (0, u "clients"), (0, u "[I"), (0, .fieldref 7 14), (0, .nameAndType 15 12), (0, u "counts"), (0, .fieldref 7 17), (0, .nameAndType 18 12), (0, u "grouped"), (0, .fieldref 7 20), (0, .nameAndType 21 22), (0, u "groupedFirsts"), (0, u "[J"), (0, .fieldref 7 24), (0, .nameAndType 25 22), (0, u "groupedLasts"), (0, .fieldref 7 27), (0, .nameAndType 28 29), (0, u "halfLife"), (0, u "J"), (0, .fieldref 7 31), (0, .nameAndType 32 33), (0, u "most"), (0, u "I"), (0, .fieldref 7 35), (0, .nameAndType 36 29), (0, u "halvedAt"), (34, u "COUNTERS"), (2, u "(JIJ)V")] 11

def k4c0 : Code := { maxStack := 3, maxLocals := 6, code := prog_11_method_1_code, exceptionTable := #[], attributes := #[] }
def k4m0 : Method := { name := "<init>", desc := "(JIJ)V", sig := { parameters := [.long, .int, .long], returnType := none }, accessFlags := 0, code := some k4c0 }
/-- com/example/credence/credence/oauth1/HeavyHitters -/
def k4 : Class := { plain "com/example/credence/credence/oauth1/HeavyHitters" (some 0) with
  accessFlags := 48
  interfaces := #[]
  cf := some (fileOf pool4 7 #[] #[{ accessFlags := 0, nameIndex := 5, descriptorIndex := 74, attributes := #[] }] 48 2 #[] #[{ accessFlags := 24, nameIndex := 71, descriptorIndex := 33, attributes := #[] }, { accessFlags := 18, nameIndex := 28, descriptorIndex := 29, attributes := #[] }, { accessFlags := 18, nameIndex := 32, descriptorIndex := 33, attributes := #[] }, { accessFlags := 18, nameIndex := 11, descriptorIndex := 12, attributes := #[] }, { accessFlags := 18, nameIndex := 15, descriptorIndex := 12, attributes := #[] }, { accessFlags := 18, nameIndex := 18, descriptorIndex := 12, attributes := #[] }, { accessFlags := 18, nameIndex := 21, descriptorIndex := 22, attributes := #[] }, { accessFlags := 18, nameIndex := 25, descriptorIndex := 22, attributes := #[] }, { accessFlags := 2, nameIndex := 36, descriptorIndex := 29, attributes := #[] }])
  fields := #[{ name := "COUNTERS", type := .int, accessFlags := 24, slot := 0, constantValue := 0 }, { name := "halfLife", type := .long, accessFlags := 18, slot := 0, constantValue := 0 }, { name := "most", type := .int, accessFlags := 18, slot := 1, constantValue := 0 }, { name := "clients", type := (.array .int), accessFlags := 18, slot := 2, constantValue := 0 }, { name := "counts", type := (.array .int), accessFlags := 18, slot := 3, constantValue := 0 }, { name := "grouped", type := (.array .int), accessFlags := 18, slot := 4, constantValue := 0 }, { name := "groupedFirsts", type := (.array .long), accessFlags := 18, slot := 5, constantValue := 0 }, { name := "groupedLasts", type := (.array .long), accessFlags := 18, slot := 6, constantValue := 0 }, { name := "halvedAt", type := .long, accessFlags := 2, slot := 7, constantValue := 0 }]
  methods := #[k4m0]
  instanceTypes := #[.long, .int, (.array .int), (.array .int), (.array .int), (.array .long), (.array .long), .long]
  staticTypes := #[.int]
  resolved := Array.replicate 86 none
  statics := none }

def pool5 : Array CpInfo := pool [(2, .class_ 4), (1, u "java/lang/Object"), (0, u "<init>"), (0, u "()V"), (7, .class_ 16), (1, u "java/util/Arrays"), (57, .class_ 76), (1, u "java/util/Arrays$NaturalOrder"), (36, .class_ 115), (1, u "java/util/Arrays$LegacyMergeSort"), (1, u "Z"), (257, .class_ 376), (0, u "java/util/Arrays$ArrayList"), (68, u "$assertionsDisabled"), (269, u "MIN_ARRAY_SORT_GRAN"), (0, u "I"), (2, u "INSERTIONSORT_THRESHOLD"), (120, u "fill"), (0, u "([JJ)V"), (133, .class_ 976), (0, u "java/util/Arrays$ArrayItr")] 52

def k5m0 : Method := { name := "<init>", desc := "()V", sig := { parameters := [], returnType := none }, accessFlags := 2, code := none }
def k5c1 : Code := { maxStack := 4, maxLocals := 5, code := jdk_65_method_101_code, exceptionTable := #[], attributes := #[] }
def k5m1 : Method := { name := "fill", desc := "([JJ)V", sig := { parameters := [(.array .long), .long], returnType := none }, accessFlags := 9, code := some k5c1 }
/-- java/util/Arrays -/
def k5 : Class := { plain "java/util/Arrays" (some 0) with
  accessFlags := 49
  interfaces := #[]
  cf := some (fileOf pool5 14 #[.nestMembers #[975, 375, 113, 74]] #[{ accessFlags := 2, nameIndex := 5, descriptorIndex := 6, attributes := #[] }, { accessFlags := 9, nameIndex := 840, descriptorIndex := 841, attributes := #[] }] 49 2 #[] #[{ accessFlags := 26, nameIndex := 715, descriptorIndex := 716, attributes := #[] }, { accessFlags := 26, nameIndex := 719, descriptorIndex := 716, attributes := #[] }, { accessFlags := 4120, nameIndex := 445, descriptorIndex := 117, attributes := #[] }])
  fields := #[{ name := "MIN_ARRAY_SORT_GRAN", type := .int, accessFlags := 26, slot := 0, constantValue := 0 }, { name := "INSERTIONSORT_THRESHOLD", type := .int, accessFlags := 26, slot := 1, constantValue := 0 }, { name := "$assertionsDisabled", type := .boolean, accessFlags := 4120, slot := 2, constantValue := 0 }]
  methods := #[k5m0, k5m1]
  instanceTypes := #[]
  staticTypes := #[.int, .int, .boolean]
  resolved := Array.replicate 1029 none
  statics := none }

def pool6 : Array CpInfo := pool [(1, u "java/lang/Cloneable"), (0, .class_ 1), (0, u "java/lang/Object"), (0, .class_ 3)] 3

/-- java/lang/Cloneable -/
def k6 : Class := { plain "java/lang/Cloneable" (some 0) with
  accessFlags := 1537
  interfaces := #[]
  cf := some (fileOf pool6 2 #[] #[] 1537 4 #[] #[])
  fields := #[]
  methods := #[]
  instanceTypes := #[]
  staticTypes := #[]
  resolved := Array.replicate 8 none
  statics := none }

def pool7 : Array CpInfo := pool [(1, u "java/io/Serializable"), (0, .class_ 1), (0, u "java/lang/Object"), (0, .class_ 3)] 3

/-- java/io/Serializable -/
def k7 : Class := { plain "java/io/Serializable" (some 0) with
  accessFlags := 1537
  interfaces := #[]
  cf := some (fileOf pool7 2 #[] #[] 1537 4 #[] #[])
  fields := #[]
  methods := #[]
  instanceTypes := #[]
  staticTypes := #[]
  resolved := Array.replicate 8 none
  statics := none }

/-- the primitive byte -/
def k8 : Class := { plain "byte" none with kind := .primitive 'B', accessFlags := 0x411 }
/-- [B -/
def k9 : Class := { plain "[B" (some 0) with kind := .array 8 .byte, interfaces := #[6, 7], accessFlags := 1041 }

/-- the primitive int -/
def k10 : Class := { plain "int" none with kind := .primitive 'I', accessFlags := 0x411 }
/-- [I -/
def k11 : Class := { plain "[I" (some 0) with kind := .array 10 .int, interfaces := #[6, 7], accessFlags := 1041 }

/-- the primitive long -/
def k12 : Class := { plain "long" none with kind := .primitive 'J', accessFlags := 0x411 }
/-- [J -/
def k13 : Class := { plain "[J" (some 0) with kind := .array 12 .long, interfaces := #[6, 7], accessFlags := 1041 }

def heap : Heap := #[]
def classes : Array Class := #[k0, k1, k2, k3, k4, k5, k6, k7, k8, k9, k10, k11, k12, k13]
def interned : List (Array UInt16 × Addr) := []
def slotsUsed : Nat := 0
def theMethod : MethodId := ⟨1, 3⟩
def args0 : Array Value := #[.int 640, .int 1, .int 2, .int 3]
def aboutOver (below : List Frame) : State where
  vm := { classes := classes, interned := interned.toArray }
  heap := heap
  slotsUsed := slotsUsed
  threads := #[{ frames := .invoking theMethod args0 :: below }]
def below0 : List Frame := [.native { method := ⟨0, 0⟩, args := #[] }]
def about1 : State := aboutOver below0
def p0 : Program := .bare "" "" ""
def e0 : Env := launch0.env 0 0 0
theorem w_frames : about1.frames = Frame.invoking theMethod args0 :: below0 := rfl
set_option maxRecDepth 65536 in
theorem w_args : argsFit about1.vm theMethod args0 = true := by decide +kernel
set_option maxRecDepth 65536 in
theorem w_heap : heapFits about1 = true := by decide +kernel
set_option maxRecDepth 65536 in
theorem w_runnable : about1.curStatus? = some .runnable := by decide +kernel
set_option maxRecDepth 65536 in
theorem w_alone : about1.alone = true := by decide +kernel
set_option maxRecDepth 65536 in
theorem w_named : about1.methodNamed? x = some theMethod := by decide +kernel
set_option maxRecDepth 65536 in
theorem w_hears : about1.hears theMethod below0 = true := by decide +kernel
set_option maxRecDepth 65536 in
theorem w_ripe : about1.ripe theMethod args0 below0 = true := by decide +kernel
theorem w_running : about1.status = .running := rfl
set_option maxRecDepth 65536 in
theorem w_room : about1.hasRoom e0.platform room_1 = true :=
  launch0.hasRoom_least _ room_1 (by decide +kernel) (by decide +kernel) (by decide +kernel) (by decide +kernel) (by decide +kernel) (by decide +kernel)
theorem allAtoms_all (ts : List Jvm.Cond) (a : Array Jvm.Value) (st : Jvm.State) : (allAtoms ts).before a st = ts.all (fun c => c.before a st) := by
  induction ts with
  | nil => rfl
  | cons c t ih =>
    show (Jvm.Cond.and c (allAtoms t)).before a st = _
    rw [Jvm.Cond.before_and, ih, List.all_cons]
def words1 : List Jvm.Cond := Jvm.Cond.code x code maxLocals ret :: tables_1
/-- a 'code' word, met by the world's own term for the bytes: nothing is compared byte by byte -/
theorem code_word {y : MethodName} {bytes : ByteArray} {mx : Nat} {rt : Option FieldType} {a : Array Value} {s : State} {m : MethodId} {meth : Method} {c : Code} (h1 : s.methodNamed? y = some m) (h2 : s.vm.method? m = some meth) (h3 : meth.code = some c) (h4 : c.code = bytes)
    (h5 : (c.maxLocals == mx && c.exceptionTable.isEmpty && decide (c.maxStack ≤ mostOperands) && decide (meth.sig.returnType = rt) && !meth.locks && decide (parseMethodDescriptor y.desc = some meth.sig)) = true) : (Jvm.Cond.code y bytes mx rt).before a s = true := by
  simp only [Bool.and_eq_true, beq_iff_eq, Bool.not_eq_true', decide_eq_true_eq] at h5
  obtain ⟨⟨⟨⟨⟨g1, g2⟩, g3⟩, g4⟩, g5⟩, g6⟩ := h5
  simp [Cond.before, Cond.holds, Cond.value, h1, h2, h3, h4, g1, g2, g3, g4, g5, g6]
def isCode : Jvm.Cond → Bool
  | .code _ _ _ _ => true
  | _ => false
theorem all_split {L : List Jvm.Cond} {P : Jvm.Cond → Bool} (h1 : L.all (fun c => isCode c || P c) = true) (h2 : ∀ c ∈ L.filter isCode, P c = true) : L.all P = true := by
  refine List.all_eq_true.mpr fun c hc => ?_
  have h := List.all_eq_true.mp h1 c hc
  rcases Bool.eq_false_or_eq_true (isCode c) with hi | hi
  · exact h2 c (List.mem_filter.mpr ⟨hc, hi⟩)
  · simpa [hi] using h
set_option maxRecDepth 65536 in
theorem w_c0 : (Jvm.Cond.code x code maxLocals ret).before args0 about1 = true := code_word (m := ⟨1, 3⟩) (meth := k1m3) (c := k1c3) (by decide +kernel) rfl rfl rfl (by decide +kernel)
set_option maxRecDepth 65536 in
theorem w_c1 : (Jvm.Cond.code ({ cls := "com/example/credence/credence/oauth1/Owners", name := "<init>", desc := "(IJJ)V" } : Jvm.MethodName) prog_14_method_1_code (6 : Nat) (Option.none : Option Jvm.ClassFile.FieldType)).before args0 about1 = true := code_word (m := ⟨2, 0⟩) (meth := k2m0) (c := k2c0) (by decide +kernel) rfl rfl rfl (by decide +kernel)
set_option maxRecDepth 65536 in
theorem w_c2 : (Jvm.Cond.code ({ cls := "java/lang/Object", name := "<init>", desc := "()V" } : Jvm.MethodName) object_method_1_code (1 : Nat) (Option.none : Option Jvm.ClassFile.FieldType)).before args0 about1 = true := code_word (m := ⟨0, 0⟩) (meth := k0m0) (c := k0c0) (by decide +kernel) rfl rfl rfl (by decide +kernel)
set_option maxRecDepth 65536 in
theorem w_c3 : (Jvm.Cond.code ({ cls := "java/lang/Math", name := "max", desc := "(II)I" } : Jvm.MethodName) jdk_29_method_65_code (2 : Nat) (Option.some Jvm.ClassFile.FieldType.int)).before args0 about1 = true := code_word (m := ⟨3, 1⟩) (meth := k3m1) (c := k3c1) (by decide +kernel) rfl rfl rfl (by decide +kernel)
set_option maxRecDepth 65536 in
theorem w_c4 : (Jvm.Cond.code ({ cls := "com/example/credence/credence/oauth1/HeavyHitters", name := "<init>", desc := "(JIJ)V" } : Jvm.MethodName) prog_11_method_1_code (6 : Nat) (Option.none : Option Jvm.ClassFile.FieldType)).before args0 about1 = true := code_word (m := ⟨4, 0⟩) (meth := k4m0) (c := k4c0) (by decide +kernel) rfl rfl rfl (by decide +kernel)
set_option maxRecDepth 65536 in
theorem w_c5 : (Jvm.Cond.code ({ cls := "java/util/Arrays", name := "fill", desc := "([JJ)V" } : Jvm.MethodName) jdk_65_method_101_code (5 : Nat) (Option.none : Option Jvm.ClassFile.FieldType)).before args0 about1 = true := code_word (m := ⟨5, 1⟩) (meth := k5m1) (c := k5c1) (by decide +kernel) rfl rfl rfl (by decide +kernel)
set_option maxRecDepth 65536 in
theorem w_c6 : (Jvm.Cond.code ({ cls := "com/example/credence/credence/oauth1/Owners", name := "kept", desc := "(I)V" } : Jvm.MethodName) prog_14_method_13_code (2 : Nat) (Option.none : Option Jvm.ClassFile.FieldType)).before args0 about1 = true := code_word (m := ⟨2, 4⟩) (meth := k2m4) (c := k2c4) (by decide +kernel) rfl rfl rfl (by decide +kernel)
set_option maxRecDepth 65536 in
theorem w_c7 : (Jvm.Cond.code ({ cls := "com/example/credence/credence/oauth1/Owners", name := "letGo", desc := "(I)V" } : Jvm.MethodName) prog_14_method_14_code (2 : Nat) (Option.none : Option Jvm.ClassFile.FieldType)).before args0 about1 = true := code_word (m := ⟨2, 5⟩) (meth := k2m5) (c := k2c5) (by decide +kernel) rfl rfl rfl (by decide +kernel)
set_option maxRecDepth 65536 in
theorem w_c8 : (Jvm.Cond.code ({ cls := "com/example/credence/credence/oauth1/OwnersLetGoPinLaw", name := "ind", desc := "(Z)I" } : Jvm.MethodName) method_2_code (1 : Nat) (Option.some Jvm.ClassFile.FieldType.int)).before args0 about1 = true := code_word (m := ⟨1, 1⟩) (meth := k1m1) (c := k1c1) (by decide +kernel) rfl rfl rfl (by decide +kernel)
set_option maxRecDepth 65536 in
theorem w_c9 : (Jvm.Cond.code ({ cls := "com/example/credence/credence/oauth1/Owners", name := "held", desc := "(I)I" } : Jvm.MethodName) prog_14_method_10_code (2 : Nat) (Option.some Jvm.ClassFile.FieldType.int)).before args0 about1 = true := code_word (m := ⟨2, 1⟩) (meth := k2m1) (c := k2c1) (by decide +kernel) rfl rfl rfl (by decide +kernel)
set_option maxRecDepth 65536 in
theorem w_c10 : (Jvm.Cond.code ({ cls := "com/example/credence/credence/oauth1/OwnersLetGoPinLaw", name := "expectedHeld", desc := "(IIIZ)I" } : Jvm.MethodName) method_3_code (4 : Nat) (Option.some Jvm.ClassFile.FieldType.int)).before args0 about1 = true := code_word (m := ⟨1, 2⟩) (meth := k1m2) (c := k1c2) (by decide +kernel) rfl rfl rfl (by decide +kernel)
set_option maxRecDepth 65536 in
theorem w_c11 : (Jvm.Cond.code ({ cls := "com/example/credence/credence/oauth1/Owners", name := "heldByClients", desc := "()I" } : Jvm.MethodName) prog_14_method_11_code (1 : Nat) (Option.some Jvm.ClassFile.FieldType.int)).before args0 about1 = true := code_word (m := ⟨2, 2⟩) (meth := k2m2) (c := k2c2) (by decide +kernel) rfl rfl rfl (by decide +kernel)
set_option maxRecDepth 65536 in
theorem w_c12 : (Jvm.Cond.code ({ cls := "com/example/credence/credence/oauth1/Owners", name := "heldByGroups", desc := "()I" } : Jvm.MethodName) prog_14_method_12_code (1 : Nat) (Option.some Jvm.ClassFile.FieldType.int)).before args0 about1 = true := code_word (m := ⟨2, 3⟩) (meth := k2m3) (c := k2c3) (by decide +kernel) rfl rfl rfl (by decide +kernel)
def codes1 : List Jvm.Cond := [Jvm.Cond.code x code maxLocals ret, Jvm.Cond.code ({ cls := "com/example/credence/credence/oauth1/Owners", name := "<init>", desc := "(IJJ)V" } : Jvm.MethodName) prog_14_method_1_code (6 : Nat) (Option.none : Option Jvm.ClassFile.FieldType), Jvm.Cond.code ({ cls := "java/lang/Object", name := "<init>", desc := "()V" } : Jvm.MethodName) object_method_1_code (1 : Nat) (Option.none : Option Jvm.ClassFile.FieldType), Jvm.Cond.code ({ cls := "java/lang/Math", name := "max", desc := "(II)I" } : Jvm.MethodName) jdk_29_method_65_code (2 : Nat) (Option.some Jvm.ClassFile.FieldType.int), Jvm.Cond.code ({ cls := "com/example/credence/credence/oauth1/HeavyHitters", name := "<init>", desc := "(JIJ)V" } : Jvm.MethodName) prog_11_method_1_code (6 : Nat) (Option.none : Option Jvm.ClassFile.FieldType), Jvm.Cond.code ({ cls := "java/util/Arrays", name := "fill", desc := "([JJ)V" } : Jvm.MethodName) jdk_65_method_101_code (5 : Nat) (Option.none : Option Jvm.ClassFile.FieldType), Jvm.Cond.code ({ cls := "com/example/credence/credence/oauth1/Owners", name := "kept", desc := "(I)V" } : Jvm.MethodName) prog_14_method_13_code (2 : Nat) (Option.none : Option Jvm.ClassFile.FieldType), Jvm.Cond.code ({ cls := "com/example/credence/credence/oauth1/Owners", name := "letGo", desc := "(I)V" } : Jvm.MethodName) prog_14_method_14_code (2 : Nat) (Option.none : Option Jvm.ClassFile.FieldType), Jvm.Cond.code ({ cls := "com/example/credence/credence/oauth1/OwnersLetGoPinLaw", name := "ind", desc := "(Z)I" } : Jvm.MethodName) method_2_code (1 : Nat) (Option.some Jvm.ClassFile.FieldType.int), Jvm.Cond.code ({ cls := "com/example/credence/credence/oauth1/Owners", name := "held", desc := "(I)I" } : Jvm.MethodName) prog_14_method_10_code (2 : Nat) (Option.some Jvm.ClassFile.FieldType.int), Jvm.Cond.code ({ cls := "com/example/credence/credence/oauth1/OwnersLetGoPinLaw", name := "expectedHeld", desc := "(IIIZ)I" } : Jvm.MethodName) method_3_code (4 : Nat) (Option.some Jvm.ClassFile.FieldType.int), Jvm.Cond.code ({ cls := "com/example/credence/credence/oauth1/Owners", name := "heldByClients", desc := "()I" } : Jvm.MethodName) prog_14_method_11_code (1 : Nat) (Option.some Jvm.ClassFile.FieldType.int), Jvm.Cond.code ({ cls := "com/example/credence/credence/oauth1/Owners", name := "heldByGroups", desc := "()I" } : Jvm.MethodName) prog_14_method_12_code (1 : Nat) (Option.some Jvm.ClassFile.FieldType.int)]
set_option maxRecDepth 65536 in
theorem codes_eq : words1.filter isCode = codes1 := rfl
theorem w_codes : ∀ c ∈ words1.filter isCode, c.before args0 about1 = true := by
  rw [codes_eq]
  intro c hc
  simp only [codes1, List.mem_cons, List.not_mem_nil, or_false] at hc
  rcases hc with rfl | rfl | rfl | rfl | rfl | rfl | rfl | rfl | rfl | rfl | rfl | rfl | rfl
  · exact w_c0
  · exact w_c1
  · exact w_c2
  · exact w_c3
  · exact w_c4
  · exact w_c5
  · exact w_c6
  · exact w_c7
  · exact w_c8
  · exact w_c9
  · exact w_c10
  · exact w_c11
  · exact w_c12
set_option maxRecDepth 65536 in
theorem w_t1 : (words1.take 24).all (fun c => isCode c || c.before args0 about1) = true := by decide +kernel
set_option maxRecDepth 65536 in
theorem w_t2 : ((words1.drop 24).take 24).all (fun c => isCode c || c.before args0 about1) = true := by decide +kernel
set_option maxRecDepth 65536 in
theorem w_t3 : (((words1.drop 24).drop 24).take 24).all (fun c => isCode c || c.before args0 about1) = true := by decide +kernel
set_option maxRecDepth 65536 in
theorem w_t4 : ((((words1.drop 24).drop 24).drop 24).take 24).all (fun c => isCode c || c.before args0 about1) = true := by decide +kernel
set_option maxRecDepth 65536 in
theorem w_t5 : ((((words1.drop 24).drop 24).drop 24).drop 24).all (fun c => isCode c || c.before args0 about1) = true := by decide +kernel
theorem w_tables : (allAtoms (Jvm.Cond.code x code maxLocals ret :: tables_1)).before args0 about1 = true := by
  rw [allAtoms_all]
  show words1.all (fun c => c.before args0 about1) = true
  refine all_split ?_ w_codes
  rw [← List.take_append_drop 24 words1, List.all_append, w_t1, ← List.take_append_drop 24 (words1.drop 24), List.all_append, w_t2, ← List.take_append_drop 24 ((words1.drop 24).drop 24), List.all_append, w_t3, ← List.take_append_drop 24 (((words1.drop 24).drop 24).drop 24), List.all_append, w_t4, w_t5]
  rfl
set_option maxRecDepth 65536 in
theorem w_case : (Jvm.Cond.and given_1 narrow_1).before args0 about1 = true := by decide +kernel
theorem w_applies : (headSpec (Jvm.Cond.code x code maxLocals ret :: tables_1) room_1).applies x e0.platform about1 = true :=
  (Spec.applies_iff w_frames).mpr ⟨w_running, w_runnable, w_alone, w_named, w_hears, w_ripe, w_room, w_tables⟩
theorem atStart : AtStart classFile x code maxLocals ret World_1 tables_1 room_1 Calls_1 rest_1 Pre_1 launch0 p0 e0 about1 theMethod args0 below0 :=
  ⟨lists_1, trivial, launch0.admits_env _ _ _, launch0.least_env, fairChoices_fair.cas, fairChoices_fair.clock, w_frames, w_args, w_heap, w_applies, trivial, trivial, w_case⟩
end start1
theorem witness_1 : WitnessClaimed_1 := ⟨start1.p0, start1.e0, start1.about1, start1.theMethod, start1.args0, start1.below0, start1.atStart⟩
end Jvm.Pilot.@@N@@
